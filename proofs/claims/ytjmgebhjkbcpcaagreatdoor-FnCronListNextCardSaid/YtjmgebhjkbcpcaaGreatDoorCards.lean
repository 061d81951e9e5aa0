/-
  DERIVED. GIVEN WITH THE SEED: THE CARDS: each row of YtjmgebhjkbcpcaaGreatDoorRows.lean that lists a variable, with what it lists TIED to the program's text (the seventh form; the later family's looks); each row that meets fmt, with fmt's text TOLD by the authors' own Lean function (tested against real Go, not proved from fmt's source: count such statements apart). THE CARD IS WHAT COUNTS. Prove the row's statement (the work); the ties are given (YtjmgebhjkbcpcaaGreatDoorTie.lean); close each card by the builder's one call (the guide's Derived/Test/ToyasCard.lean, 'card_holds'). Laid BY PROGRAM, IN A SANDBOX (cutbox-door.mjs). By AI agents, Wed Nov 11 2026. No macro, syntax, notation, axiom, sorry.
-/
import Derived.Test.YtjmgebhjkbcpcaaGreatDoorRows
import GoSem.ClaimSeven
namespace Go.Proofs.YtjmgebhjkbcpcaaGreatDoor
namespace Rows

/-- THE TIED CARD OF 'laws.FnCronListNext'. -/
def fnCronListNextCard : Claim7 := { stood := { row := fnCronListNextRow, standIns := [], harness := (true, "6ff4858c71b0aa5895a41fdeb0651a09d43c26bc02f2c98ecee89ce5ed8d24e2"), looks := true }, kinds := [], alts := [], laidByText := true, laidKinds := [.data, .data, .data, .data, .sentinel, .sentinel, .sentinel, .sentinel, .pinned], laidTests := true, laidLooks := .later }
def FnCronListNextCardSaid : Prop := Claim7.holds Tryz.pinned (.plain (OpenSpec.ofChange fnCronListNextSpec)) fnCronListNextCard

/-- THE SECOND FORM's CARD OF 'laws.FnCronListNext'. -/
def fnCronListNextUptoCard : Claim7 := { stood := { row := fnCronListNextUptoRow, standIns := [], harness := (true, "6ff4858c71b0aa5895a41fdeb0651a09d43c26bc02f2c98ecee89ce5ed8d24e2"), looks := true }, kinds := [], alts := [], laidByText := true, laidKinds := [.data, .data, .data, .data, .sentinel, .sentinel, .sentinel, .sentinel, .pinned], laidTests := true, laidLooks := .later }
def FnCronListNextUptoCardSaid : Prop := Claim7.holds Tryz.pinned (.plain (OpenSpec.upto fnCronListNextSpec)) fnCronListNextUptoCard
end Rows
end Go.Proofs.YtjmgebhjkbcpcaaGreatDoor
