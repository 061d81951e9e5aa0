/-
  DERIVED. GIVEN WITH THE SEED: THE CARDS: each row of YtnamjojceadgdaaGreatDoorRows.lean that lists a variable, with what it lists TIED to the program's text (the seventh form; the later family's looks); each row that meets fmt, with fmt's text TOLD by the authors' own Lean function (tested against real Go, not proved from fmt's source: count such statements apart). THE CARD IS WHAT COUNTS. Prove the row's statement (the work); the ties are given (YtnamjojceadgdaaGreatDoorTie.lean); close each card by the builder's one call (the guide's Derived/Test/ToyasCard.lean, 'card_holds'). Laid BY PROGRAM, IN A SANDBOX (cutbox-door.mjs). By AI agents, Wed Nov 11 2026. No macro, syntax, notation, axiom, sorry.
-/
import Derived.Test.YtnamjojceadgdaaGreatDoorRows
import GoSem.ClaimSeven
namespace Go.Proofs.YtnamjojceadgdaaGreatDoor
namespace Rows

/-- THE TIED CARD OF 'laws.FnSemverDeMorgan'. -/
def fnSemverDeMorganCard : Claim7 := { stood := { row := fnSemverDeMorganRow, standIns := [], harness := (true, "4aef4418996092b7fd6aa799595066133c9f32fba6fd3b3a50397a6877e5c56f"), looks := true }, kinds := [], alts := [], laidByText := true, laidKinds := [.data, .data, .data, .data, .sentinel, .sentinel, .sentinel, .sentinel, .sentinel, .sentinel, .sentinel, .sentinel, .sentinel, .sentinel, .sentinel, .pinned], laidTests := true, laidLooks := .later }
def FnSemverDeMorganCardSaid : Prop := Claim7.holds Tryz.pinned (.plain (OpenSpec.ofChange fnSemverDeMorganSpec)) fnSemverDeMorganCard

/-- THE SECOND FORM's CARD OF 'laws.FnSemverDeMorgan'. -/
def fnSemverDeMorganUptoCard : Claim7 := { stood := { row := fnSemverDeMorganUptoRow, standIns := [], harness := (true, "4aef4418996092b7fd6aa799595066133c9f32fba6fd3b3a50397a6877e5c56f"), looks := true }, kinds := [], alts := [], laidByText := true, laidKinds := [.data, .data, .data, .data, .sentinel, .sentinel, .sentinel, .sentinel, .sentinel, .sentinel, .sentinel, .sentinel, .sentinel, .sentinel, .sentinel, .pinned], laidTests := true, laidLooks := .later }
def FnSemverDeMorganUptoCardSaid : Prop := Claim7.holds Tryz.pinned (.plain (OpenSpec.upto fnSemverDeMorganSpec)) fnSemverDeMorganUptoCard
end Rows
end Go.Proofs.YtnamjojceadgdaaGreatDoor
