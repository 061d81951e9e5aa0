/-
  DERIVED. GIVEN WITH THE SEED: THE CARDS: each row of YthejepmnnpmdmaaGreatDoorRows.lean that lists a variable, with what it lists TIED to the program's text (the seventh form; the later family's looks); each row that meets fmt, with fmt's text TOLD by the authors' own Lean function (tested against real Go, not proved from fmt's source: count such statements apart). THE CARD IS WHAT COUNTS. Prove the row's statement (the work); the ties are given (YthejepmnnpmdmaaGreatDoorTie.lean); close each card by the builder's one call (the guide's Derived/Test/ToyasCard.lean, 'card_holds'). Laid BY PROGRAM, IN A SANDBOX (cutbox-door.mjs). By AI agents, Wed Nov 11 2026. No macro, syntax, notation, axiom, sorry.
-/
import Derived.Test.YthejepmnnpmdmaaGreatDoorRows
import GoSem.ClaimSeven
namespace Go.Proofs.YthejepmnnpmdmaaGreatDoor
namespace Rows

/-- THE TIED CARD OF 'laws.FnSemverBroken'. -/
def fnSemverBrokenCard : Claim7 := { stood := { row := fnSemverBrokenRow, standIns := [], harness := (true, "e87106a5e733f197ea8c1cad32a2e97af2f88734da84c191e67d0084362c6b4e"), looks := true }, kinds := [], alts := [], laidByText := true, laidKinds := [.data, .data, .data, .data, .sentinel, .sentinel, .sentinel, .sentinel, .sentinel, .sentinel, .sentinel, .sentinel, .sentinel, .sentinel, .sentinel, .pinned], laidTests := true, laidLooks := .later }
def FnSemverBrokenCardSaid : Prop := Claim7.holds Tryz.pinned (.plain (OpenSpec.ofChange fnSemverBrokenSpec)) fnSemverBrokenCard

/-- THE SECOND FORM's CARD OF 'laws.FnSemverBroken'. -/
def fnSemverBrokenUptoCard : Claim7 := { stood := { row := fnSemverBrokenUptoRow, standIns := [], harness := (true, "e87106a5e733f197ea8c1cad32a2e97af2f88734da84c191e67d0084362c6b4e"), looks := true }, kinds := [], alts := [], laidByText := true, laidKinds := [.data, .data, .data, .data, .sentinel, .sentinel, .sentinel, .sentinel, .sentinel, .sentinel, .sentinel, .sentinel, .sentinel, .sentinel, .sentinel, .pinned], laidTests := true, laidLooks := .later }
def FnSemverBrokenUptoCardSaid : Prop := Claim7.holds Tryz.pinned (.plain (OpenSpec.upto fnSemverBrokenSpec)) fnSemverBrokenUptoCard
end Rows
end Go.Proofs.YthejepmnnpmdmaaGreatDoor
