/-
  DERIVED. GIVEN WITH THE SEED: THE CARDS: each row of YtkdecbloihoanaaGreatDoorRows.lean that lists a variable, with what it lists TIED to the program's text (the seventh form; the later family's looks); each row that meets fmt, with fmt's text TOLD by the authors' own Lean function (tested against real Go, not proved from fmt's source: count such statements apart). THE CARD IS WHAT COUNTS. Prove the row's statement (the work); the ties are given (YtkdecbloihoanaaGreatDoorTie.lean); close each card by the builder's one call (the guide's Derived/Test/ToyasCard.lean, 'card_holds'). Laid BY PROGRAM, IN A SANDBOX (cutbox-door.mjs). By AI agents, Wed Nov 11 2026. No macro, syntax, notation, axiom, sorry.
-/
import Derived.Test.YtkdecbloihoanaaGreatDoorRows
import GoSem.ClaimSeven
namespace Go.Proofs.YtkdecbloihoanaaGreatDoor
namespace Rows

/-- THE TIED CARD OF 'laws.FnSemverKindOfGroups'. -/
def fnSemverKindOfGroupsCard : Claim7 := { stood := { row := fnSemverKindOfGroupsRow, standIns := [], harness := (true, "24b2fca3fc91efd62b1f5a0b369b57fdca3cb881158cb07a26790e43340d1e10"), looks := true }, kinds := [], alts := [], laidByText := true, laidKinds := [.data, .data, .data, .data, .sentinel, .sentinel, .sentinel, .sentinel, .sentinel, .sentinel, .sentinel, .sentinel, .sentinel, .sentinel, .sentinel, .pinned], laidTests := true, laidLooks := .later }
def FnSemverKindOfGroupsCardSaid : Prop := Claim7.holds Tryz.pinned (.plain (OpenSpec.ofChange fnSemverKindOfGroupsSpec)) fnSemverKindOfGroupsCard

/-- THE SECOND FORM's CARD OF 'laws.FnSemverKindOfGroups'. -/
def fnSemverKindOfGroupsUptoCard : Claim7 := { stood := { row := fnSemverKindOfGroupsUptoRow, standIns := [], harness := (true, "24b2fca3fc91efd62b1f5a0b369b57fdca3cb881158cb07a26790e43340d1e10"), looks := true }, kinds := [], alts := [], laidByText := true, laidKinds := [.data, .data, .data, .data, .sentinel, .sentinel, .sentinel, .sentinel, .sentinel, .sentinel, .sentinel, .sentinel, .sentinel, .sentinel, .sentinel, .pinned], laidTests := true, laidLooks := .later }
def FnSemverKindOfGroupsUptoCardSaid : Prop := Claim7.holds Tryz.pinned (.plain (OpenSpec.upto fnSemverKindOfGroupsSpec)) fnSemverKindOfGroupsUptoCard
end Rows
end Go.Proofs.YtkdecbloihoanaaGreatDoor
