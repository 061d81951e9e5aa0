/-
  DERIVED. GIVEN WITH THE SEED: THE CARDS: each row of YtflcanlniddgoaaGreatDoorRows.lean that lists a variable, with what it lists TIED to the program's text (the seventh form; the later family's looks); each row that meets fmt, with fmt's text TOLD by the authors' own Lean function (tested against real Go, not proved from fmt's source: count such statements apart). THE CARD IS WHAT COUNTS. Prove the row's statement (the work); the ties are given (YtflcanlniddgoaaGreatDoorTie.lean); close each card by the builder's one call (the guide's Derived/Test/ToyasCard.lean, 'card_holds'). Laid BY PROGRAM, IN A SANDBOX (cutbox-door.mjs). By AI agents, Wed Nov 11 2026. No macro, syntax, notation, axiom, sorry.
-/
import Derived.Test.YtflcanlniddgoaaGreatDoorRows
import GoSem.ClaimSeven
namespace Go.Proofs.YtflcanlniddgoaaGreatDoor
namespace Rows

/-- THE TIED CARD OF 'laws.FnSemverUpgrade'. -/
def fnSemverUpgradeCard : Claim7 := { stood := { row := fnSemverUpgradeRow, standIns := [], harness := (true, "427a2768ba4aebe0134ef9a27b0bbf96c2824c31f3c5be4efabc621d401bf5f8"), looks := true }, kinds := [], alts := [], laidByText := true, laidKinds := [.data, .data, .data, .data, .sentinel, .sentinel, .sentinel, .sentinel, .sentinel, .sentinel, .sentinel, .sentinel, .sentinel, .sentinel, .sentinel, .pinned], laidTests := true, laidLooks := .later }
def FnSemverUpgradeCardSaid : Prop := Claim7.holds Tryz.pinned (.plain (OpenSpec.ofChange fnSemverUpgradeSpec)) fnSemverUpgradeCard

/-- THE SECOND FORM's CARD OF 'laws.FnSemverUpgrade'. -/
def fnSemverUpgradeUptoCard : Claim7 := { stood := { row := fnSemverUpgradeUptoRow, standIns := [], harness := (true, "427a2768ba4aebe0134ef9a27b0bbf96c2824c31f3c5be4efabc621d401bf5f8"), looks := true }, kinds := [], alts := [], laidByText := true, laidKinds := [.data, .data, .data, .data, .sentinel, .sentinel, .sentinel, .sentinel, .sentinel, .sentinel, .sentinel, .sentinel, .sentinel, .sentinel, .sentinel, .pinned], laidTests := true, laidLooks := .later }
def FnSemverUpgradeUptoCardSaid : Prop := Claim7.holds Tryz.pinned (.plain (OpenSpec.upto fnSemverUpgradeSpec)) fnSemverUpgradeUptoCard
end Rows
end Go.Proofs.YtflcanlniddgoaaGreatDoor
