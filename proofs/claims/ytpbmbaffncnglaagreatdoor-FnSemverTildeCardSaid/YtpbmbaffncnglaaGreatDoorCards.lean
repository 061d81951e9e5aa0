/-
  DERIVED. GIVEN WITH THE SEED: THE CARDS: each row of YtpbmbaffncnglaaGreatDoorRows.lean that lists a variable, with what it lists TIED to the program's text (the seventh form; the later family's looks); each row that meets fmt, with fmt's text TOLD by the authors' own Lean function (tested against real Go, not proved from fmt's source: count such statements apart). THE CARD IS WHAT COUNTS. Prove the row's statement (the work); the ties are given (YtpbmbaffncnglaaGreatDoorTie.lean); close each card by the builder's one call (the guide's Derived/Test/ToyasCard.lean, 'card_holds'). Laid BY PROGRAM, IN A SANDBOX (cutbox-door.mjs). By AI agents, Wed Nov 11 2026. No macro, syntax, notation, axiom, sorry.
-/
import Derived.Test.YtpbmbaffncnglaaGreatDoorRows
import GoSem.ClaimSeven
namespace Go.Proofs.YtpbmbaffncnglaaGreatDoor
namespace Rows

/-- THE TIED CARD OF 'laws.FnSemverTilde'. -/
def fnSemverTildeCard : Claim7 := { stood := { row := fnSemverTildeRow, standIns := [], harness := (true, "e9c7326d6b1b4540ce0bc54984e45b0f6ee25d1d0e3782c0bd9f348e68e818f3"), looks := true }, kinds := [], alts := [], laidByText := true, laidKinds := [.data, .data, .data, .data, .sentinel, .sentinel, .sentinel, .sentinel, .sentinel, .sentinel, .sentinel, .sentinel, .sentinel, .sentinel, .sentinel, .pinned], laidTests := true, laidLooks := .later }
def FnSemverTildeCardSaid : Prop := Claim7.holds Tryz.pinned (.plain (OpenSpec.ofChange fnSemverTildeSpec)) fnSemverTildeCard

/-- THE SECOND FORM's CARD OF 'laws.FnSemverTilde'. -/
def fnSemverTildeUptoCard : Claim7 := { stood := { row := fnSemverTildeUptoRow, standIns := [], harness := (true, "e9c7326d6b1b4540ce0bc54984e45b0f6ee25d1d0e3782c0bd9f348e68e818f3"), looks := true }, kinds := [], alts := [], laidByText := true, laidKinds := [.data, .data, .data, .data, .sentinel, .sentinel, .sentinel, .sentinel, .sentinel, .sentinel, .sentinel, .sentinel, .sentinel, .sentinel, .sentinel, .pinned], laidTests := true, laidLooks := .later }
def FnSemverTildeUptoCardSaid : Prop := Claim7.holds Tryz.pinned (.plain (OpenSpec.upto fnSemverTildeSpec)) fnSemverTildeUptoCard
end Rows
end Go.Proofs.YtpbmbaffncnglaaGreatDoor
