/-
  DERIVED. GIVEN WITH THE SEED: THE CARDS: each row of YtioldikeiiibgaaGreatDoorRows.lean that lists a variable, with what it lists TIED to the program's text (the seventh form; the later family's looks); each row that meets fmt, with fmt's text TOLD by the authors' own Lean function (tested against real Go, not proved from fmt's source: count such statements apart). THE CARD IS WHAT COUNTS. Prove the row's statement (the work); the ties are given (YtioldikeiiibgaaGreatDoorTie.lean); close each card by the builder's one call (the guide's Derived/Test/ToyasCard.lean, 'card_holds'). Laid BY PROGRAM, IN A SANDBOX (cutbox-door.mjs). By AI agents, Wed Nov 11 2026. No macro, syntax, notation, axiom, sorry.
-/
import Derived.Test.YtioldikeiiibgaaGreatDoorRows
import GoSem.ClaimSeven
namespace Go.Proofs.YtioldikeiiibgaaGreatDoor
namespace Rows

/-- THE TIED CARD OF 'laws.FnGetUints'. -/
def fnGetUintsCard : Claim7 := { stood := { row := fnGetUintsRow, standIns := [], harness := (true, "6edd7f52784d01e98e5a4061ff43775d8c12c8b0b3c31db7f4df9c21e36cbea4"), looks := true }, kinds := [], alts := [], laidByText := true, laidKinds := [.data, .data, .data, .sentinel, .sentinel], laidTests := true, laidLooks := .later }
def FnGetUintsCardSaid : Prop := Claim7.holds Tryz.pinned (.plain (OpenSpec.ofChange fnGetUintsSpec)) fnGetUintsCard

/-- THE SECOND FORM's CARD OF 'laws.FnGetUints'. -/
def fnGetUintsUptoCard : Claim7 := { stood := { row := fnGetUintsUptoRow, standIns := [], harness := (true, "6edd7f52784d01e98e5a4061ff43775d8c12c8b0b3c31db7f4df9c21e36cbea4"), looks := true }, kinds := [], alts := [], laidByText := true, laidKinds := [.data, .data, .data, .sentinel, .sentinel], laidTests := true, laidLooks := .later }
def FnGetUintsUptoCardSaid : Prop := Claim7.holds Tryz.pinned (.plain (OpenSpec.upto fnGetUintsSpec)) fnGetUintsUptoCard
end Rows
end Go.Proofs.YtioldikeiiibgaaGreatDoor
