/-
  DERIVED. GIVEN WITH THE SEED: THE CARDS: each row of YtkhjffjdchkobaaDoorRows.lean that lists a variable, with what it lists TIED to the program's text (the seventh form; the later family's looks); each row that meets fmt, with fmt's text TOLD by the authors' own Lean function (tested against real Go, not proved from fmt's source: count such statements apart). THE CARD IS WHAT COUNTS. Prove the row's statement (the work); the ties are given (YtkhjffjdchkobaaDoorTie.lean); close each card by the builder's one call (the guide's Derived/Test/ToyasCard.lean, 'card_holds'). Laid BY PROGRAM, IN A SANDBOX (cutbox-door.mjs). By AI agents, Wed Nov 11 2026. No macro, syntax, notation, axiom, sorry.
-/
import Derived.Test.YtkhjffjdchkobaaDoorRows
import GoSem.ClaimSeven
namespace Go.Proofs.YtkhjffjdchkobaaDoor
namespace Rows

/-- THE TIED CARD OF 'laws.FnGetBools'. -/
def fnGetBoolsCard : Claim7 := { stood := { row := fnGetBoolsRow, standIns := [], harness := (true, "cb7223910499eeaa3b467db9ecc49f5b6c1648329a7d625f588f95f87668c35e"), looks := true }, kinds := [], alts := [], laidByText := true, laidKinds := [.data, .data, .data, .sentinel, .sentinel], laidTests := true, laidLooks := .later }
def FnGetBoolsCardSaid : Prop := Claim7.holds Tryd.pinned (.plain (OpenSpec.ofChange fnGetBoolsSpec)) fnGetBoolsCard

/-- THE SECOND FORM's CARD OF 'laws.FnGetBools'. -/
def fnGetBoolsUptoCard : Claim7 := { stood := { row := fnGetBoolsUptoRow, standIns := [], harness := (true, "cb7223910499eeaa3b467db9ecc49f5b6c1648329a7d625f588f95f87668c35e"), looks := true }, kinds := [], alts := [], laidByText := true, laidKinds := [.data, .data, .data, .sentinel, .sentinel], laidTests := true, laidLooks := .later }
def FnGetBoolsUptoCardSaid : Prop := Claim7.holds Tryd.pinned (.plain (OpenSpec.upto fnGetBoolsSpec)) fnGetBoolsUptoCard
end Rows
end Go.Proofs.YtkhjffjdchkobaaDoor
