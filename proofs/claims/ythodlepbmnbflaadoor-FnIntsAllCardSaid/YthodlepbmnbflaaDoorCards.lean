/-
  DERIVED. GIVEN WITH THE SEED: THE CARDS: each row of YthodlepbmnbflaaDoorRows.lean that lists a variable, with what it lists TIED to the program's text (the seventh form; the later family's looks); each row that meets fmt, with fmt's text TOLD by the authors' own Lean function (tested against real Go, not proved from fmt's source: count such statements apart). THE CARD IS WHAT COUNTS. Prove the row's statement (the work); the ties are given (YthodlepbmnbflaaDoorTie.lean); close each card by the builder's one call (the guide's Derived/Test/ToyasCard.lean, 'card_holds'). Laid BY PROGRAM, IN A SANDBOX (cutbox-door.mjs). By AI agents, Wed Nov 11 2026. No macro, syntax, notation, axiom, sorry.
-/
import Derived.Test.YthodlepbmnbflaaDoorRows
import GoSem.ClaimSeven
namespace Go.Proofs.YthodlepbmnbflaaDoor
namespace Rows

/-- THE TIED CARD OF 'laws.FnUints'. -/
def fnUintsCard : Claim7 := { stood := { row := fnUintsRow, standIns := [], harness := (true, "05097a2f3f3994ecc9b4de943c1ec73e687b83abf7ca1de0ef62c15d4c540a52"), looks := true }, kinds := [], alts := [], laidByText := true, laidKinds := [.data, .data, .data, .sentinel, .sentinel], laidTests := true, laidLooks := .later }
def FnUintsCardSaid : Prop := Claim7.holds Tryd.pinned (.plain (OpenSpec.ofChange fnUintsSpec)) fnUintsCard

/-- THE TIED CARD OF 'laws.FnUintsBack'. -/
def fnUintsBackCard : Claim7 := { stood := { row := fnUintsBackRow, standIns := [], harness := (true, "05097a2f3f3994ecc9b4de943c1ec73e687b83abf7ca1de0ef62c15d4c540a52"), looks := true }, kinds := [], alts := [], laidByText := true, laidKinds := [.data, .data, .data, .sentinel, .sentinel], laidTests := true, laidLooks := .later }
def FnUintsBackCardSaid : Prop := Claim7.holds Tryd.pinned (.plain (OpenSpec.ofChange fnUintsBackSpec)) fnUintsBackCard

/-- THE TIED CARD OF 'laws.FnIntsAll'. -/
def fnIntsAllCard : Claim7 := { stood := { row := fnIntsAllRow, standIns := [], harness := (true, "05097a2f3f3994ecc9b4de943c1ec73e687b83abf7ca1de0ef62c15d4c540a52"), looks := true }, kinds := [], alts := [], laidByText := true, laidKinds := [.data, .data, .data, .sentinel, .sentinel], laidTests := true, laidLooks := .later }
def FnIntsAllCardSaid : Prop := Claim7.holds Tryd.pinned (.plain (OpenSpec.ofChange fnIntsAllSpec)) fnIntsAllCard

/-- THE SECOND FORM's CARD OF 'laws.FnUints'. -/
def fnUintsUptoCard : Claim7 := { stood := { row := fnUintsUptoRow, standIns := [], harness := (true, "05097a2f3f3994ecc9b4de943c1ec73e687b83abf7ca1de0ef62c15d4c540a52"), looks := true }, kinds := [], alts := [], laidByText := true, laidKinds := [.data, .data, .data, .sentinel, .sentinel], laidTests := true, laidLooks := .later }
def FnUintsUptoCardSaid : Prop := Claim7.holds Tryd.pinned (.plain (OpenSpec.upto fnUintsSpec)) fnUintsUptoCard

/-- THE SECOND FORM's CARD OF 'laws.FnUintsBack'. -/
def fnUintsBackUptoCard : Claim7 := { stood := { row := fnUintsBackUptoRow, standIns := [], harness := (true, "05097a2f3f3994ecc9b4de943c1ec73e687b83abf7ca1de0ef62c15d4c540a52"), looks := true }, kinds := [], alts := [], laidByText := true, laidKinds := [.data, .data, .data, .sentinel, .sentinel], laidTests := true, laidLooks := .later }
def FnUintsBackUptoCardSaid : Prop := Claim7.holds Tryd.pinned (.plain (OpenSpec.upto fnUintsBackSpec)) fnUintsBackUptoCard

/-- THE SECOND FORM's CARD OF 'laws.FnIntsAll'. -/
def fnIntsAllUptoCard : Claim7 := { stood := { row := fnIntsAllUptoRow, standIns := [], harness := (true, "05097a2f3f3994ecc9b4de943c1ec73e687b83abf7ca1de0ef62c15d4c540a52"), looks := true }, kinds := [], alts := [], laidByText := true, laidKinds := [.data, .data, .data, .sentinel, .sentinel], laidTests := true, laidLooks := .later }
def FnIntsAllUptoCardSaid : Prop := Claim7.holds Tryd.pinned (.plain (OpenSpec.upto fnIntsAllSpec)) fnIntsAllUptoCard
end Rows
end Go.Proofs.YthodlepbmnbflaaDoor
