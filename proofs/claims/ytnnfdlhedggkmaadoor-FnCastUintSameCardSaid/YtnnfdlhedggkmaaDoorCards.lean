/-
  DERIVED. GIVEN WITH THE SEED: THE CARDS: each row of YtnnfdlhedggkmaaDoorRows.lean that lists a variable, with what it lists TIED to the program's text (the seventh form; the later family's looks); each row that meets fmt, with fmt's text TOLD by the authors' own Lean function (tested against real Go, not proved from fmt's source: count such statements apart). THE CARD IS WHAT COUNTS. Prove the row's statement (the work); the ties are given (YtnnfdlhedggkmaaDoorTie.lean); close each card by the builder's one call (the guide's Derived/Test/ToyasCard.lean, 'card_holds'). Laid BY PROGRAM, IN A SANDBOX (cutbox-door.mjs). By AI agents, Wed Nov 11 2026. No macro, syntax, notation, axiom, sorry.
-/
import Derived.Test.YtnnfdlhedggkmaaDoorRows
import GoSem.ClaimSeven
namespace Go.Proofs.YtnnfdlhedggkmaaDoor
namespace Rows

/-- THE TIED CARD OF 'laws.FnCastMapTexts'. -/
def fnCastMapTextsCard : Claim7 := { stood := { row := fnCastMapTextsRow, standIns := [], harness := (true, "243105d70b8ee8053951c1fa3d4c9b3819f566fb7ef6efdfb068909debb7082a"), looks := true }, kinds := [], alts := [], laidByText := true, laidKinds := [.data, .data, .data, .data, .pinned, .pinned], laidTests := true, laidLooks := .later }
def FnCastMapTextsCardSaid : Prop := Claim7.holds Tryd.pinned (.plain (OpenSpec.ofChange fnCastMapTextsSpec)) fnCastMapTextsCard

/-- THE TIED CARD OF 'laws.FnCastMust'. -/
def fnCastMustCard : Claim7 := { stood := { row := fnCastMustRow, standIns := [], harness := (true, "243105d70b8ee8053951c1fa3d4c9b3819f566fb7ef6efdfb068909debb7082a"), looks := true }, kinds := [], alts := [], laidByText := true, laidKinds := [.data, .data, .data, .sentinel, .sentinel], laidTests := true, laidLooks := .later }
def FnCastMustCardSaid : Prop := Claim7.holds Tryd.pinned (.plain (OpenSpec.ofChange fnCastMustSpec)) fnCastMustCard

/-- THE TIED CARD OF 'laws.FnCastUintSame'. -/
def fnCastUintSameCard : Claim7 := { stood := { row := fnCastUintSameRow, standIns := [], harness := (true, "243105d70b8ee8053951c1fa3d4c9b3819f566fb7ef6efdfb068909debb7082a"), looks := true }, kinds := [], alts := [], laidByText := true, laidKinds := [.data, .data, .data, .sentinel, .sentinel], laidTests := true, laidLooks := .later }
def FnCastUintSameCardSaid : Prop := Claim7.holds Tryd.pinned (.plain (OpenSpec.ofChange fnCastUintSameSpec)) fnCastUintSameCard

/-- THE TIED CARD OF 'laws.FnCastWide'. -/
def fnCastWideCard : Claim7 := { stood := { row := fnCastWideRow, standIns := [], harness := (true, "243105d70b8ee8053951c1fa3d4c9b3819f566fb7ef6efdfb068909debb7082a"), looks := true }, kinds := [], alts := [], laidByText := true, laidKinds := [.data, .data, .data, .sentinel, .sentinel], laidTests := true, laidLooks := .later }
def FnCastWideCardSaid : Prop := Claim7.holds Tryd.pinned (.plain (OpenSpec.ofChange fnCastWideSpec)) fnCastWideCard

/-- THE SECOND FORM's CARD OF 'laws.FnCastMapTexts'. -/
def fnCastMapTextsUptoCard : Claim7 := { stood := { row := fnCastMapTextsUptoRow, standIns := [], harness := (true, "243105d70b8ee8053951c1fa3d4c9b3819f566fb7ef6efdfb068909debb7082a"), looks := true }, kinds := [], alts := [], laidByText := true, laidKinds := [.data, .data, .data, .data, .pinned, .pinned], laidTests := true, laidLooks := .later }
def FnCastMapTextsUptoCardSaid : Prop := Claim7.holds Tryd.pinned (.plain (OpenSpec.upto fnCastMapTextsSpec)) fnCastMapTextsUptoCard

/-- THE SECOND FORM's CARD OF 'laws.FnCastMust'. -/
def fnCastMustUptoCard : Claim7 := { stood := { row := fnCastMustUptoRow, standIns := [], harness := (true, "243105d70b8ee8053951c1fa3d4c9b3819f566fb7ef6efdfb068909debb7082a"), looks := true }, kinds := [], alts := [], laidByText := true, laidKinds := [.data, .data, .data, .sentinel, .sentinel], laidTests := true, laidLooks := .later }
def FnCastMustUptoCardSaid : Prop := Claim7.holds Tryd.pinned (.plain (OpenSpec.upto fnCastMustSpec)) fnCastMustUptoCard

/-- THE SECOND FORM's CARD OF 'laws.FnCastUintSame'. -/
def fnCastUintSameUptoCard : Claim7 := { stood := { row := fnCastUintSameUptoRow, standIns := [], harness := (true, "243105d70b8ee8053951c1fa3d4c9b3819f566fb7ef6efdfb068909debb7082a"), looks := true }, kinds := [], alts := [], laidByText := true, laidKinds := [.data, .data, .data, .sentinel, .sentinel], laidTests := true, laidLooks := .later }
def FnCastUintSameUptoCardSaid : Prop := Claim7.holds Tryd.pinned (.plain (OpenSpec.upto fnCastUintSameSpec)) fnCastUintSameUptoCard

/-- THE SECOND FORM's CARD OF 'laws.FnCastWide'. -/
def fnCastWideUptoCard : Claim7 := { stood := { row := fnCastWideUptoRow, standIns := [], harness := (true, "243105d70b8ee8053951c1fa3d4c9b3819f566fb7ef6efdfb068909debb7082a"), looks := true }, kinds := [], alts := [], laidByText := true, laidKinds := [.data, .data, .data, .sentinel, .sentinel], laidTests := true, laidLooks := .later }
def FnCastWideUptoCardSaid : Prop := Claim7.holds Tryd.pinned (.plain (OpenSpec.upto fnCastWideSpec)) fnCastWideUptoCard
end Rows
end Go.Proofs.YtnnfdlhedggkmaaDoor
