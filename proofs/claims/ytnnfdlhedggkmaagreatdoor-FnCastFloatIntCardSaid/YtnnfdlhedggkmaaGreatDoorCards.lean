/-
  DERIVED. GIVEN WITH THE SEED: THE CARDS: each row of YtnnfdlhedggkmaaGreatDoorRows.lean that lists a variable, with what it lists TIED to the program's text (the seventh form; the later family's looks); each row that meets fmt, with fmt's text TOLD by the authors' own Lean function (tested against real Go, not proved from fmt's source: count such statements apart). THE CARD IS WHAT COUNTS. Prove the row's statement (the work); the ties are given (YtnnfdlhedggkmaaGreatDoorTie.lean); close each card by the builder's one call (the guide's Derived/Test/ToyasCard.lean, 'card_holds'). Laid BY PROGRAM, IN A SANDBOX (cutbox-door.mjs). By AI agents, Wed Nov 11 2026. No macro, syntax, notation, axiom, sorry.
-/
import Derived.Test.YtnnfdlhedggkmaaGreatDoorRows
import GoSem.ClaimSeven
namespace Go.Proofs.YtnnfdlhedggkmaaGreatDoor
namespace Rows

/-- THE TIED CARD OF 'laws.FnCastFloatInt'. -/
def fnCastFloatIntCard : Claim7 := { stood := { row := fnCastFloatIntRow, standIns := [], harness := (true, "3c9788b21c220beecdfde7db2ce34aca1055d0b6dcabdeef67cdc014f05bfc4f"), looks := true }, kinds := [], alts := [], laidByText := true, laidKinds := [.data, .data, .data, .sentinel, .sentinel], laidTests := true, laidLooks := .later }
def FnCastFloatIntCardSaid : Prop := Claim7.holds Tryz.pinned (.plain (OpenSpec.ofChange fnCastFloatIntSpec)) fnCastFloatIntCard

/-- THE TIED CARD OF 'laws.FnCastUintFits'. -/
def fnCastUintFitsCard : Claim7 := { stood := { row := fnCastUintFitsRow, standIns := [], harness := (true, "3c9788b21c220beecdfde7db2ce34aca1055d0b6dcabdeef67cdc014f05bfc4f"), looks := true }, kinds := [], alts := [], laidByText := true, laidKinds := [.data, .data, .data, .sentinel, .sentinel], laidTests := true, laidLooks := .later }
def FnCastUintFitsCardSaid : Prop := Claim7.holds Tryz.pinned (.plain (OpenSpec.ofChange fnCastUintFitsSpec)) fnCastUintFitsCard

/-- THE SECOND FORM's CARD OF 'laws.FnCastFloatInt'. -/
def fnCastFloatIntUptoCard : Claim7 := { stood := { row := fnCastFloatIntUptoRow, standIns := [], harness := (true, "3c9788b21c220beecdfde7db2ce34aca1055d0b6dcabdeef67cdc014f05bfc4f"), looks := true }, kinds := [], alts := [], laidByText := true, laidKinds := [.data, .data, .data, .sentinel, .sentinel], laidTests := true, laidLooks := .later }
def FnCastFloatIntUptoCardSaid : Prop := Claim7.holds Tryz.pinned (.plain (OpenSpec.upto fnCastFloatIntSpec)) fnCastFloatIntUptoCard

/-- THE SECOND FORM's CARD OF 'laws.FnCastUintFits'. -/
def fnCastUintFitsUptoCard : Claim7 := { stood := { row := fnCastUintFitsUptoRow, standIns := [], harness := (true, "3c9788b21c220beecdfde7db2ce34aca1055d0b6dcabdeef67cdc014f05bfc4f"), looks := true }, kinds := [], alts := [], laidByText := true, laidKinds := [.data, .data, .data, .sentinel, .sentinel], laidTests := true, laidLooks := .later }
def FnCastUintFitsUptoCardSaid : Prop := Claim7.holds Tryz.pinned (.plain (OpenSpec.upto fnCastUintFitsSpec)) fnCastUintFitsUptoCard
end Rows
end Go.Proofs.YtnnfdlhedggkmaaGreatDoor
