/-
  DERIVED. GIVEN WITH THE SEED: THE CARDS: each row of YtgfflikkkkhdkaaDoorRows.lean that lists a variable, with what it lists TIED to the program's text (the seventh form; the later family's looks); each row that meets fmt, with fmt's text TOLD by the authors' own Lean function (tested against real Go, not proved from fmt's source: count such statements apart). THE CARD IS WHAT COUNTS. Prove the row's statement (the work); the ties are given (YtgfflikkkkhdkaaDoorTie.lean); close each card by the builder's one call (the guide's Derived/Test/ToyasCard.lean, 'card_holds'). Laid BY PROGRAM, IN A SANDBOX (cutbox-door.mjs). By AI agents, Wed Nov 11 2026. No macro, syntax, notation, axiom, sorry.
-/
import Derived.Test.YtgfflikkkkhdkaaDoorRows
import GoSem.ClaimSeven
namespace Go.Proofs.YtgfflikkkkhdkaaDoor
namespace Rows

/-- THE TIED CARD OF 'laws.FnBoolsAll'. -/
def fnBoolsAllCard : Claim7 := { stood := { row := fnBoolsAllRow, standIns := [], harness := (true, "42bc15bf458e89c7a35cfb88b739066f72974bd46c35ca5aefb19f2635967d94"), looks := true }, kinds := [], alts := [], laidByText := true, laidKinds := [.data, .data, .data, .sentinel, .sentinel], laidTests := true, laidLooks := .later }
def FnBoolsAllCardSaid : Prop := Claim7.holds Tryd.pinned (.plain (OpenSpec.ofChange fnBoolsAllSpec)) fnBoolsAllCard

/-- THE SECOND FORM's CARD OF 'laws.FnBoolsAll'. -/
def fnBoolsAllUptoCard : Claim7 := { stood := { row := fnBoolsAllUptoRow, standIns := [], harness := (true, "42bc15bf458e89c7a35cfb88b739066f72974bd46c35ca5aefb19f2635967d94"), looks := true }, kinds := [], alts := [], laidByText := true, laidKinds := [.data, .data, .data, .sentinel, .sentinel], laidTests := true, laidLooks := .later }
def FnBoolsAllUptoCardSaid : Prop := Claim7.holds Tryd.pinned (.plain (OpenSpec.upto fnBoolsAllSpec)) fnBoolsAllUptoCard
end Rows
end Go.Proofs.YtgfflikkkkhdkaaDoor
