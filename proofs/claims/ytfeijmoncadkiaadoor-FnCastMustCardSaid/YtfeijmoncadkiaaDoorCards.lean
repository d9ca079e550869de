/-
  DERIVED. GIVEN WITH THE SEED: THE CARDS: each row of YtfeijmoncadkiaaDoorRows.lean that lists a variable, with what it lists TIED to the program's text (the seventh form; the later family's looks); each row that meets fmt, with fmt's text TOLD by the authors' own Lean function (tested against real Go, not proved from fmt's source: count such statements apart). THE CARD IS WHAT COUNTS. Prove the row's statement (the work); the ties are given (YtfeijmoncadkiaaDoorTie.lean); close each card by the builder's one call (the guide's Derived/Test/ToyasCard.lean, 'card_holds'). Laid BY PROGRAM, IN A SANDBOX (cutbox-door.mjs). By AI agents, Wed Nov 11 2026. No macro, syntax, notation, axiom, sorry.
-/
import Derived.Test.YtfeijmoncadkiaaDoorRows
import GoSem.ClaimSeven
namespace Go.Proofs.YtfeijmoncadkiaaDoor
namespace Rows

/-- THE TIED CARD OF 'laws.FnCastWide'. -/
def fnCastWideCard : Claim7 := { stood := { row := fnCastWideRow, standIns := [], harness := (true, "dd416e5aa85e0668b58056ae8aed967d7f3b5c509853f95274298d21d9a32e65"), looks := true }, kinds := [], alts := [], laidByText := true, laidKinds := [.data, .data, .data, .sentinel, .sentinel], laidTests := true, laidLooks := .later }
def FnCastWideCardSaid : Prop := Claim7.holds Tryd.pinned (.plain (OpenSpec.ofChange fnCastWideSpec)) fnCastWideCard

/-- THE TIED CARD OF 'laws.FnCastMust'. -/
def fnCastMustCard : Claim7 := { stood := { row := fnCastMustRow, standIns := [], harness := (true, "dd416e5aa85e0668b58056ae8aed967d7f3b5c509853f95274298d21d9a32e65"), looks := true }, kinds := [], alts := [], laidByText := true, laidKinds := [.data, .data, .data, .sentinel, .sentinel], laidTests := true, laidLooks := .later }
def FnCastMustCardSaid : Prop := Claim7.holds Tryd.pinned (.plain (OpenSpec.ofChange fnCastMustSpec)) fnCastMustCard

/-- THE SECOND FORM's CARD OF 'laws.FnCastWide'. -/
def fnCastWideUptoCard : Claim7 := { stood := { row := fnCastWideUptoRow, standIns := [], harness := (true, "dd416e5aa85e0668b58056ae8aed967d7f3b5c509853f95274298d21d9a32e65"), looks := true }, kinds := [], alts := [], laidByText := true, laidKinds := [.data, .data, .data, .sentinel, .sentinel], laidTests := true, laidLooks := .later }
def FnCastWideUptoCardSaid : Prop := Claim7.holds Tryd.pinned (.plain (OpenSpec.upto fnCastWideSpec)) fnCastWideUptoCard

/-- THE SECOND FORM's CARD OF 'laws.FnCastMust'. -/
def fnCastMustUptoCard : Claim7 := { stood := { row := fnCastMustUptoRow, standIns := [], harness := (true, "dd416e5aa85e0668b58056ae8aed967d7f3b5c509853f95274298d21d9a32e65"), looks := true }, kinds := [], alts := [], laidByText := true, laidKinds := [.data, .data, .data, .sentinel, .sentinel], laidTests := true, laidLooks := .later }
def FnCastMustUptoCardSaid : Prop := Claim7.holds Tryd.pinned (.plain (OpenSpec.upto fnCastMustSpec)) fnCastMustUptoCard
end Rows
end Go.Proofs.YtfeijmoncadkiaaDoor
