/-
  DERIVED. GIVEN WITH THE SEED: THE CARDS: each row of YtechagcodmiliaaDoorRows.lean that lists a variable, with what it lists TIED to the program's text (the seventh form; the later family's looks); each row that meets fmt, with fmt's text TOLD by the authors' own Lean function (tested against real Go, not proved from fmt's source: count such statements apart). THE CARD IS WHAT COUNTS. Prove the row's statement (the work); the ties are given (YtechagcodmiliaaDoorTie.lean); close each card by the builder's one call (the guide's Derived/Test/ToyasCard.lean, 'card_holds'). Laid BY PROGRAM, IN A SANDBOX (cutbox-door.mjs). By AI agents, Wed Nov 11 2026. No macro, syntax, notation, axiom, sorry.
-/
import Derived.Test.YtechagcodmiliaaDoorRows
import GoSem.ClaimSeven
namespace Go.Proofs.YtechagcodmiliaaDoor
namespace Rows

/-- THE TIED CARD OF 'laws.FnTextArray'. -/
def fnTextArrayCard : Claim7 := { stood := { row := fnTextArrayRow, standIns := [], harness := (true, "0f0ef263a39bdf153d62c70c59d574e5704b5b13cbaf6ac10ef0e74322055cb5"), looks := true }, kinds := [], alts := [], laidByText := true, laidKinds := [.data, .sentinel, .sentinel, .listed, .sentinel, .sentinel, .sentinel, .sentinel, .sentinel, .sentinel, .pinned], laidTests := true, laidLooks := .later }
def FnTextArrayCardSaid : Prop := Claim7.holds Tryd.pinned (.plain (OpenSpec.ofChange fnTextArraySpec)) fnTextArrayCard

/-- THE TIED CARD OF 'laws.FnTextKeeps'. -/
def fnTextKeepsCard : Claim7 := { stood := { row := fnTextKeepsRow, standIns := [], harness := (true, "0f0ef263a39bdf153d62c70c59d574e5704b5b13cbaf6ac10ef0e74322055cb5"), looks := true }, kinds := [], alts := [], laidByText := true, laidKinds := [.data, .sentinel, .sentinel, .listed, .sentinel, .sentinel, .sentinel, .sentinel, .sentinel, .sentinel, .pinned], laidTests := true, laidLooks := .later }
def FnTextKeepsCardSaid : Prop := Claim7.holds Tryd.pinned (.plain (OpenSpec.ofChange fnTextKeepsSpec)) fnTextKeepsCard

/-- THE SECOND FORM's CARD OF 'laws.FnTextArray'. -/
def fnTextArrayUptoCard : Claim7 := { stood := { row := fnTextArrayUptoRow, standIns := [], harness := (true, "0f0ef263a39bdf153d62c70c59d574e5704b5b13cbaf6ac10ef0e74322055cb5"), looks := true }, kinds := [], alts := [], laidByText := true, laidKinds := [.data, .sentinel, .sentinel, .listed, .sentinel, .sentinel, .sentinel, .sentinel, .sentinel, .sentinel, .pinned], laidTests := true, laidLooks := .later }
def FnTextArrayUptoCardSaid : Prop := Claim7.holds Tryd.pinned (.plain (OpenSpec.upto fnTextArraySpec)) fnTextArrayUptoCard

/-- THE SECOND FORM's CARD OF 'laws.FnTextKeeps'. -/
def fnTextKeepsUptoCard : Claim7 := { stood := { row := fnTextKeepsUptoRow, standIns := [], harness := (true, "0f0ef263a39bdf153d62c70c59d574e5704b5b13cbaf6ac10ef0e74322055cb5"), looks := true }, kinds := [], alts := [], laidByText := true, laidKinds := [.data, .sentinel, .sentinel, .listed, .sentinel, .sentinel, .sentinel, .sentinel, .sentinel, .sentinel, .pinned], laidTests := true, laidLooks := .later }
def FnTextKeepsUptoCardSaid : Prop := Claim7.holds Tryd.pinned (.plain (OpenSpec.upto fnTextKeepsSpec)) fnTextKeepsUptoCard
end Rows
end Go.Proofs.YtechagcodmiliaaDoor
