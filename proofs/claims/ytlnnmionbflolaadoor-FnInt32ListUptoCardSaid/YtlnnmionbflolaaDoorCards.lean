/-
  DERIVED. GIVEN WITH THE SEED: THE CARDS: each row of YtlnnmionbflolaaDoorRows.lean that lists a variable, with what it lists TIED to the program's text (the seventh form; the later family's looks); each row that meets fmt, with fmt's text TOLD by the authors' own Lean function (tested against real Go, not proved from fmt's source: count such statements apart). THE CARD IS WHAT COUNTS. Prove the row's statement (the work); the ties are given (YtlnnmionbflolaaDoorTie.lean); close each card by the builder's one call (the guide's Derived/Test/ToyasCard.lean, 'card_holds'). Laid BY PROGRAM, IN A SANDBOX (cutbox-door.mjs). By AI agents, Wed Nov 11 2026. No macro, syntax, notation, axiom, sorry.
-/
import Derived.Test.YtlnnmionbflolaaDoorRows
import GoSem.ClaimSeven
namespace Go.Proofs.YtlnnmionbflolaaDoor
namespace Rows

/-- THE TIED CARD OF 'laws.FnUintList'. -/
def fnUintListCard : Claim7 := { stood := { row := fnUintListRow, standIns := [], harness := (true, "e80d6404cef6cc51a9e5de791bbe12b88ada4f0d2c7aff4701485358c4fa53e1"), looks := true }, kinds := [], alts := [], laidByText := true, laidKinds := [.data, .data, .data, .sentinel, .sentinel], laidTests := true, laidLooks := .later }
def FnUintListCardSaid : Prop := Claim7.holds Tryd.pinned (.plain (OpenSpec.ofChange fnUintListSpec)) fnUintListCard

/-- THE TIED CARD OF 'laws.FnInt32List'. -/
def fnInt32ListCard : Claim7 := { stood := { row := fnInt32ListRow, standIns := [], harness := (true, "e80d6404cef6cc51a9e5de791bbe12b88ada4f0d2c7aff4701485358c4fa53e1"), looks := true }, kinds := [], alts := [], laidByText := true, laidKinds := [.data, .data, .data, .sentinel, .sentinel], laidTests := true, laidLooks := .later }
def FnInt32ListCardSaid : Prop := Claim7.holds Tryd.pinned (.plain (OpenSpec.ofChange fnInt32ListSpec)) fnInt32ListCard

/-- THE SECOND FORM's CARD OF 'laws.FnUintList'. -/
def fnUintListUptoCard : Claim7 := { stood := { row := fnUintListUptoRow, standIns := [], harness := (true, "e80d6404cef6cc51a9e5de791bbe12b88ada4f0d2c7aff4701485358c4fa53e1"), looks := true }, kinds := [], alts := [], laidByText := true, laidKinds := [.data, .data, .data, .sentinel, .sentinel], laidTests := true, laidLooks := .later }
def FnUintListUptoCardSaid : Prop := Claim7.holds Tryd.pinned (.plain (OpenSpec.upto fnUintListSpec)) fnUintListUptoCard

/-- THE SECOND FORM's CARD OF 'laws.FnInt32List'. -/
def fnInt32ListUptoCard : Claim7 := { stood := { row := fnInt32ListUptoRow, standIns := [], harness := (true, "e80d6404cef6cc51a9e5de791bbe12b88ada4f0d2c7aff4701485358c4fa53e1"), looks := true }, kinds := [], alts := [], laidByText := true, laidKinds := [.data, .data, .data, .sentinel, .sentinel], laidTests := true, laidLooks := .later }
def FnInt32ListUptoCardSaid : Prop := Claim7.holds Tryd.pinned (.plain (OpenSpec.upto fnInt32ListSpec)) fnInt32ListUptoCard
end Rows
end Go.Proofs.YtlnnmionbflolaaDoor
