/- The law FnNamesDefined at its argument as it is read. -/
import Derived.Test.YtojmhahdmlmglaaNDefinedL
import Derived.Test.YtojmhahdmlmglaaNOpen
import Derived.Test.YtojmhahdmlmglaaRows
namespace Go.Proofs.Ytojmhahdmlmglaa
open Go.RowKit
set_option linter.unusedVariables false
set_option linter.unusedSimpArgs false

set_option maxRecDepth 1000000 in
theorem fnNamesDefined_walk {H : Type} (enc : TypeId × Value → H) (W : World) {sp1 : Nat → Bool} {held1 : Bool} {b1 : Nat}
    (v1 : Value) (d1 : DataW H) (p1 : List MemPlace) (o1 : Value.okWide Try.prog W .any b1 22 v1) (h1 : DataW.Trod enc Try.prog W 0 sp1 held1 22 v1 d1 p1) :
    Calls Try.prog 3 #[v1] W fun e w' => e = .returned (.bool true) ∧ Below W.heap.size W w' := by
  obtain ⟨l, ht, hll⟩ := open_defs o1 h1
  exact fnNamesDefined_law v1 l W ht hll
end Go.Proofs.Ytojmhahdmlmglaa
