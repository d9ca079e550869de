/- The law FnNamesShort at its arguments as they are read. -/
import Derived.Test.YtojmhahdmlmglaaNShortM
import Derived.Test.YtojmhahdmlmglaaNOpen
import Derived.Test.YtojmhahdmlmglaaRows
namespace Go.Proofs.Ytojmhahdmlmglaa
open Go.RowKit
set_option linter.unusedVariables false
set_option linter.unusedSimpArgs false

set_option maxRecDepth 1000000 in
theorem fnNamesShort_walk {H : Type} (enc : TypeId × Value → H) (W : World) {sp1 : Nat → Bool} {held1 : Bool} {b1 : Nat}
    (v1 : Value) (d1 : DataW H) (p1 : List MemPlace) (o1 : Value.okWide Try.prog W .any b1 22 v1) (h1 : DataW.Trod enc Try.prog W 0 sp1 held1 22 v1 d1 p1) (s : ByteArray) (hs : s.size ≤ maxLen) :
    Calls Try.prog 4 #[v1, .string s] W fun e w' => e = .returned (.bool true) ∧ Below W.heap.size W w' := by
  obtain ⟨l, ht, hll⟩ := open_defs o1 h1
  exact fnNamesShort_law v1 l s W ht hll hs
end Go.Proofs.Ytojmhahdmlmglaa
