/- The law FnGetTexts at its arguments as they are read. -/
import Derived.Test.YtkhjffjdchkobaaGetTL
import Derived.Test.YtkhjffjdchkobaaRows
namespace Go.Proofs.Ytkhjffjdchkobaa
open Go.RowKit
set_option linter.unusedVariables false
set_option linter.unusedSimpArgs false

set_option maxRecDepth 1000000 in
theorem fnGetTexts_walk {H : Type} (enc : TypeId × Value → H) (W : World) (s : ByteArray) (hs : s.size ≤ maxLen) {sp1 : Nat → Bool} {held1 : Bool} {b1 : Nat}
    (v1 : Value) (d1 : DataW H) (p1 : List MemPlace) (o1 : Value.okWide Try.prog W .any b1 22 v1) (h1 : DataW.Trod enc Try.prog W 0 sp1 held1 22 v1 d1 p1) :
    Calls Try.prog 3 #[.string s, v1] W fun e w' => e = .returned (.bool true) ∧ Below W.heap.size W w' := by
  obtain ⟨l, ht, hll, -⟩ := open_texts o1 h1
  unfold maxLen at hll
  exact fnGetTexts_law s v1 l W ht (by omega)
end Go.Proofs.Ytkhjffjdchkobaa
