/- The law FnGetBools at its arguments as they are read, where the library's errors are as its text lays them. -/
import Derived.Test.YtkhjffjdchkobaaDoorGetB
import Derived.Test.YtkhjffjdchkobaaDoorLaidE
namespace Go.Proofs.YtkhjffjdchkobaaDoor
open Go.RowKit
set_option linter.unusedVariables false
set_option linter.unusedSimpArgs false

set_option maxRecDepth 1000000 in
theorem fnGetBools_walk {H : Type} (enc : TypeId × Value → H) (W : World) (hL : laidMetH Tryd.prog Rows.fnGetBoolsRow.laid W) (d : Bool) {sp1 : Nat → Bool} {held1 : Bool} {b1 : Nat}
    (v1 : Value) (d1 : DataW H) (p1 : List MemPlace) (o1 : Value.okWide Tryd.prog W .any b1 22 v1) (h1 : DataW.Trod enc Tryd.prog W 0 sp1 held1 22 v1 d1 p1) :
    Calls Tryd.prog 3 #[.bool d, v1] W fun e w' => e = .returned (.bool true) ∧ Below W.heap.size W w' := by
  obtain ⟨l, ht, hll, -⟩ := open_texts o1 h1
  unfold maxLen at hll
  have hm : laidMet Tryd.prog Rows.fnGetBoolsRow.laid W := hL
  have hr := laid_reads hm (List.mem_of_getElem? (i := 4) (show Rows.fnGetBoolsRow.laid[4]? = some _ from rfl))
  exact fnGetBools_law d v1 l W ht (by omega) (iface_of_reads hr (by kernel_rfl) (by kernel_rfl) Tryd.underlying35)
end Go.Proofs.YtkhjffjdchkobaaDoor
