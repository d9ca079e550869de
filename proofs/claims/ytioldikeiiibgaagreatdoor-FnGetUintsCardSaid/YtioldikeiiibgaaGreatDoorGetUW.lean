/- The law FnGetUints at its arguments as they are read, where the library's errors and its table are as its text lays them. -/
import Derived.Test.YtioldikeiiibgaaGreatDoorGetUL
import Derived.Test.YtioldikeiiibgaaGreatDoorLaidE
namespace Go.Proofs.YtioldikeiiibgaaGreatDoor
open Go.RowKit Go.ChangeShapes
set_option linter.unusedVariables false
set_option linter.unusedSimpArgs false

set_option maxRecDepth 1000000 in
/-- What the listed variables give. -/
theorem varsU_of {W : World} (hm : laidMet Tryz.prog Rows.fnGetUintsRow.laid W) : ErrsAt W ∧ Tab W := by
  have h4 := laid_reads hm (List.mem_of_getElem? (i := 4) (show Rows.fnGetUintsRow.laid[4]? = some _ from rfl))
  have h3 := laid_reads hm (List.mem_of_getElem? (i := 3) (show Rows.fnGetUintsRow.laid[3]? = some _ from rfl))
  have h2 := hm.tail.tail
  refine ⟨⟨iface_of_reads h4 (by kernel_rfl) (by kernel_rfl) Tryz.underlying38, iface_of_reads h3 (by kernel_rfl) (by kernel_rfl) Tryz.underlying38⟩, ?_⟩
  exact Lib.tabIs_of_head (g := 2) (k := .u64) (zs := Lib.pow10Tab) (by kernel_rfl) (by kernel_rfl) Tryz.underlying149 Tryz.underlying22 (by kernel_rfl) (by kernel_rfl) h2

set_option maxRecDepth 1000000 in
theorem fnGetUints_walk {H : Type} (enc : TypeId × Value → H) (W : World) (hL : laidMetH Tryz.prog Rows.fnGetUintsRow.laid W) (b : Int) (wb : (Lit.int .i64 b).wf = true) (d : Int) (wd : (Lit.int .u64 d).wf = true) {sp1 : Nat → Bool} {held1 : Bool} {b1 : Nat}
    (v1 : Value) (d1 : DataW H) (p1 : List MemPlace) (o1 : Value.okWide Tryz.prog W .any b1 23 v1) (h1 : DataW.Trod enc Tryz.prog W 0 sp1 held1 23 v1 d1 p1) :
    Calls Tryz.prog 3 #[.int .i64 b, .int .u64 d, v1] W fun e w' => e = .returned (.bool true) ∧ Below W.heap.size W w' := by
  obtain ⟨hE, hT⟩ := varsU_of hL
  obtain ⟨l, ht, hll, -⟩ := open_texts o1 h1
  unfold maxLen at hll
  have e1 : IntKind.u64.min = 0 := rfl
  have e2 : IntKind.u64.max = 18446744073709551615 := rfl
  simp [Lit.wf, e1, e2] at wd
  exact fnGetUints_law b d wd.1 wd.2 v1 l W ht (by omega) hE hT
end Go.Proofs.YtioldikeiiibgaaGreatDoor
