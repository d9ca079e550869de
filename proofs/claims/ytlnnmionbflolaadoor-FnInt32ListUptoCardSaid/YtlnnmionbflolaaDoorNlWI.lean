/- The law FnInt32List at its arguments as they are read, where the library's errors are as its text lays them, and the bulk of what is read is bounded. -/
import Derived.Test.YtlnnmionbflolaaDoorNlDI
import Derived.Test.YtlnnmionbflolaaDoorLaidE
namespace Go.Proofs.YtlnnmionbflolaaDoor
open Go.RowKit Go.ChangeShapes
set_option linter.unusedVariables false
set_option linter.unusedSimpArgs false

set_option maxRecDepth 1000000 in
/-- What the listed variables give. -/
theorem errs_of {W : World} (hm : laidMet Tryd.prog Rows.fnInt32ListUptoRow.laid W) : ErrsAt W := by
  have h4 := laid_reads hm (List.mem_of_getElem? (i := 4) (show Rows.fnInt32ListUptoRow.laid[4]? = some _ from rfl))
  have h3 := laid_reads hm (List.mem_of_getElem? (i := 3) (show Rows.fnInt32ListUptoRow.laid[3]? = some _ from rfl))
  exact ⟨iface_of_reads h4 (by kernel_rfl) (by kernel_rfl) Tryd.underlying67, iface_of_reads h3 (by kernel_rfl) (by kernel_rfl) Tryd.underlying67⟩

set_option maxRecDepth 1000000 in
theorem fnInt32List_walk {H : Type} (enc : TypeId × Value → H) (W : World) (hL : laidMetH Tryd.prog Rows.fnInt32ListUptoRow.laid W) {sp1 sp2 : Nat → Bool} {held1 held2 : Bool} {b1 b2 : Nat}
    (v1 : Value) (d1 : DataW H) (p1 : List MemPlace) (o1 : Value.okWide Tryd.prog W .any b1 39 v1) (h1 : DataW.Trod enc Tryd.prog W 0 sp1 held1 39 v1 d1 p1)
    (v2 : Value) (d2 : DataW H) (p2 : List MemPlace) (o2 : Value.okWide Tryd.prog W .any b2 23 v2) (h2 : DataW.Trod enc Tryd.prog W 0 sp2 held2 23 v2 d2 p2)
    (hb : Rows.uptoBulkAll ([d1, d2] ++ []) ≤ 1048576) :
    Calls Tryd.prog 4 #[v1, v2] W fun e w' => e = .returned (.bool true) ∧ Below W.heap.size W w' := by
  have hE := errs_of hL
  obtain ⟨df, hv, -, hwf, hl1⟩ := open_nums Tryd.underlying39 Tryd.underlying2 (by kernel_rfl) o1 h1
  obtain ⟨l, hs, -, -, hl2, hx⟩ := open_stepsU o2 h2
  have b1 := bulk_part (show d1 ∈ [d1, d2] ++ [] by simp)
  have b2 := bulk_part (show d2 ∈ [d1, d2] ++ [] by simp)
  refine fnInt32List_law v1 df v2 l W hv (fun n hn => ?_) hs (by omega) (by omega) (fun x hm => ?_) hE
  · have := hwf n hn
    have e1 : IntKind.i64.min = -9223372036854775808 := rfl
    have e2 : IntKind.i64.max = 9223372036854775807 := rfl
    simp [Lit.wf, e1, e2] at this
    exact this
  · obtain ⟨x1, x2, x3⟩ := hx x hm
    exact ⟨by omega, by omega, fun t ht => by have := x3 t ht; omega⟩
end Go.Proofs.YtlnnmionbflolaaDoor
