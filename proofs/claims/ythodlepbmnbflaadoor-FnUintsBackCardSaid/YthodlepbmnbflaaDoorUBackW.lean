/- The law FnUintsBack at its arguments as they are read, where the library's errors and its table are as its text lays them. -/
import Derived.Test.YthodlepbmnbflaaDoorUBack
import Derived.Test.YthodlepbmnbflaaDoorLaidE
namespace Go.Proofs.YthodlepbmnbflaaDoor
open Go.RowKit Go.ChangeShapes
set_option linter.unusedVariables false
set_option linter.unusedSimpArgs false

set_option maxRecDepth 1000000 in
/-- What the listed variables give. -/
theorem vars_of {W : World} (hm : laidMet Tryd.prog Rows.fnUintsBackRow.laid W) : ErrsAt W ∧ Tab W := by
  have h4 := laid_reads hm (List.mem_of_getElem? (i := 4) (show Rows.fnUintsBackRow.laid[4]? = some _ from rfl))
  have h3 := laid_reads hm (List.mem_of_getElem? (i := 3) (show Rows.fnUintsBackRow.laid[3]? = some _ from rfl))
  have h2 := hm.tail.tail
  refine ⟨⟨iface_of_reads h4 (by kernel_rfl) (by kernel_rfl) Tryd.underlying43, iface_of_reads h3 (by kernel_rfl) (by kernel_rfl) Tryd.underlying43⟩, ?_⟩
  exact Lib.tabIs_of_head (g := 2) (k := .u64) (zs := Lib.pow10Tab) (by kernel_rfl) (by kernel_rfl) Tryd.underlying129 Tryd.underlying22 (by kernel_rfl) (by kernel_rfl) h2

theorem fnUintsBack_walk (W : World) (hL : laidMetH Tryd.prog Rows.fnUintsBackRow.laid W) (b : Int) (wb : (Lit.int .i64 b).wf = true) (d : Int) (wd : (Lit.int .u64 d).wf = true) (o : Int) (wo : (Lit.int .u64 o).wf = true) (s : ByteArray) (hs : s.size ≤ maxLen) :
    Calls Tryd.prog 4 #[.int .i64 b, .int .u64 d, .int .u64 o, .string s] W fun e w' => e = .returned (.bool true) ∧ Below W.heap.size W w' := by
  obtain ⟨hE, hT⟩ := vars_of hL
  have e1 : IntKind.u64.min = 0 := rfl
  have e2 : IntKind.u64.max = 18446744073709551615 := rfl
  simp [Lit.wf, e1, e2] at wd wo
  exact fnUintsBack_law b d o wd.1 wd.2 wo.1 wo.2 s W hE hT
end Go.Proofs.YthodlepbmnbflaaDoor
