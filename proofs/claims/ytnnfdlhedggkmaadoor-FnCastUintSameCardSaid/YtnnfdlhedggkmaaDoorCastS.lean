/- FnCastUintSame: an unsigned number, cast to its own type, is itself. (Printed by gen_cast.py.) -/
import Derived.Test.YtnnfdlhedggkmaaDoorCastA
import Derived.WalkKit
import Derived.KernelRfl
import Derived.RowKit3
import Derived.Deep.QuietTactic
import Derived.BigQuiet
import Derived.Lib.Hide
import Derived.Deep.DeepFit
import Derived.WalkSpells
import Derived.WalkLawsBesides
namespace Go.Proofs.YtnnfdlhedggkmaaDoor
open Go.RowKit
set_option linter.unusedVariables false
set_option linter.unusedSimpArgs false

theorem same_of {j : Int} (hj : j = 7 ∨ j = 8 ∨ j = 9 ∨ j = 10 ∨ j = 11) (vi vf vs vl vm : Value) (n : Int) : ∃ x : Int, (∀ w, Calls Tryd.prog 17 #[.int .i64 j, .agg #[.int .i64 j, vi, .int .u64 n, vf, vs, vl, vm]] w fun e w' => e = .returned (.tuple #[.int .u64 x, .bool true]) ∧ Below w.heap.size w w') ∧
    (∀ w, Calls Tryd.prog 18 #[.int .i64 j, .int .u64 n] w fun e w' => e = .returned (.int .u64 x) ∧ w' = w) := by
  rcases hj with rfl | rfl | rfl | rfl | rfl
  · exact ⟨_, fun w => cast_uint vi vf vs vl vm n w, fun w => cut_uint n w⟩
  · exact ⟨_, fun w => cast_uint8 vi vf vs vl vm n w, fun w => cut_uint8 n w⟩
  · exact ⟨_, fun w => cast_uint16 vi vf vs vl vm n w, fun w => cut_uint16 n w⟩
  · exact ⟨_, fun w => cast_uint32 vi vf vs vl vm n w, fun w => cut_uint32 n w⟩
  · exact ⟨_, fun w => cast_uint64 vi vf vs vl vm n w, fun w => cut_uint64 n w⟩
theorem fnCastUintSame_walk (k : Int) {I : Prop} (hk : I) (n : Int) {J : Prop} (hn : J) (W : World) :
    Calls Tryd.prog 5 #[.int .i64 k, .int .u64 n] W fun e w' => e = .returned (.bool true) ∧ Below W.heap.size W w' := by
  have C := Lib.hid (fun w => kindU_any k w)
  go_enter Tryd.func5, Tryd.ntmps5
  go_wp2_with fail
  refine (C.out _).mono ?_
  rintro e w1 ⟨⟨j, rfl, hj⟩, rfl⟩
  have HJ := Lib.hid (fun vi vf vs vl vm => same_of hj vi vf vs vl vm n)
  clear hj
  go_wp2_with fail
  obtain ⟨x, h1, h2⟩ := HJ.out (.int .i64 0) (.float .f64 0) (.string ⟨#[]⟩) (.slice none 0 0) (.slice none 0 0)
  have H1 := Lib.hid h1
  have H2 := Lib.hid h2
  clear h1 h2
  refine (H1.out _).mono ?_
  rintro e w2 ⟨rfl, hb2⟩
  go_wp2_with fail
  refine (H2.out _).mono ?_
  rintro e w3 ⟨rfl, rfl⟩
  go_wp2_with fail
  go_ret
  exact ⟨rfl, hb2⟩
end Go.Proofs.YtnnfdlhedggkmaaDoor
