/- The walk of the statement FnWrapN: out of the contracts of impl.WrapN and spec.WrapN. -/
import Derived.Test.YtbggmplmekmmgaaWrapSpec
namespace Go.Proofs.Ytbggmplmekmmgaa
open Go.RowKit
set_option linter.unusedVariables false
set_option linter.unusedSimpArgs false

theorem fnWrapN_walk (n : Int) (wn : (Lit.int .i64 n).wf = true) (slop : Int) (wl : (Lit.int .i64 slop).wf = true) (s : ByteArray) (hs : s.size ≤ maxLen) (w : World) :
    Calls Try.prog 3 #[.int .i64 n, .int .i64 slop, .string s] w fun e w' => e = .returned (.bool true) ∧ Below w.heap.size w w' := by
  unfold maxLen at hs
  clear wn wl
  by_cases c0 : 2147483647 < s.size
  · have d0 : decide (2147483647 < (s.size : Int)) = true := by rw [decide_eq_true_eq]; omega
    go_enter Try.func3, Try.ntmps3
    go_wp2_with fail
    go_ret
    exact ⟨rfl, Below.refl _ _⟩
  have d0 : decide (2147483647 < (s.size : Int)) = false := by rw [decide_eq_false_iff_not]; omega
  by_cases c1 : n < 0
  · have d1 : decide (n < 0) = true := decide_eq_true c1
    go_enter Try.func3, Try.ntmps3
    go_wp2_with fail
    go_ret
    exact ⟨rfl, Below.refl _ _⟩
  have d1 : decide (n < 0) = false := decide_eq_false c1
  by_cases c2 : 1048576 < n
  · have d2 : decide (1048576 < n) = true := decide_eq_true c2
    go_enter Try.func3, Try.ntmps3
    go_wp2_with fail
    go_ret
    exact ⟨rfl, Below.refl _ _⟩
  have d2 : decide (1048576 < n) = false := decide_eq_false c2
  by_cases c3 : slop < 0
  · have d3 : decide (slop < 0) = true := decide_eq_true c3
    go_enter Try.func3, Try.ntmps3
    go_wp2_with fail
    go_ret
    exact ⟨rfl, Below.refl _ _⟩
  have d3 : decide (slop < 0) = false := decide_eq_false c3
  by_cases c4 : 1048576 < slop
  · have d4 : decide (1048576 < slop) = true := decide_eq_true c4
    go_enter Try.func3, Try.ntmps3
    go_wp2_with fail
    go_ret
    exact ⟨rfl, Below.refl _ _⟩
  have d4 : decide (1048576 < slop) = false := decide_eq_false c4
  by_cases c5 : 1048576 < s.size
  · have d5 : decide (1048576 < (s.size : Int)) = true := by rw [decide_eq_true_eq]; omega
    go_enter Try.func3, Try.ntmps3
    go_wp2_with fail
    go_ret
    exact ⟨rfl, Below.refl _ _⟩
  have d5 : decide (1048576 < (s.size : Int)) = false := by rw [decide_eq_false_iff_not]; omega
  obtain ⟨n, rfl⟩ := Int.eq_ofNat_of_zero_le (Int.not_lt.mp c1)
  obtain ⟨slop, rfl⟩ := Int.eq_ofNat_of_zero_le (Int.not_lt.mp c3)
  go_enter Try.func3, Try.ntmps3
  go_wp2_with fail
  refine (implWrapN_any n slop s _ (by omega) (by omega) (by omega)).mono ?_
  rintro e w1 ⟨rfl, hb1⟩
  go_wp2_with fail
  refine (specWrapN_any n slop s _ (by omega) (by omega) (by omega)).mono ?_
  rintro e w2 ⟨rfl, ⟨m, rfl⟩⟩
  generalize wrapNF n slop s = r
  go_wp2_with fail
  go_ret
  exact ⟨by simp, Below.drewN' hb1⟩
end Go.Proofs.Ytbggmplmekmmgaa
