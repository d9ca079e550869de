/- FnCastFloatInt: a float, cast to a type that has its whole part. (Printed by gen_cast.py.) -/
import Derived.Test.YtnnfdlhedggkmaaGreatDoorCastP
import Derived.WalkKit
import Derived.KernelRfl
import Derived.RowKit3
import Derived.Deep.QuietTactic
import Derived.BigQuiet
import Derived.Lib.Hide
import Derived.Deep.DeepFit
import Derived.WalkSpells
import Derived.WalkLawsBesides
import Derived.Laws.FloatArith
import Derived.Laws.Cover2
namespace Go.Proofs.YtnnfdlhedggkmaaGreatDoor
open Go.RowKit
set_option linter.unusedVariables false
set_option linter.unusedSimpArgs false

theorem toI_float {a : Int} (ha : a = 2 ∨ a = 3 ∨ a = 4 ∨ a = 5 ∨ a = 6) (vi vn vs vl vm : Value) (b : Nat) (n : Int) (hb : (FloatKind.f64.decode b).toInt .zero = some n) (hn : (-4611686018427387904 < n ∧ n < 4611686018427387904)) : ∃ v : Int,
    (∀ W, Calls Tryz.prog 7 #[.int .i64 a, .int .i64 n] W fun e w' => e = .returned (.int .i64 v) ∧ w' = W) ∧
    (v = n → ∀ W, Calls Tryz.prog 8 #[.int .i64 a, .agg #[.int .i64 13, vi, vn, .float .f64 b, vs, vl, vm]] W fun e w' => e = .returned (.tuple #[.int .i64 n, .bool true]) ∧ Below W.heap.size W w') := by
  rcases ha with rfl | rfl | rfl | rfl | rfl
  · refine ⟨(n + 9223372036854775808) % 18446744073709551616 - 9223372036854775808, fun W => cut_int n (by omega) W, fun hv W => cast_int _ _ _ _ _ _ _ _ _ (by omega) (fun W => value_float64 vi vn vs vl vm b W) (fun W => num_int_float64 b n (val_of hb ?_ ?_) W) W⟩
    · have e : IntKind.i64.min = -9223372036854775808 := by first | rfl | decide
      rw [e]; omega
    · have e : IntKind.i64.max = 9223372036854775807 := by first | rfl | decide
      rw [e]; omega
  · refine ⟨(n + 128) % 256 - 128, fun W => cut_int8 n (by omega) W, fun hv W => cast_int8 _ _ _ _ _ _ _ _ _ (by omega) (fun W => value_float64 vi vn vs vl vm b W) (fun W => num_int8_float64 b n (val_of hb ?_ ?_) W) W⟩
    · have e : IntKind.i8.min = -128 := by first | rfl | decide
      rw [e]; omega
    · have e : IntKind.i8.max = 127 := by first | rfl | decide
      rw [e]; omega
  · refine ⟨(n + 32768) % 65536 - 32768, fun W => cut_int16 n (by omega) W, fun hv W => cast_int16 _ _ _ _ _ _ _ _ _ (by omega) (fun W => value_float64 vi vn vs vl vm b W) (fun W => num_int16_float64 b n (val_of hb ?_ ?_) W) W⟩
    · have e : IntKind.i16.min = -32768 := by first | rfl | decide
      rw [e]; omega
    · have e : IntKind.i16.max = 32767 := by first | rfl | decide
      rw [e]; omega
  · refine ⟨(n + 2147483648) % 4294967296 - 2147483648, fun W => cut_int32 n (by omega) W, fun hv W => cast_int32 _ _ _ _ _ _ _ _ _ (by omega) (fun W => value_float64 vi vn vs vl vm b W) (fun W => num_int32_float64 b n (val_of hb ?_ ?_) W) W⟩
    · have e : IntKind.i32.min = -2147483648 := by first | rfl | decide
      rw [e]; omega
    · have e : IntKind.i32.max = 2147483647 := by first | rfl | decide
      rw [e]; omega
  · refine ⟨(n + 9223372036854775808) % 18446744073709551616 - 9223372036854775808, fun W => cut_int64 n (by omega) W, fun hv W => cast_int64 _ _ _ _ _ _ _ _ _ (by omega) (fun W => value_float64 vi vn vs vl vm b W) (fun W => num_int64_float64 b n (val_of hb ?_ ?_) W) W⟩
    · have e : IntKind.i64.min = -9223372036854775808 := by first | rfl | decide
      rw [e]; omega
    · have e : IntKind.i64.max = 9223372036854775807 := by first | rfl | decide
      rw [e]; omega
theorem toU_float {c : Int} (hc : c = 7 ∨ c = 8 ∨ c = 9 ∨ c = 10 ∨ c = 11) (vi vn vs vl vm : Value) (b : Nat) (n : Int) (hb : (FloatKind.f64.decode b).toInt .zero = some n) (hn : 0 ≤ n ∧ n < 4611686018427387904) (h0 : (FloatKind.f64.format.order b 0 == some .lt) = false) : ∃ u : Int,
    (∀ W, Calls Tryz.prog 9 #[.int .i64 c, .int .u64 n] W fun e w' => e = .returned (.int .u64 u) ∧ w' = W) ∧
    (u = n → ∀ W, Calls Tryz.prog 10 #[.int .i64 c, .agg #[.int .i64 13, vi, vn, .float .f64 b, vs, vl, vm]] W fun e w' => e = .returned (.tuple #[.int .u64 n, .bool true]) ∧ Below W.heap.size W w') := by
  rcases hc with rfl | rfl | rfl | rfl | rfl
  · refine ⟨n, fun W => cut_uint n (by omega) W, fun hv W => cast_uint _ _ _ _ _ _ _ _ _ (by omega) (fun W => value_float64 vi vn vs vl vm b W) (fun W => num_uint_float64 b n (val_of hb ?_ ?_) h0 W) W⟩
    · have e : IntKind.u64.min = 0 := by first | rfl | decide
      rw [e]; omega
    · have e : IntKind.u64.max = 18446744073709551615 := by first | rfl | decide
      rw [e]; omega
  · refine ⟨n % 256, fun W => cut_uint8 n (by omega) W, fun hv W => cast_uint8 _ _ _ _ _ _ _ _ _ (by omega) (fun W => value_float64 vi vn vs vl vm b W) (fun W => num_uint8_float64 b n (val_of hb ?_ ?_) h0 W) W⟩
    · have e : IntKind.u8.min = 0 := by first | rfl | decide
      rw [e]; omega
    · have e : IntKind.u8.max = 255 := by first | rfl | decide
      rw [e]; omega
  · refine ⟨n % 65536, fun W => cut_uint16 n (by omega) W, fun hv W => cast_uint16 _ _ _ _ _ _ _ _ _ (by omega) (fun W => value_float64 vi vn vs vl vm b W) (fun W => num_uint16_float64 b n (val_of hb ?_ ?_) h0 W) W⟩
    · have e : IntKind.u16.min = 0 := by first | rfl | decide
      rw [e]; omega
    · have e : IntKind.u16.max = 65535 := by first | rfl | decide
      rw [e]; omega
  · refine ⟨n % 4294967296, fun W => cut_uint32 n (by omega) W, fun hv W => cast_uint32 _ _ _ _ _ _ _ _ _ (by omega) (fun W => value_float64 vi vn vs vl vm b W) (fun W => num_uint32_float64 b n (val_of hb ?_ ?_) h0 W) W⟩
    · have e : IntKind.u32.min = 0 := by first | rfl | decide
      rw [e]; omega
    · have e : IntKind.u32.max = 4294967295 := by first | rfl | decide
      rw [e]; omega
  · refine ⟨n, fun W => cut_uint64 n (by omega) W, fun hv W => cast_uint64 _ _ _ _ _ _ _ _ _ (by omega) (fun W => value_float64 vi vn vs vl vm b W) (fun W => num_uint64_float64 b n (val_of hb ?_ ?_) h0 W) W⟩
    · have e : IntKind.u64.min = 0 := by first | rfl | decide
      rw [e]; omega
    · have e : IntKind.u64.max = 18446744073709551615 := by first | rfl | decide
      rw [e]; omega
theorem fnCastFloatInt_walk (k : Int) {I : Prop} (hk : I) (b : Nat) {J : Prop} (hbw : J) (W : World) :
    Calls Tryz.prog 3 #[.int .i64 k, .float .f64 b] W fun e w' => e = .returned (.bool true) ∧ Below W.heap.size W w' := by
  have CU := Lib.hid (fun (k : Int) (w : World) => kindU_any k w)
  have CI := Lib.hid (fun (k : Int) (w : World) => kindI_any k w)
  have hst : ∀ w bb, Sem.run Tryz.prog (store ⟨bb, 3, none⟩ (.float .f64 b)) w = stored Tryz.prog w ⟨bb, 3, none⟩ (.float .f64 b) .plain := fun w _ => run_store _ w _ _ _ rfl
  go_enter Tryz.func3, Tryz.ntmps3
  go_wp2_with fail
  refine (CI.out _ _).mono ?_
  rintro e w1 ⟨⟨a, rfl, ha⟩, rfl⟩
  have HA := Lib.hid ha
  clear ha
  go_wp2_with fail
  refine (CU.out _ _).mono ?_
  rintro e w1 ⟨⟨c, rfl, hc⟩, rfl⟩
  have HCK := Lib.hid hc
  clear hc CU CI
  by_cases k1 : (FloatKind.f64.format.order b 14109777632551763968 == some .gt) = true
  case neg =>
    have k1' : (FloatKind.f64.format.order b 14109777632551763968 == some .gt) = false := by simpa using k1
    clear k1
    go_wp2_with fail
    go_ret
    exact ⟨rfl, Below.refl _ _⟩
  by_cases k2 : (FloatKind.f64.format.order b 4886405595696988160 == some .lt) = true
  case neg =>
    have k2' : (FloatKind.f64.format.order b 4886405595696988160 == some .lt) = false := by simpa using k2
    clear k2
    go_wp2_with fail
    go_ret
    exact ⟨rfl, Below.refl _ _⟩
  obtain ⟨n, hbt, hn1, hn2, hpos⟩ := between (by simpa using k1) (by simpa using k2)
  have HBT := Lib.hid hbt
  have HNR := Lib.hid (show -4611686018427387904 < n ∧ n < 4611686018427387904 from ⟨hn1, hn2⟩)
  have HP := Lib.hid hpos
  have em1 : IntKind.i64.min = -9223372036854775808 := by first | rfl | decide
  have em2 : IntKind.i64.max = 9223372036854775807 := by first | rfl | decide
  have hvo : floatToIntVal .f64 b .i64 = some n := val_of hbt (by rw [em1]; omega) (by rw [em2]; omega)
  have hcv : ∀ w, (convert 22 2 (.float .f64 b)).run Tryz.prog w = .ok (.int .i64 n) w := fun w => run_convert_float_int w 22 2 .f64 .i64 b n (by rw [Tryz.underlying22]; rfl) Tryz.underlying2 hvo
  clear em1 em2 hvo
  obtain ⟨v, c1, c2⟩ := toI_float HA.out (.int .i64 0) (.int .u64 0) (.string ⟨#[]⟩) (.slice none 0 0) (.slice none 0 0) b n hbt ⟨hn1, hn2⟩
  have C1 := Lib.hid c1
  have C2 := Lib.hid c2
  clear c1 c2 hbt hn1 hn2 hpos HA
  go_wp2_with fail
  refine (C1.out _).mono ?_
  rintro e w2 ⟨rfl, rfl⟩
  by_cases hv : v = n
  · subst hv
    have C2' := Lib.hid (C2.out rfl)
    go_wp2_with fail
    refine (C2'.out _).mono ?_
    rintro e w2 ⟨rfl, hb2⟩
    have hX : w2.heap[w1.heap.size]? = some (.cells #[.int .i64 13, .int .i64 0, .int .u64 0, .float .f64 b, .string ⟨#[]⟩, .slice none 0 0, .slice none 0 0] 28 (0, 0)) := (hb2.block _ (by simp only [World.size_alloc]; omega)).trans (heap_at' _ _ _ rfl)
    have HBB := Lib.hid (Below.after ((Below.refl w1.heap.size w1).alloc (Nat.le_refl _) _) hb2)
    have d0 := cell_at' hX 0 _ rfl
    have d1 := cell_at' hX 1 _ rfl
    have d2 := cell_at' hX 2 _ rfl
    have d3 := cell_at' hX 3 _ rfl
    have d4 := cell_at' hX 4 _ rfl
    have d5 := cell_at' hX 5 _ rfl
    have d6 := cell_at' hX 6 _ rfl
    clear hX hb2
    by_cases hneg : (FloatKind.f64.format.order b 0 == some .lt) = true
    · go_wp2_with fail
      go_ret
      exact ⟨rfl, HBB.out⟩
    have h0 : (FloatKind.f64.format.order b 0 == some .lt) = false := by simpa using hneg
    have hp := HP.out h0
    obtain ⟨u, c3, c4⟩ := toU_float HCK.out (.int .i64 0) (.int .u64 0) (.string ⟨#[]⟩) (.slice none 0 0) (.slice none 0 0) b v HBT.out ⟨hp, HNR.out.2⟩ h0
    have C3 := Lib.hid c3
    have C4 := Lib.hid c4
    have u1 : IntKind.u64.wrap v = v := by rw [wu64]; have := HNR.out.2; omega
    have u2 : v % 18446744073709551616 = v := by have := HNR.out.2; omega
    clear hneg hp c3 c4
    go_wp2_with fail
    refine (C3.out _).mono ?_
    rintro e w3 ⟨rfl, rfl⟩
    by_cases hu : u = v
    · subst hu
      have C4' := Lib.hid (C4.out rfl)
      go_wp2_with fail
      refine (C4'.out _).mono ?_
      rintro e w4 ⟨rfl, hb4⟩
      have HB4 := Lib.hid (Below.after HBB.out hb4)
      clear hb4
      go_wp2_with fail
      go_ret
      exact ⟨rfl, HB4.out⟩
    · have g1 : (u == v) = false := by simpa using hu
      have g2 : (u != v) = true := by simpa using hu
      have g3 : decide (u = v) = false := decide_eq_false hu
      go_wp2_with fail
      go_ret
      exact ⟨rfl, HBB.out⟩
  · have g1 : (v == n) = false := by simpa using hv
    have g3 : decide (v = n) = false := decide_eq_false hv
    have HBB := Lib.hid (show Below w1.heap.size w1 (w1.alloc (.cells #[.int .i64 13, .int .i64 0, .int .u64 0, .float .f64 b, .string ⟨#[]⟩, .slice none 0 0, .slice none 0 0] 28)) from (Below.refl _ _).alloc (Nat.le_refl _) _)
    by_cases hneg : (FloatKind.f64.format.order b 0 == some .lt) = true
    · go_wp2_with fail
      go_ret
      exact ⟨rfl, HBB.out⟩
    have h0 : (FloatKind.f64.format.order b 0 == some .lt) = false := by simpa using hneg
    have hp := HP.out h0
    obtain ⟨u, c3, c4⟩ := toU_float HCK.out (.int .i64 0) (.int .u64 0) (.string ⟨#[]⟩) (.slice none 0 0) (.slice none 0 0) b n HBT.out ⟨hp, HNR.out.2⟩ h0
    have C3 := Lib.hid c3
    have C4 := Lib.hid c4
    have u1 : IntKind.u64.wrap n = n := by rw [wu64]; have := HNR.out.2; omega
    have u2 : n % 18446744073709551616 = n := by have := HNR.out.2; omega
    clear hneg hp c3 c4
    go_wp2_with fail
    refine (C3.out _).mono ?_
    rintro e w3 ⟨rfl, rfl⟩
    by_cases hu : u = n
    · subst hu
      have C4' := Lib.hid (C4.out rfl)
      go_wp2_with fail
      refine (C4'.out _).mono ?_
      rintro e w4 ⟨rfl, hb4⟩
      have HB4 := Lib.hid (Below.after HBB.out hb4)
      clear hb4
      go_wp2_with fail
      go_ret
      exact ⟨rfl, HB4.out⟩
    · have g4 : (u == n) = false := by simpa using hu
      have g2 : (u != n) = true := by simpa using hu
      have g5 : decide (u = n) = false := decide_eq_false hu
      go_wp2_with fail
      go_ret
      exact ⟨rfl, HBB.out⟩
end Go.Proofs.YtnnfdlhedggkmaaGreatDoor
