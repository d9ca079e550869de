/- FnCastUintFits: an unsigned number, cast to a type that has it. (Printed by gen_cast.py.) -/
import Derived.Test.YtnnfdlhedggkmaaGreatDoorCastC
import Derived.WalkKit
import Derived.KernelRfl
import Derived.RowKit3
import Derived.Deep.QuietTactic
import Derived.BigQuiet
import Derived.Lib.Hide
import Derived.Deep.DeepFit
import Derived.WalkSpells
import Derived.WalkLawsBesides
namespace Go.Proofs.YtnnfdlhedggkmaaGreatDoor
open Go.RowKit
set_option linter.unusedVariables false
set_option linter.unusedSimpArgs false

theorem heap_at' (w : World) (o : Obj) (n : Nat) (h : n = w.heap.size) : (w.alloc o).heap[n]? = some o := by
  subst h
  show (w.heap.push o)[w.heap.size]? = _
  simp
theorem cell_at' {w : World} {b : Nat} {cells : Array Value} {ty : TypeId} {fz : Nat × Nat} (h : w.heap[b]? = some (.cells cells ty fz)) (i : Nat) (v : Value) (hv : cells[i]? = some v) : w.cell? ⟨b, i, none⟩ = some v := by
  simp [World.cell?, h, hv]
/-- Kinds of numbers. -/
theorem kindU_any (k : Int) (w : World) : Calls Tryz.prog 6 #[.int .i64 k] w fun e w' => (∃ j : Int, e = .returned (.int .i64 j) ∧ (j = 7 ∨ j = 8 ∨ j = 9 ∨ j = 10 ∨ j = 11)) ∧ w' = w := by
  go_enter Tryz.func6, Tryz.ntmps6
  go_wp2_with fail
  go_ret
  refine ⟨⟨_, rfl, ?_⟩, rfl⟩
  have h0 : 0 ≤ IntKind.u64.wrap k := by rw [wu64]; omega
  generalize IntKind.u64.wrap k = u at *
  rw [Int.tmod_eq_emod_of_nonneg h0]
  simp only [wrap64]
  omega
theorem kindI_any (k : Int) (w : World) : Calls Tryz.prog 5 #[.int .i64 k] w fun e w' => (∃ j : Int, e = .returned (.int .i64 j) ∧ (j = 2 ∨ j = 3 ∨ j = 4 ∨ j = 5 ∨ j = 6)) ∧ w' = w := by
  go_enter Tryz.func5, Tryz.ntmps5
  go_wp2_with fail
  go_ret
  refine ⟨⟨_, rfl, ?_⟩, rfl⟩
  have h0 : 0 ≤ IntKind.u64.wrap k := by rw [wu64]; omega
  generalize IntKind.u64.wrap k = u at *
  rw [Int.tmod_eq_emod_of_nonneg h0]
  simp only [wrap64]
  omega
theorem toU_uint {b : Int} (hb : b = 7 ∨ b = 8 ∨ b = 9 ∨ b = 10 ∨ b = 11) (vi vf vs vl vm : Value) (m : Int) (hm : (0 ≤ m ∧ m < 18446744073709551616)) : ∃ u : Int,
    (∀ W, Calls Tryz.prog 10 #[.int .i64 b, .agg #[.int .i64 7, vi, .int .u64 m, vf, vs, vl, vm]] W fun e w' => e = .returned (.tuple #[.int .u64 u, .bool true]) ∧ Below W.heap.size W w') ∧
    (∀ W, Calls Tryz.prog 9 #[.int .i64 b, .int .u64 m] W fun e w' => e = .returned (.int .u64 u) ∧ w' = W) := by
  rcases hb with rfl | rfl | rfl | rfl | rfl
  · exact ⟨m, fun W => cast_uint _ _ _ _ _ _ _ _ _ (by omega) (fun W => value_uint vi vf vs vl vm m hm W) (fun W => num_uint_uint m hm W) W, fun W => cut_uint m (by omega) W⟩
  · exact ⟨m % 256, fun W => cast_uint8 _ _ _ _ _ _ _ _ _ (by omega) (fun W => value_uint vi vf vs vl vm m hm W) (fun W => num_uint8_uint m hm W) W, fun W => cut_uint8 m (by omega) W⟩
  · exact ⟨m % 65536, fun W => cast_uint16 _ _ _ _ _ _ _ _ _ (by omega) (fun W => value_uint vi vf vs vl vm m hm W) (fun W => num_uint16_uint m hm W) W, fun W => cut_uint16 m (by omega) W⟩
  · exact ⟨m % 4294967296, fun W => cast_uint32 _ _ _ _ _ _ _ _ _ (by omega) (fun W => value_uint vi vf vs vl vm m hm W) (fun W => num_uint32_uint m hm W) W, fun W => cut_uint32 m (by omega) W⟩
  · exact ⟨m, fun W => cast_uint64 _ _ _ _ _ _ _ _ _ (by omega) (fun W => value_uint vi vf vs vl vm m hm W) (fun W => num_uint64_uint m hm W) W, fun W => cut_uint64 m (by omega) W⟩
theorem toI_uint {a : Int} (ha : a = 2 ∨ a = 3 ∨ a = 4 ∨ a = 5 ∨ a = 6) (vi vf vs vl vm : Value) (m : Int) (hm : (0 ≤ m ∧ m < 18446744073709551616)) : ∃ v : Int,
    (∀ W, Calls Tryz.prog 8 #[.int .i64 a, .agg #[.int .i64 7, vi, .int .u64 m, vf, vs, vl, vm]] W fun e w' => e = .returned (.tuple #[.int .i64 v, .bool true]) ∧ Below W.heap.size W w') ∧
    (∀ W, Calls Tryz.prog 7 #[.int .i64 a, .int .i64 (wrap64 m)] W fun e w' => e = .returned (.int .i64 v) ∧ w' = W) := by
  rcases ha with rfl | rfl | rfl | rfl | rfl
  · refine ⟨(m + 9223372036854775808) % 18446744073709551616 - 9223372036854775808, fun W => cast_int _ _ _ _ _ _ _ _ _ (by omega) (fun W => value_uint vi vf vs vl vm m hm W) (fun W => num_int_uint m hm W) W, fun W => (cut_int (wrap64 m) (by simp only [wrap64]; omega) W).mono ?_⟩
    rintro e w' ⟨rfl, rfl⟩
    exact ⟨congrArg (fun z => Ending.returned (Value.int IntKind.i64 z)) (by simp only [wrap64]; omega), rfl⟩
  · refine ⟨(m + 128) % 256 - 128, fun W => cast_int8 _ _ _ _ _ _ _ _ _ (by omega) (fun W => value_uint vi vf vs vl vm m hm W) (fun W => num_int8_uint m hm W) W, fun W => (cut_int8 (wrap64 m) (by simp only [wrap64]; omega) W).mono ?_⟩
    rintro e w' ⟨rfl, rfl⟩
    exact ⟨congrArg (fun z => Ending.returned (Value.int IntKind.i64 z)) (by simp only [wrap64]; omega), rfl⟩
  · refine ⟨(m + 32768) % 65536 - 32768, fun W => cast_int16 _ _ _ _ _ _ _ _ _ (by omega) (fun W => value_uint vi vf vs vl vm m hm W) (fun W => num_int16_uint m hm W) W, fun W => (cut_int16 (wrap64 m) (by simp only [wrap64]; omega) W).mono ?_⟩
    rintro e w' ⟨rfl, rfl⟩
    exact ⟨congrArg (fun z => Ending.returned (Value.int IntKind.i64 z)) (by simp only [wrap64]; omega), rfl⟩
  · refine ⟨(m + 2147483648) % 4294967296 - 2147483648, fun W => cast_int32 _ _ _ _ _ _ _ _ _ (by omega) (fun W => value_uint vi vf vs vl vm m hm W) (fun W => num_int32_uint m hm W) W, fun W => (cut_int32 (wrap64 m) (by simp only [wrap64]; omega) W).mono ?_⟩
    rintro e w' ⟨rfl, rfl⟩
    exact ⟨congrArg (fun z => Ending.returned (Value.int IntKind.i64 z)) (by simp only [wrap64]; omega), rfl⟩
  · refine ⟨(m + 9223372036854775808) % 18446744073709551616 - 9223372036854775808, fun W => cast_int64 _ _ _ _ _ _ _ _ _ (by omega) (fun W => value_uint vi vf vs vl vm m hm W) (fun W => num_int64_uint m hm W) W, fun W => (cut_int64 (wrap64 m) (by simp only [wrap64]; omega) W).mono ?_⟩
    rintro e w' ⟨rfl, rfl⟩
    exact ⟨congrArg (fun z => Ending.returned (Value.int IntKind.i64 z)) (by simp only [wrap64]; omega), rfl⟩
theorem toU_uint8 {b : Int} (hb : b = 7 ∨ b = 8 ∨ b = 9 ∨ b = 10 ∨ b = 11) (vi vf vs vl vm : Value) (m : Int) (hm : (0 ≤ m ∧ m < 256)) : ∃ u : Int,
    (∀ W, Calls Tryz.prog 10 #[.int .i64 b, .agg #[.int .i64 8, vi, .int .u64 m, vf, vs, vl, vm]] W fun e w' => e = .returned (.tuple #[.int .u64 u, .bool true]) ∧ Below W.heap.size W w') ∧
    (∀ W, Calls Tryz.prog 9 #[.int .i64 b, .int .u64 m] W fun e w' => e = .returned (.int .u64 u) ∧ w' = W) := by
  rcases hb with rfl | rfl | rfl | rfl | rfl
  · exact ⟨m, fun W => cast_uint _ _ _ _ _ _ _ _ _ (by omega) (fun W => value_uint8 vi vf vs vl vm m hm W) (fun W => num_uint_uint8 m hm W) W, fun W => cut_uint m (by omega) W⟩
  · exact ⟨m % 256, fun W => cast_uint8 _ _ _ _ _ _ _ _ _ (by omega) (fun W => value_uint8 vi vf vs vl vm m hm W) (fun W => num_uint8_uint8 m hm W) W, fun W => cut_uint8 m (by omega) W⟩
  · exact ⟨m % 65536, fun W => cast_uint16 _ _ _ _ _ _ _ _ _ (by omega) (fun W => value_uint8 vi vf vs vl vm m hm W) (fun W => num_uint16_uint8 m hm W) W, fun W => cut_uint16 m (by omega) W⟩
  · exact ⟨m % 4294967296, fun W => cast_uint32 _ _ _ _ _ _ _ _ _ (by omega) (fun W => value_uint8 vi vf vs vl vm m hm W) (fun W => num_uint32_uint8 m hm W) W, fun W => cut_uint32 m (by omega) W⟩
  · exact ⟨m, fun W => cast_uint64 _ _ _ _ _ _ _ _ _ (by omega) (fun W => value_uint8 vi vf vs vl vm m hm W) (fun W => num_uint64_uint8 m hm W) W, fun W => cut_uint64 m (by omega) W⟩
theorem toI_uint8 {a : Int} (ha : a = 2 ∨ a = 3 ∨ a = 4 ∨ a = 5 ∨ a = 6) (vi vf vs vl vm : Value) (m : Int) (hm : (0 ≤ m ∧ m < 256)) : ∃ v : Int,
    (∀ W, Calls Tryz.prog 8 #[.int .i64 a, .agg #[.int .i64 8, vi, .int .u64 m, vf, vs, vl, vm]] W fun e w' => e = .returned (.tuple #[.int .i64 v, .bool true]) ∧ Below W.heap.size W w') ∧
    (∀ W, Calls Tryz.prog 7 #[.int .i64 a, .int .i64 (wrap64 m)] W fun e w' => e = .returned (.int .i64 v) ∧ w' = W) := by
  rcases ha with rfl | rfl | rfl | rfl | rfl
  · refine ⟨(m + 9223372036854775808) % 18446744073709551616 - 9223372036854775808, fun W => cast_int _ _ _ _ _ _ _ _ _ (by omega) (fun W => value_uint8 vi vf vs vl vm m hm W) (fun W => num_int_uint8 m hm W) W, fun W => (cut_int (wrap64 m) (by simp only [wrap64]; omega) W).mono ?_⟩
    rintro e w' ⟨rfl, rfl⟩
    exact ⟨congrArg (fun z => Ending.returned (Value.int IntKind.i64 z)) (by simp only [wrap64]; omega), rfl⟩
  · refine ⟨(m + 128) % 256 - 128, fun W => cast_int8 _ _ _ _ _ _ _ _ _ (by omega) (fun W => value_uint8 vi vf vs vl vm m hm W) (fun W => num_int8_uint8 m hm W) W, fun W => (cut_int8 (wrap64 m) (by simp only [wrap64]; omega) W).mono ?_⟩
    rintro e w' ⟨rfl, rfl⟩
    exact ⟨congrArg (fun z => Ending.returned (Value.int IntKind.i64 z)) (by simp only [wrap64]; omega), rfl⟩
  · refine ⟨(m + 32768) % 65536 - 32768, fun W => cast_int16 _ _ _ _ _ _ _ _ _ (by omega) (fun W => value_uint8 vi vf vs vl vm m hm W) (fun W => num_int16_uint8 m hm W) W, fun W => (cut_int16 (wrap64 m) (by simp only [wrap64]; omega) W).mono ?_⟩
    rintro e w' ⟨rfl, rfl⟩
    exact ⟨congrArg (fun z => Ending.returned (Value.int IntKind.i64 z)) (by simp only [wrap64]; omega), rfl⟩
  · refine ⟨(m + 2147483648) % 4294967296 - 2147483648, fun W => cast_int32 _ _ _ _ _ _ _ _ _ (by omega) (fun W => value_uint8 vi vf vs vl vm m hm W) (fun W => num_int32_uint8 m hm W) W, fun W => (cut_int32 (wrap64 m) (by simp only [wrap64]; omega) W).mono ?_⟩
    rintro e w' ⟨rfl, rfl⟩
    exact ⟨congrArg (fun z => Ending.returned (Value.int IntKind.i64 z)) (by simp only [wrap64]; omega), rfl⟩
  · refine ⟨(m + 9223372036854775808) % 18446744073709551616 - 9223372036854775808, fun W => cast_int64 _ _ _ _ _ _ _ _ _ (by omega) (fun W => value_uint8 vi vf vs vl vm m hm W) (fun W => num_int64_uint8 m hm W) W, fun W => (cut_int64 (wrap64 m) (by simp only [wrap64]; omega) W).mono ?_⟩
    rintro e w' ⟨rfl, rfl⟩
    exact ⟨congrArg (fun z => Ending.returned (Value.int IntKind.i64 z)) (by simp only [wrap64]; omega), rfl⟩
theorem toU_uint16 {b : Int} (hb : b = 7 ∨ b = 8 ∨ b = 9 ∨ b = 10 ∨ b = 11) (vi vf vs vl vm : Value) (m : Int) (hm : (0 ≤ m ∧ m < 65536)) : ∃ u : Int,
    (∀ W, Calls Tryz.prog 10 #[.int .i64 b, .agg #[.int .i64 9, vi, .int .u64 m, vf, vs, vl, vm]] W fun e w' => e = .returned (.tuple #[.int .u64 u, .bool true]) ∧ Below W.heap.size W w') ∧
    (∀ W, Calls Tryz.prog 9 #[.int .i64 b, .int .u64 m] W fun e w' => e = .returned (.int .u64 u) ∧ w' = W) := by
  rcases hb with rfl | rfl | rfl | rfl | rfl
  · exact ⟨m, fun W => cast_uint _ _ _ _ _ _ _ _ _ (by omega) (fun W => value_uint16 vi vf vs vl vm m hm W) (fun W => num_uint_uint16 m hm W) W, fun W => cut_uint m (by omega) W⟩
  · exact ⟨m % 256, fun W => cast_uint8 _ _ _ _ _ _ _ _ _ (by omega) (fun W => value_uint16 vi vf vs vl vm m hm W) (fun W => num_uint8_uint16 m hm W) W, fun W => cut_uint8 m (by omega) W⟩
  · exact ⟨m % 65536, fun W => cast_uint16 _ _ _ _ _ _ _ _ _ (by omega) (fun W => value_uint16 vi vf vs vl vm m hm W) (fun W => num_uint16_uint16 m hm W) W, fun W => cut_uint16 m (by omega) W⟩
  · exact ⟨m % 4294967296, fun W => cast_uint32 _ _ _ _ _ _ _ _ _ (by omega) (fun W => value_uint16 vi vf vs vl vm m hm W) (fun W => num_uint32_uint16 m hm W) W, fun W => cut_uint32 m (by omega) W⟩
  · exact ⟨m, fun W => cast_uint64 _ _ _ _ _ _ _ _ _ (by omega) (fun W => value_uint16 vi vf vs vl vm m hm W) (fun W => num_uint64_uint16 m hm W) W, fun W => cut_uint64 m (by omega) W⟩
theorem toI_uint16 {a : Int} (ha : a = 2 ∨ a = 3 ∨ a = 4 ∨ a = 5 ∨ a = 6) (vi vf vs vl vm : Value) (m : Int) (hm : (0 ≤ m ∧ m < 65536)) : ∃ v : Int,
    (∀ W, Calls Tryz.prog 8 #[.int .i64 a, .agg #[.int .i64 9, vi, .int .u64 m, vf, vs, vl, vm]] W fun e w' => e = .returned (.tuple #[.int .i64 v, .bool true]) ∧ Below W.heap.size W w') ∧
    (∀ W, Calls Tryz.prog 7 #[.int .i64 a, .int .i64 (wrap64 m)] W fun e w' => e = .returned (.int .i64 v) ∧ w' = W) := by
  rcases ha with rfl | rfl | rfl | rfl | rfl
  · refine ⟨(m + 9223372036854775808) % 18446744073709551616 - 9223372036854775808, fun W => cast_int _ _ _ _ _ _ _ _ _ (by omega) (fun W => value_uint16 vi vf vs vl vm m hm W) (fun W => num_int_uint16 m hm W) W, fun W => (cut_int (wrap64 m) (by simp only [wrap64]; omega) W).mono ?_⟩
    rintro e w' ⟨rfl, rfl⟩
    exact ⟨congrArg (fun z => Ending.returned (Value.int IntKind.i64 z)) (by simp only [wrap64]; omega), rfl⟩
  · refine ⟨(m + 128) % 256 - 128, fun W => cast_int8 _ _ _ _ _ _ _ _ _ (by omega) (fun W => value_uint16 vi vf vs vl vm m hm W) (fun W => num_int8_uint16 m hm W) W, fun W => (cut_int8 (wrap64 m) (by simp only [wrap64]; omega) W).mono ?_⟩
    rintro e w' ⟨rfl, rfl⟩
    exact ⟨congrArg (fun z => Ending.returned (Value.int IntKind.i64 z)) (by simp only [wrap64]; omega), rfl⟩
  · refine ⟨(m + 32768) % 65536 - 32768, fun W => cast_int16 _ _ _ _ _ _ _ _ _ (by omega) (fun W => value_uint16 vi vf vs vl vm m hm W) (fun W => num_int16_uint16 m hm W) W, fun W => (cut_int16 (wrap64 m) (by simp only [wrap64]; omega) W).mono ?_⟩
    rintro e w' ⟨rfl, rfl⟩
    exact ⟨congrArg (fun z => Ending.returned (Value.int IntKind.i64 z)) (by simp only [wrap64]; omega), rfl⟩
  · refine ⟨(m + 2147483648) % 4294967296 - 2147483648, fun W => cast_int32 _ _ _ _ _ _ _ _ _ (by omega) (fun W => value_uint16 vi vf vs vl vm m hm W) (fun W => num_int32_uint16 m hm W) W, fun W => (cut_int32 (wrap64 m) (by simp only [wrap64]; omega) W).mono ?_⟩
    rintro e w' ⟨rfl, rfl⟩
    exact ⟨congrArg (fun z => Ending.returned (Value.int IntKind.i64 z)) (by simp only [wrap64]; omega), rfl⟩
  · refine ⟨(m + 9223372036854775808) % 18446744073709551616 - 9223372036854775808, fun W => cast_int64 _ _ _ _ _ _ _ _ _ (by omega) (fun W => value_uint16 vi vf vs vl vm m hm W) (fun W => num_int64_uint16 m hm W) W, fun W => (cut_int64 (wrap64 m) (by simp only [wrap64]; omega) W).mono ?_⟩
    rintro e w' ⟨rfl, rfl⟩
    exact ⟨congrArg (fun z => Ending.returned (Value.int IntKind.i64 z)) (by simp only [wrap64]; omega), rfl⟩
theorem toU_uint32 {b : Int} (hb : b = 7 ∨ b = 8 ∨ b = 9 ∨ b = 10 ∨ b = 11) (vi vf vs vl vm : Value) (m : Int) (hm : (0 ≤ m ∧ m < 4294967296)) : ∃ u : Int,
    (∀ W, Calls Tryz.prog 10 #[.int .i64 b, .agg #[.int .i64 10, vi, .int .u64 m, vf, vs, vl, vm]] W fun e w' => e = .returned (.tuple #[.int .u64 u, .bool true]) ∧ Below W.heap.size W w') ∧
    (∀ W, Calls Tryz.prog 9 #[.int .i64 b, .int .u64 m] W fun e w' => e = .returned (.int .u64 u) ∧ w' = W) := by
  rcases hb with rfl | rfl | rfl | rfl | rfl
  · exact ⟨m, fun W => cast_uint _ _ _ _ _ _ _ _ _ (by omega) (fun W => value_uint32 vi vf vs vl vm m hm W) (fun W => num_uint_uint32 m hm W) W, fun W => cut_uint m (by omega) W⟩
  · exact ⟨m % 256, fun W => cast_uint8 _ _ _ _ _ _ _ _ _ (by omega) (fun W => value_uint32 vi vf vs vl vm m hm W) (fun W => num_uint8_uint32 m hm W) W, fun W => cut_uint8 m (by omega) W⟩
  · exact ⟨m % 65536, fun W => cast_uint16 _ _ _ _ _ _ _ _ _ (by omega) (fun W => value_uint32 vi vf vs vl vm m hm W) (fun W => num_uint16_uint32 m hm W) W, fun W => cut_uint16 m (by omega) W⟩
  · exact ⟨m % 4294967296, fun W => cast_uint32 _ _ _ _ _ _ _ _ _ (by omega) (fun W => value_uint32 vi vf vs vl vm m hm W) (fun W => num_uint32_uint32 m hm W) W, fun W => cut_uint32 m (by omega) W⟩
  · exact ⟨m, fun W => cast_uint64 _ _ _ _ _ _ _ _ _ (by omega) (fun W => value_uint32 vi vf vs vl vm m hm W) (fun W => num_uint64_uint32 m hm W) W, fun W => cut_uint64 m (by omega) W⟩
theorem toI_uint32 {a : Int} (ha : a = 2 ∨ a = 3 ∨ a = 4 ∨ a = 5 ∨ a = 6) (vi vf vs vl vm : Value) (m : Int) (hm : (0 ≤ m ∧ m < 4294967296)) : ∃ v : Int,
    (∀ W, Calls Tryz.prog 8 #[.int .i64 a, .agg #[.int .i64 10, vi, .int .u64 m, vf, vs, vl, vm]] W fun e w' => e = .returned (.tuple #[.int .i64 v, .bool true]) ∧ Below W.heap.size W w') ∧
    (∀ W, Calls Tryz.prog 7 #[.int .i64 a, .int .i64 (wrap64 m)] W fun e w' => e = .returned (.int .i64 v) ∧ w' = W) := by
  rcases ha with rfl | rfl | rfl | rfl | rfl
  · refine ⟨(m + 9223372036854775808) % 18446744073709551616 - 9223372036854775808, fun W => cast_int _ _ _ _ _ _ _ _ _ (by omega) (fun W => value_uint32 vi vf vs vl vm m hm W) (fun W => num_int_uint32 m hm W) W, fun W => (cut_int (wrap64 m) (by simp only [wrap64]; omega) W).mono ?_⟩
    rintro e w' ⟨rfl, rfl⟩
    exact ⟨congrArg (fun z => Ending.returned (Value.int IntKind.i64 z)) (by simp only [wrap64]; omega), rfl⟩
  · refine ⟨(m + 128) % 256 - 128, fun W => cast_int8 _ _ _ _ _ _ _ _ _ (by omega) (fun W => value_uint32 vi vf vs vl vm m hm W) (fun W => num_int8_uint32 m hm W) W, fun W => (cut_int8 (wrap64 m) (by simp only [wrap64]; omega) W).mono ?_⟩
    rintro e w' ⟨rfl, rfl⟩
    exact ⟨congrArg (fun z => Ending.returned (Value.int IntKind.i64 z)) (by simp only [wrap64]; omega), rfl⟩
  · refine ⟨(m + 32768) % 65536 - 32768, fun W => cast_int16 _ _ _ _ _ _ _ _ _ (by omega) (fun W => value_uint32 vi vf vs vl vm m hm W) (fun W => num_int16_uint32 m hm W) W, fun W => (cut_int16 (wrap64 m) (by simp only [wrap64]; omega) W).mono ?_⟩
    rintro e w' ⟨rfl, rfl⟩
    exact ⟨congrArg (fun z => Ending.returned (Value.int IntKind.i64 z)) (by simp only [wrap64]; omega), rfl⟩
  · refine ⟨(m + 2147483648) % 4294967296 - 2147483648, fun W => cast_int32 _ _ _ _ _ _ _ _ _ (by omega) (fun W => value_uint32 vi vf vs vl vm m hm W) (fun W => num_int32_uint32 m hm W) W, fun W => (cut_int32 (wrap64 m) (by simp only [wrap64]; omega) W).mono ?_⟩
    rintro e w' ⟨rfl, rfl⟩
    exact ⟨congrArg (fun z => Ending.returned (Value.int IntKind.i64 z)) (by simp only [wrap64]; omega), rfl⟩
  · refine ⟨(m + 9223372036854775808) % 18446744073709551616 - 9223372036854775808, fun W => cast_int64 _ _ _ _ _ _ _ _ _ (by omega) (fun W => value_uint32 vi vf vs vl vm m hm W) (fun W => num_int64_uint32 m hm W) W, fun W => (cut_int64 (wrap64 m) (by simp only [wrap64]; omega) W).mono ?_⟩
    rintro e w' ⟨rfl, rfl⟩
    exact ⟨congrArg (fun z => Ending.returned (Value.int IntKind.i64 z)) (by simp only [wrap64]; omega), rfl⟩
theorem toU_uint64 {b : Int} (hb : b = 7 ∨ b = 8 ∨ b = 9 ∨ b = 10 ∨ b = 11) (vi vf vs vl vm : Value) (m : Int) (hm : (0 ≤ m ∧ m < 18446744073709551616)) : ∃ u : Int,
    (∀ W, Calls Tryz.prog 10 #[.int .i64 b, .agg #[.int .i64 11, vi, .int .u64 m, vf, vs, vl, vm]] W fun e w' => e = .returned (.tuple #[.int .u64 u, .bool true]) ∧ Below W.heap.size W w') ∧
    (∀ W, Calls Tryz.prog 9 #[.int .i64 b, .int .u64 m] W fun e w' => e = .returned (.int .u64 u) ∧ w' = W) := by
  rcases hb with rfl | rfl | rfl | rfl | rfl
  · exact ⟨m, fun W => cast_uint _ _ _ _ _ _ _ _ _ (by omega) (fun W => value_uint64 vi vf vs vl vm m hm W) (fun W => num_uint_uint64 m hm W) W, fun W => cut_uint m (by omega) W⟩
  · exact ⟨m % 256, fun W => cast_uint8 _ _ _ _ _ _ _ _ _ (by omega) (fun W => value_uint64 vi vf vs vl vm m hm W) (fun W => num_uint8_uint64 m hm W) W, fun W => cut_uint8 m (by omega) W⟩
  · exact ⟨m % 65536, fun W => cast_uint16 _ _ _ _ _ _ _ _ _ (by omega) (fun W => value_uint64 vi vf vs vl vm m hm W) (fun W => num_uint16_uint64 m hm W) W, fun W => cut_uint16 m (by omega) W⟩
  · exact ⟨m % 4294967296, fun W => cast_uint32 _ _ _ _ _ _ _ _ _ (by omega) (fun W => value_uint64 vi vf vs vl vm m hm W) (fun W => num_uint32_uint64 m hm W) W, fun W => cut_uint32 m (by omega) W⟩
  · exact ⟨m, fun W => cast_uint64 _ _ _ _ _ _ _ _ _ (by omega) (fun W => value_uint64 vi vf vs vl vm m hm W) (fun W => num_uint64_uint64 m hm W) W, fun W => cut_uint64 m (by omega) W⟩
theorem toI_uint64 {a : Int} (ha : a = 2 ∨ a = 3 ∨ a = 4 ∨ a = 5 ∨ a = 6) (vi vf vs vl vm : Value) (m : Int) (hm : (0 ≤ m ∧ m < 18446744073709551616)) : ∃ v : Int,
    (∀ W, Calls Tryz.prog 8 #[.int .i64 a, .agg #[.int .i64 11, vi, .int .u64 m, vf, vs, vl, vm]] W fun e w' => e = .returned (.tuple #[.int .i64 v, .bool true]) ∧ Below W.heap.size W w') ∧
    (∀ W, Calls Tryz.prog 7 #[.int .i64 a, .int .i64 (wrap64 m)] W fun e w' => e = .returned (.int .i64 v) ∧ w' = W) := by
  rcases ha with rfl | rfl | rfl | rfl | rfl
  · refine ⟨(m + 9223372036854775808) % 18446744073709551616 - 9223372036854775808, fun W => cast_int _ _ _ _ _ _ _ _ _ (by omega) (fun W => value_uint64 vi vf vs vl vm m hm W) (fun W => num_int_uint64 m hm W) W, fun W => (cut_int (wrap64 m) (by simp only [wrap64]; omega) W).mono ?_⟩
    rintro e w' ⟨rfl, rfl⟩
    exact ⟨congrArg (fun z => Ending.returned (Value.int IntKind.i64 z)) (by simp only [wrap64]; omega), rfl⟩
  · refine ⟨(m + 128) % 256 - 128, fun W => cast_int8 _ _ _ _ _ _ _ _ _ (by omega) (fun W => value_uint64 vi vf vs vl vm m hm W) (fun W => num_int8_uint64 m hm W) W, fun W => (cut_int8 (wrap64 m) (by simp only [wrap64]; omega) W).mono ?_⟩
    rintro e w' ⟨rfl, rfl⟩
    exact ⟨congrArg (fun z => Ending.returned (Value.int IntKind.i64 z)) (by simp only [wrap64]; omega), rfl⟩
  · refine ⟨(m + 32768) % 65536 - 32768, fun W => cast_int16 _ _ _ _ _ _ _ _ _ (by omega) (fun W => value_uint64 vi vf vs vl vm m hm W) (fun W => num_int16_uint64 m hm W) W, fun W => (cut_int16 (wrap64 m) (by simp only [wrap64]; omega) W).mono ?_⟩
    rintro e w' ⟨rfl, rfl⟩
    exact ⟨congrArg (fun z => Ending.returned (Value.int IntKind.i64 z)) (by simp only [wrap64]; omega), rfl⟩
  · refine ⟨(m + 2147483648) % 4294967296 - 2147483648, fun W => cast_int32 _ _ _ _ _ _ _ _ _ (by omega) (fun W => value_uint64 vi vf vs vl vm m hm W) (fun W => num_int32_uint64 m hm W) W, fun W => (cut_int32 (wrap64 m) (by simp only [wrap64]; omega) W).mono ?_⟩
    rintro e w' ⟨rfl, rfl⟩
    exact ⟨congrArg (fun z => Ending.returned (Value.int IntKind.i64 z)) (by simp only [wrap64]; omega), rfl⟩
  · refine ⟨(m + 9223372036854775808) % 18446744073709551616 - 9223372036854775808, fun W => cast_int64 _ _ _ _ _ _ _ _ _ (by omega) (fun W => value_uint64 vi vf vs vl vm m hm W) (fun W => num_int64_uint64 m hm W) W, fun W => (cut_int64 (wrap64 m) (by simp only [wrap64]; omega) W).mono ?_⟩
    rintro e w' ⟨rfl, rfl⟩
    exact ⟨congrArg (fun z => Ending.returned (Value.int IntKind.i64 z)) (by simp only [wrap64]; omega), rfl⟩
theorem fits_of {f a b : Int} (hf : f = 7 ∨ f = 8 ∨ f = 9 ∨ f = 10 ∨ f = 11) (ha : a = 2 ∨ a = 3 ∨ a = 4 ∨ a = 5 ∨ a = 6) (hb : b = 7 ∨ b = 8 ∨ b = 9 ∨ b = 10 ∨ b = 11) (vi vf vs vl vm : Value) (n : Int) (hn : (0 ≤ n ∧ n < 18446744073709551616)) : ∃ m u v : Int,
    (∀ W, Calls Tryz.prog 9 #[.int .i64 f, .int .u64 n] W fun e w' => e = .returned (.int .u64 m) ∧ w' = W) ∧
    (∀ W, Calls Tryz.prog 10 #[.int .i64 b, .agg #[.int .i64 f, vi, .int .u64 m, vf, vs, vl, vm]] W fun e w' => e = .returned (.tuple #[.int .u64 u, .bool true]) ∧ Below W.heap.size W w') ∧
    (∀ W, Calls Tryz.prog 9 #[.int .i64 b, .int .u64 m] W fun e w' => e = .returned (.int .u64 u) ∧ w' = W) ∧
    (∀ W, Calls Tryz.prog 8 #[.int .i64 a, .agg #[.int .i64 f, vi, .int .u64 m, vf, vs, vl, vm]] W fun e w' => e = .returned (.tuple #[.int .i64 v, .bool true]) ∧ Below W.heap.size W w') ∧
    (∀ W, Calls Tryz.prog 7 #[.int .i64 a, .int .i64 (wrap64 m)] W fun e w' => e = .returned (.int .i64 v) ∧ w' = W) := by
  rcases hf with rfl | rfl | rfl | rfl | rfl
  · obtain ⟨u, h1, h2⟩ := toU_uint hb vi vf vs vl vm (n) (by omega)
    obtain ⟨v, h3, h4⟩ := toI_uint ha vi vf vs vl vm (n) (by omega)
    exact ⟨_, u, v, fun W => cut_uint n hn W, h1, h2, h3, h4⟩
  · obtain ⟨u, h1, h2⟩ := toU_uint8 hb vi vf vs vl vm (n % 256) (by omega)
    obtain ⟨v, h3, h4⟩ := toI_uint8 ha vi vf vs vl vm (n % 256) (by omega)
    exact ⟨_, u, v, fun W => cut_uint8 n hn W, h1, h2, h3, h4⟩
  · obtain ⟨u, h1, h2⟩ := toU_uint16 hb vi vf vs vl vm (n % 65536) (by omega)
    obtain ⟨v, h3, h4⟩ := toI_uint16 ha vi vf vs vl vm (n % 65536) (by omega)
    exact ⟨_, u, v, fun W => cut_uint16 n hn W, h1, h2, h3, h4⟩
  · obtain ⟨u, h1, h2⟩ := toU_uint32 hb vi vf vs vl vm (n % 4294967296) (by omega)
    obtain ⟨v, h3, h4⟩ := toI_uint32 ha vi vf vs vl vm (n % 4294967296) (by omega)
    exact ⟨_, u, v, fun W => cut_uint32 n hn W, h1, h2, h3, h4⟩
  · obtain ⟨u, h1, h2⟩ := toU_uint64 hb vi vf vs vl vm (n) (by omega)
    obtain ⟨v, h3, h4⟩ := toI_uint64 ha vi vf vs vl vm (n) (by omega)
    exact ⟨_, u, v, fun W => cut_uint64 n hn W, h1, h2, h3, h4⟩
theorem fnCastUintFits_walk (f : Int) {I : Prop} (hf : I) (k : Int) {I' : Prop} (hk : I') (n : Int) (hn : (Lit.int .u64 n).wf = true) (W : World) :
    Calls Tryz.prog 4 #[.int .i64 f, .int .i64 k, .int .u64 n] W fun e w' => e = .returned (.bool true) ∧ Below W.heap.size W w' := by
  have hr : (0 ≤ n ∧ n < 18446744073709551616) := by
    have e1 : IntKind.u64.min = 0 := by first | rfl | decide
    have e2 : IntKind.u64.max = 18446744073709551615 := by first | rfl | decide
    simp only [Lit.wf, Bool.and_eq_true, decide_eq_true_eq, e1, e2] at hn
    omega
  have hst : ∀ w b, Sem.run Tryz.prog (store ⟨b, 3, none⟩ (.float .f64 0)) w = stored Tryz.prog w ⟨b, 3, none⟩ (.float .f64 0) .plain := fun w _ => run_store _ w _ _ _ rfl
  have CU := Lib.hid (fun (k : Int) (w : World) => kindU_any k w)
  have CI := Lib.hid (fun (k : Int) (w : World) => kindI_any k w)
  clear hn
  go_enter Tryz.func4, Tryz.ntmps4
  go_wp2_with fail
  refine (CU.out _ _).mono ?_
  rintro e w1 ⟨⟨j, rfl, hj⟩, rfl⟩
  have HJ := Lib.hid hj
  clear hj
  go_wp2_with fail
  refine (CI.out _ _).mono ?_
  rintro e w1 ⟨⟨a, rfl, ha⟩, rfl⟩
  have HA := Lib.hid ha
  clear ha
  go_wp2_with fail
  refine (CU.out _ _).mono ?_
  rintro e w1 ⟨⟨b, rfl, hb⟩, rfl⟩
  obtain ⟨m, u, v, c1, c2, c3, c4, c5⟩ := fits_of HJ.out HA.out hb (.int .i64 0) (.float .f64 0) (.string ⟨#[]⟩) (.slice none 0 0) (.slice none 0 0) n hr
  have C1 := Lib.hid c1
  have C2 := Lib.hid c2
  have C3 := Lib.hid c3
  have C4 := Lib.hid c4
  have C5 := Lib.hid c5
  clear c1 c2 c3 c4 c5 HJ HA hb CU CI hr
  go_wp2_with fail
  refine (C1.out _).mono ?_
  rintro e w1 ⟨rfl, rfl⟩
  go_wp2_with fail
  refine (C2.out _).mono ?_
  rintro e w2 ⟨rfl, hb2⟩
  have hX : w2.heap[w1.heap.size]? = some (.cells #[.int .i64 j, .int .i64 0, .int .u64 m, .float .f64 0, .string ⟨#[]⟩, .slice none 0 0, .slice none 0 0] 28 (0, 0)) := (hb2.block _ (by simp only [World.size_alloc]; omega)).trans (heap_at' _ _ _ rfl)
  have hbb := Below.after ((Below.refl _ _).alloc (Nat.le_refl _) _) hb2
  have d0 := cell_at' hX 0 _ rfl
  have d1 := cell_at' hX 1 _ rfl
  have d2 := cell_at' hX 2 _ rfl
  have d3 := cell_at' hX 3 _ rfl
  have d4 := cell_at' hX 4 _ rfl
  have d5 := cell_at' hX 5 _ rfl
  have d6 := cell_at' hX 6 _ rfl
  have HBB := Lib.hid hbb
  clear hX hbb hb2
  by_cases hum : u = m
  · subst hum
    go_wp2_with fail
    refine (C3.out _).mono ?_
    rintro e w3 ⟨rfl, rfl⟩
    go_wp2_with fail
    refine (C4.out _).mono ?_
    rintro e w4 ⟨rfl, hb4⟩
    have HB4 := Lib.hid (Below.after HBB.out hb4)
    clear hb4
    by_cases hmx : (9223372036854775807 : Int) < u
    · have g3 : decide ((9223372036854775807 : Int) < u) = true := decide_eq_true hmx
      go_wp2_with fail
      go_ret
      exact ⟨rfl, HB4.out⟩
    · have g3 : decide ((9223372036854775807 : Int) < u) = false := decide_eq_false hmx
      go_wp2_with fail
      refine (C5.out _).mono ?_
      rintro e w5 ⟨rfl, rfl⟩
      by_cases hv : v = wrap64 u
      · subst hv
        go_wp2_with fail
        go_ret
        exact ⟨rfl, HB4.out⟩
      · have g4 : (v == wrap64 u) = false := by simpa using hv
        have g5 : (v != wrap64 u) = true := by simpa using hv
        have g6 : decide (v = wrap64 u) = false := decide_eq_false hv
        go_wp2_with fail
        go_ret
        exact ⟨rfl, HB4.out⟩
  · have g1 : (u == m) = false := by simpa using hum
    have g2 : decide (u = m) = false := decide_eq_false hum
    go_wp2_with fail
    refine (C3.out _).mono ?_
    rintro e w3 ⟨rfl, rfl⟩
    go_wp2_with fail
    refine (C4.out _).mono ?_
    rintro e w4 ⟨rfl, hb4⟩
    have HB4 := Lib.hid (Below.after HBB.out hb4)
    clear hb4
    by_cases hmx : (9223372036854775807 : Int) < m
    · have g3 : decide ((9223372036854775807 : Int) < m) = true := decide_eq_true hmx
      go_wp2_with fail
      go_ret
      exact ⟨rfl, HB4.out⟩
    · have g3 : decide ((9223372036854775807 : Int) < m) = false := decide_eq_false hmx
      go_wp2_with fail
      refine (C5.out _).mono ?_
      rintro e w5 ⟨rfl, rfl⟩
      by_cases hv : v = wrap64 m
      · subst hv
        go_wp2_with fail
        go_ret
        exact ⟨rfl, HB4.out⟩
      · have g4 : (v == wrap64 m) = false := by simpa using hv
        have g5 : (v != wrap64 m) = true := by simpa using hv
        have g6 : decide (v = wrap64 m) = false := decide_eq_false hv
        go_wp2_with fail
        go_ret
        exact ⟨rfl, HB4.out⟩
end Go.Proofs.YtnnfdlhedggkmaaGreatDoor
