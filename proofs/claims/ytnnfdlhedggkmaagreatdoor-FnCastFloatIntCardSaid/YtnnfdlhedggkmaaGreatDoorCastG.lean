/- Floats, cast to numbers. (Printed by gen_cast.py.) -/
import Derived.Test.YtnnfdlhedggkmaaGreatDoorCastF
import Derived.WalkKit
import Derived.KernelRfl
import Derived.RowKit3
import Derived.Deep.QuietTactic
import Derived.BigQuiet
import Derived.Lib.Hide
import Derived.Deep.DeepFit
import Derived.WalkSpells
import Derived.WalkLawsBesides
import Derived.Laws.FloatArith
import Derived.Laws.Cover2
namespace Go.Proofs.YtnnfdlhedggkmaaGreatDoor
open Go.RowKit
set_option linter.unusedVariables false
set_option linter.unusedSimpArgs false

theorem indirect_float64 (v : Value) (w : World) : Calls Tryz.prog 69 #[.iface 22 v] w fun e w' => e = .returned (.tuple #[.iface 22 v, .bool false]) ∧ w' = w := by
  have ta0 : ∀ v w, (Instr.typeAssert (.iface 22 v) 20 93 true).run Tryz.prog w = .ok (.tuple #[.pointer none, .bool false]) w := fun _ _ => by kernel_rfl
  have ta1 : ∀ v w, (Instr.typeAssert (.iface 22 v) 20 94 true).run Tryz.prog w = .ok (.tuple #[.pointer none, .bool false]) w := fun _ _ => by kernel_rfl
  go_enter Tryz.func69, Tryz.ntmps69
  go_wp2_with fail
  exact bodyPost_ret (v := .tuple #[.iface 22 v, .bool false]) (by simp [results, Tryz.results69, go_sem]) rfl ⟨rfl, rfl⟩
theorem value_float64 (vi vn vs vl vm : Value) (b : Nat) (w : World) : Calls Tryz.prog 22 #[.agg #[.int .i64 13, vi, vn, .float .f64 b, vs, vl, vm]] w fun e w' => e = .returned (.iface 22 (.float .f64 b)) ∧ Below w.heap.size w w' := by
  go_enter Tryz.func22, Tryz.ntmps22
  go_wp2_with fail
  go_ret
  exact ⟨rfl, (Below.refl _ _).alloc (Nat.le_refl _) _⟩
theorem num_uint_float64 (b : Nat) (n : Int) (hn : floatToIntVal .f64 b .u64 = some n) (h0 : (FloatKind.f64.format.order b 0 == some .lt) = false) (w : World) : Calls Tryz.prog 84 #[.iface 22 (.float .f64 b)] w fun e w' => e = .returned (.tuple #[.int .u64 n, .bool true, .bool true]) ∧ w' = w := by
  have ta0 : ∀ v w, (Instr.typeAssert (.iface 22 v) 20 37 true).run Tryz.prog w = .ok (.tuple #[.int .u64 0, .bool false]) w := fun _ _ => by kernel_rfl
  have ta1 : ∀ v w, (Instr.typeAssert (.iface 22 v) 20 3 true).run Tryz.prog w = .ok (.tuple #[.int .i64 0, .bool false]) w := fun _ _ => by kernel_rfl
  have ta2 : ∀ v w, (Instr.typeAssert (.iface 22 v) 20 38 true).run Tryz.prog w = .ok (.tuple #[.int .i8 0, .bool false]) w := fun _ _ => by kernel_rfl
  have ta3 : ∀ v w, (Instr.typeAssert (.iface 22 v) 20 39 true).run Tryz.prog w = .ok (.tuple #[.int .i16 0, .bool false]) w := fun _ _ => by kernel_rfl
  have ta4 : ∀ v w, (Instr.typeAssert (.iface 22 v) 20 21 true).run Tryz.prog w = .ok (.tuple #[.int .i32 0, .bool false]) w := fun _ _ => by kernel_rfl
  have ta5 : ∀ v w, (Instr.typeAssert (.iface 22 v) 20 2 true).run Tryz.prog w = .ok (.tuple #[.int .i64 0, .bool false]) w := fun _ _ => by kernel_rfl
  have ta6 : ∀ v w, (Instr.typeAssert (.iface 22 v) 20 37 true).run Tryz.prog w = .ok (.tuple #[.int .u64 0, .bool false]) w := fun _ _ => by kernel_rfl
  have ta7 : ∀ v w, (Instr.typeAssert (.iface 22 v) 20 5 true).run Tryz.prog w = .ok (.tuple #[.int .u8 0, .bool false]) w := fun _ _ => by kernel_rfl
  have ta8 : ∀ v w, (Instr.typeAssert (.iface 22 v) 20 41 true).run Tryz.prog w = .ok (.tuple #[.int .u16 0, .bool false]) w := fun _ _ => by kernel_rfl
  have ta9 : ∀ v w, (Instr.typeAssert (.iface 22 v) 20 42 true).run Tryz.prog w = .ok (.tuple #[.int .u32 0, .bool false]) w := fun _ _ => by kernel_rfl
  have ta10 : ∀ v w, (Instr.typeAssert (.iface 22 v) 20 24 true).run Tryz.prog w = .ok (.tuple #[.int .u64 0, .bool false]) w := fun _ _ => by kernel_rfl
  have ta11 : ∀ v w, (Instr.typeAssert (.iface 22 v) 20 69 true).run Tryz.prog w = .ok (.tuple #[.float .f32 0, .bool false]) w := fun _ _ => by kernel_rfl
  have ta12 : ∀ v w, (Instr.typeAssert (.iface 22 v) 20 22 true).run Tryz.prog w = .ok (.tuple #[v, .bool true]) w := fun _ _ => by kernel_rfl
  have hc : ∀ w, (convert 22 37 (.float .f64 b)).run Tryz.prog w = .ok (.int .u64 n) w := fun w => run_convert_float_int w 22 37 .f64 .u64 b n (by rw [Tryz.underlying22]; rfl) Tryz.underlying37 hn
  have C := Lib.hid (fun W => indirect_float64 (.float .f64 b) W)
  clear hn
  go_enter Tryz.func84, Tryz.ntmps84
  go_wp2_with fail
  refine (C.out _).mono ?_
  rintro e w1 ⟨rfl, rfl⟩
  go_wp2_with fail
  exact bodyPost_ret (v := .tuple #[.int .u64 n, .bool true, .bool true]) (by simp [results, Tryz.results84, go_sem]) rfl ⟨rfl, rfl⟩
theorem num_uint8_float64 (b : Nat) (n : Int) (hn : floatToIntVal .f64 b .u8 = some n) (h0 : (FloatKind.f64.format.order b 0 == some .lt) = false) (w : World) : Calls Tryz.prog 78 #[.iface 22 (.float .f64 b)] w fun e w' => e = .returned (.tuple #[.int .u8 n, .bool true, .bool true]) ∧ w' = w := by
  have ta0 : ∀ v w, (Instr.typeAssert (.iface 22 v) 20 5 true).run Tryz.prog w = .ok (.tuple #[.int .u8 0, .bool false]) w := fun _ _ => by kernel_rfl
  have ta1 : ∀ v w, (Instr.typeAssert (.iface 22 v) 20 3 true).run Tryz.prog w = .ok (.tuple #[.int .i64 0, .bool false]) w := fun _ _ => by kernel_rfl
  have ta2 : ∀ v w, (Instr.typeAssert (.iface 22 v) 20 38 true).run Tryz.prog w = .ok (.tuple #[.int .i8 0, .bool false]) w := fun _ _ => by kernel_rfl
  have ta3 : ∀ v w, (Instr.typeAssert (.iface 22 v) 20 39 true).run Tryz.prog w = .ok (.tuple #[.int .i16 0, .bool false]) w := fun _ _ => by kernel_rfl
  have ta4 : ∀ v w, (Instr.typeAssert (.iface 22 v) 20 21 true).run Tryz.prog w = .ok (.tuple #[.int .i32 0, .bool false]) w := fun _ _ => by kernel_rfl
  have ta5 : ∀ v w, (Instr.typeAssert (.iface 22 v) 20 2 true).run Tryz.prog w = .ok (.tuple #[.int .i64 0, .bool false]) w := fun _ _ => by kernel_rfl
  have ta6 : ∀ v w, (Instr.typeAssert (.iface 22 v) 20 37 true).run Tryz.prog w = .ok (.tuple #[.int .u64 0, .bool false]) w := fun _ _ => by kernel_rfl
  have ta7 : ∀ v w, (Instr.typeAssert (.iface 22 v) 20 5 true).run Tryz.prog w = .ok (.tuple #[.int .u8 0, .bool false]) w := fun _ _ => by kernel_rfl
  have ta8 : ∀ v w, (Instr.typeAssert (.iface 22 v) 20 41 true).run Tryz.prog w = .ok (.tuple #[.int .u16 0, .bool false]) w := fun _ _ => by kernel_rfl
  have ta9 : ∀ v w, (Instr.typeAssert (.iface 22 v) 20 42 true).run Tryz.prog w = .ok (.tuple #[.int .u32 0, .bool false]) w := fun _ _ => by kernel_rfl
  have ta10 : ∀ v w, (Instr.typeAssert (.iface 22 v) 20 24 true).run Tryz.prog w = .ok (.tuple #[.int .u64 0, .bool false]) w := fun _ _ => by kernel_rfl
  have ta11 : ∀ v w, (Instr.typeAssert (.iface 22 v) 20 69 true).run Tryz.prog w = .ok (.tuple #[.float .f32 0, .bool false]) w := fun _ _ => by kernel_rfl
  have ta12 : ∀ v w, (Instr.typeAssert (.iface 22 v) 20 22 true).run Tryz.prog w = .ok (.tuple #[v, .bool true]) w := fun _ _ => by kernel_rfl
  have hc : ∀ w, (convert 22 5 (.float .f64 b)).run Tryz.prog w = .ok (.int .u8 n) w := fun w => run_convert_float_int w 22 5 .f64 .u8 b n (by rw [Tryz.underlying22]; rfl) Tryz.underlying5 hn
  have C := Lib.hid (fun W => indirect_float64 (.float .f64 b) W)
  clear hn
  go_enter Tryz.func78, Tryz.ntmps78
  go_wp2_with fail
  refine (C.out _).mono ?_
  rintro e w1 ⟨rfl, rfl⟩
  go_wp2_with fail
  exact bodyPost_ret (v := .tuple #[.int .u8 n, .bool true, .bool true]) (by simp [results, Tryz.results78, go_sem]) rfl ⟨rfl, rfl⟩
theorem num_uint16_float64 (b : Nat) (n : Int) (hn : floatToIntVal .f64 b .u16 = some n) (h0 : (FloatKind.f64.format.order b 0 == some .lt) = false) (w : World) : Calls Tryz.prog 81 #[.iface 22 (.float .f64 b)] w fun e w' => e = .returned (.tuple #[.int .u16 n, .bool true, .bool true]) ∧ w' = w := by
  have ta0 : ∀ v w, (Instr.typeAssert (.iface 22 v) 20 41 true).run Tryz.prog w = .ok (.tuple #[.int .u16 0, .bool false]) w := fun _ _ => by kernel_rfl
  have ta1 : ∀ v w, (Instr.typeAssert (.iface 22 v) 20 3 true).run Tryz.prog w = .ok (.tuple #[.int .i64 0, .bool false]) w := fun _ _ => by kernel_rfl
  have ta2 : ∀ v w, (Instr.typeAssert (.iface 22 v) 20 38 true).run Tryz.prog w = .ok (.tuple #[.int .i8 0, .bool false]) w := fun _ _ => by kernel_rfl
  have ta3 : ∀ v w, (Instr.typeAssert (.iface 22 v) 20 39 true).run Tryz.prog w = .ok (.tuple #[.int .i16 0, .bool false]) w := fun _ _ => by kernel_rfl
  have ta4 : ∀ v w, (Instr.typeAssert (.iface 22 v) 20 21 true).run Tryz.prog w = .ok (.tuple #[.int .i32 0, .bool false]) w := fun _ _ => by kernel_rfl
  have ta5 : ∀ v w, (Instr.typeAssert (.iface 22 v) 20 2 true).run Tryz.prog w = .ok (.tuple #[.int .i64 0, .bool false]) w := fun _ _ => by kernel_rfl
  have ta6 : ∀ v w, (Instr.typeAssert (.iface 22 v) 20 37 true).run Tryz.prog w = .ok (.tuple #[.int .u64 0, .bool false]) w := fun _ _ => by kernel_rfl
  have ta7 : ∀ v w, (Instr.typeAssert (.iface 22 v) 20 5 true).run Tryz.prog w = .ok (.tuple #[.int .u8 0, .bool false]) w := fun _ _ => by kernel_rfl
  have ta8 : ∀ v w, (Instr.typeAssert (.iface 22 v) 20 41 true).run Tryz.prog w = .ok (.tuple #[.int .u16 0, .bool false]) w := fun _ _ => by kernel_rfl
  have ta9 : ∀ v w, (Instr.typeAssert (.iface 22 v) 20 42 true).run Tryz.prog w = .ok (.tuple #[.int .u32 0, .bool false]) w := fun _ _ => by kernel_rfl
  have ta10 : ∀ v w, (Instr.typeAssert (.iface 22 v) 20 24 true).run Tryz.prog w = .ok (.tuple #[.int .u64 0, .bool false]) w := fun _ _ => by kernel_rfl
  have ta11 : ∀ v w, (Instr.typeAssert (.iface 22 v) 20 69 true).run Tryz.prog w = .ok (.tuple #[.float .f32 0, .bool false]) w := fun _ _ => by kernel_rfl
  have ta12 : ∀ v w, (Instr.typeAssert (.iface 22 v) 20 22 true).run Tryz.prog w = .ok (.tuple #[v, .bool true]) w := fun _ _ => by kernel_rfl
  have hc : ∀ w, (convert 22 41 (.float .f64 b)).run Tryz.prog w = .ok (.int .u16 n) w := fun w => run_convert_float_int w 22 41 .f64 .u16 b n (by rw [Tryz.underlying22]; rfl) Tryz.underlying41 hn
  have C := Lib.hid (fun W => indirect_float64 (.float .f64 b) W)
  clear hn
  go_enter Tryz.func81, Tryz.ntmps81
  go_wp2_with fail
  refine (C.out _).mono ?_
  rintro e w1 ⟨rfl, rfl⟩
  go_wp2_with fail
  exact bodyPost_ret (v := .tuple #[.int .u16 n, .bool true, .bool true]) (by simp [results, Tryz.results81, go_sem]) rfl ⟨rfl, rfl⟩
theorem num_uint32_float64 (b : Nat) (n : Int) (hn : floatToIntVal .f64 b .u32 = some n) (h0 : (FloatKind.f64.format.order b 0 == some .lt) = false) (w : World) : Calls Tryz.prog 82 #[.iface 22 (.float .f64 b)] w fun e w' => e = .returned (.tuple #[.int .u32 n, .bool true, .bool true]) ∧ w' = w := by
  have ta0 : ∀ v w, (Instr.typeAssert (.iface 22 v) 20 42 true).run Tryz.prog w = .ok (.tuple #[.int .u32 0, .bool false]) w := fun _ _ => by kernel_rfl
  have ta1 : ∀ v w, (Instr.typeAssert (.iface 22 v) 20 3 true).run Tryz.prog w = .ok (.tuple #[.int .i64 0, .bool false]) w := fun _ _ => by kernel_rfl
  have ta2 : ∀ v w, (Instr.typeAssert (.iface 22 v) 20 38 true).run Tryz.prog w = .ok (.tuple #[.int .i8 0, .bool false]) w := fun _ _ => by kernel_rfl
  have ta3 : ∀ v w, (Instr.typeAssert (.iface 22 v) 20 39 true).run Tryz.prog w = .ok (.tuple #[.int .i16 0, .bool false]) w := fun _ _ => by kernel_rfl
  have ta4 : ∀ v w, (Instr.typeAssert (.iface 22 v) 20 21 true).run Tryz.prog w = .ok (.tuple #[.int .i32 0, .bool false]) w := fun _ _ => by kernel_rfl
  have ta5 : ∀ v w, (Instr.typeAssert (.iface 22 v) 20 2 true).run Tryz.prog w = .ok (.tuple #[.int .i64 0, .bool false]) w := fun _ _ => by kernel_rfl
  have ta6 : ∀ v w, (Instr.typeAssert (.iface 22 v) 20 37 true).run Tryz.prog w = .ok (.tuple #[.int .u64 0, .bool false]) w := fun _ _ => by kernel_rfl
  have ta7 : ∀ v w, (Instr.typeAssert (.iface 22 v) 20 5 true).run Tryz.prog w = .ok (.tuple #[.int .u8 0, .bool false]) w := fun _ _ => by kernel_rfl
  have ta8 : ∀ v w, (Instr.typeAssert (.iface 22 v) 20 41 true).run Tryz.prog w = .ok (.tuple #[.int .u16 0, .bool false]) w := fun _ _ => by kernel_rfl
  have ta9 : ∀ v w, (Instr.typeAssert (.iface 22 v) 20 42 true).run Tryz.prog w = .ok (.tuple #[.int .u32 0, .bool false]) w := fun _ _ => by kernel_rfl
  have ta10 : ∀ v w, (Instr.typeAssert (.iface 22 v) 20 24 true).run Tryz.prog w = .ok (.tuple #[.int .u64 0, .bool false]) w := fun _ _ => by kernel_rfl
  have ta11 : ∀ v w, (Instr.typeAssert (.iface 22 v) 20 69 true).run Tryz.prog w = .ok (.tuple #[.float .f32 0, .bool false]) w := fun _ _ => by kernel_rfl
  have ta12 : ∀ v w, (Instr.typeAssert (.iface 22 v) 20 22 true).run Tryz.prog w = .ok (.tuple #[v, .bool true]) w := fun _ _ => by kernel_rfl
  have hc : ∀ w, (convert 22 42 (.float .f64 b)).run Tryz.prog w = .ok (.int .u32 n) w := fun w => run_convert_float_int w 22 42 .f64 .u32 b n (by rw [Tryz.underlying22]; rfl) Tryz.underlying42 hn
  have C := Lib.hid (fun W => indirect_float64 (.float .f64 b) W)
  clear hn
  go_enter Tryz.func82, Tryz.ntmps82
  go_wp2_with fail
  refine (C.out _).mono ?_
  rintro e w1 ⟨rfl, rfl⟩
  go_wp2_with fail
  exact bodyPost_ret (v := .tuple #[.int .u32 n, .bool true, .bool true]) (by simp [results, Tryz.results82, go_sem]) rfl ⟨rfl, rfl⟩
theorem num_uint64_float64 (b : Nat) (n : Int) (hn : floatToIntVal .f64 b .u64 = some n) (h0 : (FloatKind.f64.format.order b 0 == some .lt) = false) (w : World) : Calls Tryz.prog 83 #[.iface 22 (.float .f64 b)] w fun e w' => e = .returned (.tuple #[.int .u64 n, .bool true, .bool true]) ∧ w' = w := by
  have ta0 : ∀ v w, (Instr.typeAssert (.iface 22 v) 20 24 true).run Tryz.prog w = .ok (.tuple #[.int .u64 0, .bool false]) w := fun _ _ => by kernel_rfl
  have ta1 : ∀ v w, (Instr.typeAssert (.iface 22 v) 20 3 true).run Tryz.prog w = .ok (.tuple #[.int .i64 0, .bool false]) w := fun _ _ => by kernel_rfl
  have ta2 : ∀ v w, (Instr.typeAssert (.iface 22 v) 20 38 true).run Tryz.prog w = .ok (.tuple #[.int .i8 0, .bool false]) w := fun _ _ => by kernel_rfl
  have ta3 : ∀ v w, (Instr.typeAssert (.iface 22 v) 20 39 true).run Tryz.prog w = .ok (.tuple #[.int .i16 0, .bool false]) w := fun _ _ => by kernel_rfl
  have ta4 : ∀ v w, (Instr.typeAssert (.iface 22 v) 20 21 true).run Tryz.prog w = .ok (.tuple #[.int .i32 0, .bool false]) w := fun _ _ => by kernel_rfl
  have ta5 : ∀ v w, (Instr.typeAssert (.iface 22 v) 20 2 true).run Tryz.prog w = .ok (.tuple #[.int .i64 0, .bool false]) w := fun _ _ => by kernel_rfl
  have ta6 : ∀ v w, (Instr.typeAssert (.iface 22 v) 20 37 true).run Tryz.prog w = .ok (.tuple #[.int .u64 0, .bool false]) w := fun _ _ => by kernel_rfl
  have ta7 : ∀ v w, (Instr.typeAssert (.iface 22 v) 20 5 true).run Tryz.prog w = .ok (.tuple #[.int .u8 0, .bool false]) w := fun _ _ => by kernel_rfl
  have ta8 : ∀ v w, (Instr.typeAssert (.iface 22 v) 20 41 true).run Tryz.prog w = .ok (.tuple #[.int .u16 0, .bool false]) w := fun _ _ => by kernel_rfl
  have ta9 : ∀ v w, (Instr.typeAssert (.iface 22 v) 20 42 true).run Tryz.prog w = .ok (.tuple #[.int .u32 0, .bool false]) w := fun _ _ => by kernel_rfl
  have ta10 : ∀ v w, (Instr.typeAssert (.iface 22 v) 20 24 true).run Tryz.prog w = .ok (.tuple #[.int .u64 0, .bool false]) w := fun _ _ => by kernel_rfl
  have ta11 : ∀ v w, (Instr.typeAssert (.iface 22 v) 20 69 true).run Tryz.prog w = .ok (.tuple #[.float .f32 0, .bool false]) w := fun _ _ => by kernel_rfl
  have ta12 : ∀ v w, (Instr.typeAssert (.iface 22 v) 20 22 true).run Tryz.prog w = .ok (.tuple #[v, .bool true]) w := fun _ _ => by kernel_rfl
  have hc : ∀ w, (convert 22 24 (.float .f64 b)).run Tryz.prog w = .ok (.int .u64 n) w := fun w => run_convert_float_int w 22 24 .f64 .u64 b n (by rw [Tryz.underlying22]; rfl) Tryz.underlying24 hn
  have C := Lib.hid (fun W => indirect_float64 (.float .f64 b) W)
  clear hn
  go_enter Tryz.func83, Tryz.ntmps83
  go_wp2_with fail
  refine (C.out _).mono ?_
  rintro e w1 ⟨rfl, rfl⟩
  go_wp2_with fail
  exact bodyPost_ret (v := .tuple #[.int .u64 n, .bool true, .bool true]) (by simp [results, Tryz.results83, go_sem]) rfl ⟨rfl, rfl⟩
theorem num_int_float64 (b : Nat) (n : Int) (hn : floatToIntVal .f64 b .i64 = some n) (w : World) : Calls Tryz.prog 77 #[.iface 22 (.float .f64 b)] w fun e w' => e = .returned (.tuple #[.int .i64 n, .bool true]) ∧ w' = w := by
  have ta0 : ∀ v w, (Instr.typeAssert (.iface 22 v) 20 3 true).run Tryz.prog w = .ok (.tuple #[.int .i64 0, .bool false]) w := fun _ _ => by kernel_rfl
  have ta1 : ∀ v w, (Instr.typeAssert (.iface 22 v) 20 3 true).run Tryz.prog w = .ok (.tuple #[.int .i64 0, .bool false]) w := fun _ _ => by kernel_rfl
  have ta2 : ∀ v w, (Instr.typeAssert (.iface 22 v) 20 38 true).run Tryz.prog w = .ok (.tuple #[.int .i8 0, .bool false]) w := fun _ _ => by kernel_rfl
  have ta3 : ∀ v w, (Instr.typeAssert (.iface 22 v) 20 39 true).run Tryz.prog w = .ok (.tuple #[.int .i16 0, .bool false]) w := fun _ _ => by kernel_rfl
  have ta4 : ∀ v w, (Instr.typeAssert (.iface 22 v) 20 21 true).run Tryz.prog w = .ok (.tuple #[.int .i32 0, .bool false]) w := fun _ _ => by kernel_rfl
  have ta5 : ∀ v w, (Instr.typeAssert (.iface 22 v) 20 2 true).run Tryz.prog w = .ok (.tuple #[.int .i64 0, .bool false]) w := fun _ _ => by kernel_rfl
  have ta6 : ∀ v w, (Instr.typeAssert (.iface 22 v) 20 37 true).run Tryz.prog w = .ok (.tuple #[.int .u64 0, .bool false]) w := fun _ _ => by kernel_rfl
  have ta7 : ∀ v w, (Instr.typeAssert (.iface 22 v) 20 5 true).run Tryz.prog w = .ok (.tuple #[.int .u8 0, .bool false]) w := fun _ _ => by kernel_rfl
  have ta8 : ∀ v w, (Instr.typeAssert (.iface 22 v) 20 41 true).run Tryz.prog w = .ok (.tuple #[.int .u16 0, .bool false]) w := fun _ _ => by kernel_rfl
  have ta9 : ∀ v w, (Instr.typeAssert (.iface 22 v) 20 42 true).run Tryz.prog w = .ok (.tuple #[.int .u32 0, .bool false]) w := fun _ _ => by kernel_rfl
  have ta10 : ∀ v w, (Instr.typeAssert (.iface 22 v) 20 24 true).run Tryz.prog w = .ok (.tuple #[.int .u64 0, .bool false]) w := fun _ _ => by kernel_rfl
  have ta11 : ∀ v w, (Instr.typeAssert (.iface 22 v) 20 69 true).run Tryz.prog w = .ok (.tuple #[.float .f32 0, .bool false]) w := fun _ _ => by kernel_rfl
  have ta12 : ∀ v w, (Instr.typeAssert (.iface 22 v) 20 22 true).run Tryz.prog w = .ok (.tuple #[v, .bool true]) w := fun _ _ => by kernel_rfl
  have hc : ∀ w, (convert 22 3 (.float .f64 b)).run Tryz.prog w = .ok (.int .i64 n) w := fun w => run_convert_float_int w 22 3 .f64 .i64 b n (by rw [Tryz.underlying22]; rfl) Tryz.underlying3 hn
  have C := Lib.hid (fun W => indirect_float64 (.float .f64 b) W)
  clear hn
  go_enter Tryz.func77, Tryz.ntmps77
  go_wp2_with fail
  refine (C.out _).mono ?_
  rintro e w1 ⟨rfl, rfl⟩
  go_wp2_with fail
  exact bodyPost_ret (v := .tuple #[.int .i64 n, .bool true]) (by simp [results, Tryz.results77, go_sem]) rfl ⟨rfl, rfl⟩
theorem num_int8_float64 (b : Nat) (n : Int) (hn : floatToIntVal .f64 b .i8 = some n) (w : World) : Calls Tryz.prog 68 #[.iface 22 (.float .f64 b)] w fun e w' => e = .returned (.tuple #[.int .i8 n, .bool true]) ∧ w' = w := by
  have ta0 : ∀ v w, (Instr.typeAssert (.iface 22 v) 20 38 true).run Tryz.prog w = .ok (.tuple #[.int .i8 0, .bool false]) w := fun _ _ => by kernel_rfl
  have ta1 : ∀ v w, (Instr.typeAssert (.iface 22 v) 20 3 true).run Tryz.prog w = .ok (.tuple #[.int .i64 0, .bool false]) w := fun _ _ => by kernel_rfl
  have ta2 : ∀ v w, (Instr.typeAssert (.iface 22 v) 20 38 true).run Tryz.prog w = .ok (.tuple #[.int .i8 0, .bool false]) w := fun _ _ => by kernel_rfl
  have ta3 : ∀ v w, (Instr.typeAssert (.iface 22 v) 20 39 true).run Tryz.prog w = .ok (.tuple #[.int .i16 0, .bool false]) w := fun _ _ => by kernel_rfl
  have ta4 : ∀ v w, (Instr.typeAssert (.iface 22 v) 20 21 true).run Tryz.prog w = .ok (.tuple #[.int .i32 0, .bool false]) w := fun _ _ => by kernel_rfl
  have ta5 : ∀ v w, (Instr.typeAssert (.iface 22 v) 20 2 true).run Tryz.prog w = .ok (.tuple #[.int .i64 0, .bool false]) w := fun _ _ => by kernel_rfl
  have ta6 : ∀ v w, (Instr.typeAssert (.iface 22 v) 20 37 true).run Tryz.prog w = .ok (.tuple #[.int .u64 0, .bool false]) w := fun _ _ => by kernel_rfl
  have ta7 : ∀ v w, (Instr.typeAssert (.iface 22 v) 20 5 true).run Tryz.prog w = .ok (.tuple #[.int .u8 0, .bool false]) w := fun _ _ => by kernel_rfl
  have ta8 : ∀ v w, (Instr.typeAssert (.iface 22 v) 20 41 true).run Tryz.prog w = .ok (.tuple #[.int .u16 0, .bool false]) w := fun _ _ => by kernel_rfl
  have ta9 : ∀ v w, (Instr.typeAssert (.iface 22 v) 20 42 true).run Tryz.prog w = .ok (.tuple #[.int .u32 0, .bool false]) w := fun _ _ => by kernel_rfl
  have ta10 : ∀ v w, (Instr.typeAssert (.iface 22 v) 20 24 true).run Tryz.prog w = .ok (.tuple #[.int .u64 0, .bool false]) w := fun _ _ => by kernel_rfl
  have ta11 : ∀ v w, (Instr.typeAssert (.iface 22 v) 20 69 true).run Tryz.prog w = .ok (.tuple #[.float .f32 0, .bool false]) w := fun _ _ => by kernel_rfl
  have ta12 : ∀ v w, (Instr.typeAssert (.iface 22 v) 20 22 true).run Tryz.prog w = .ok (.tuple #[v, .bool true]) w := fun _ _ => by kernel_rfl
  have hc : ∀ w, (convert 22 38 (.float .f64 b)).run Tryz.prog w = .ok (.int .i8 n) w := fun w => run_convert_float_int w 22 38 .f64 .i8 b n (by rw [Tryz.underlying22]; rfl) Tryz.underlying38 hn
  have C := Lib.hid (fun W => indirect_float64 (.float .f64 b) W)
  clear hn
  go_enter Tryz.func68, Tryz.ntmps68
  go_wp2_with fail
  refine (C.out _).mono ?_
  rintro e w1 ⟨rfl, rfl⟩
  go_wp2_with fail
  exact bodyPost_ret (v := .tuple #[.int .i8 n, .bool true]) (by simp [results, Tryz.results68, go_sem]) rfl ⟨rfl, rfl⟩
theorem num_int16_float64 (b : Nat) (n : Int) (hn : floatToIntVal .f64 b .i16 = some n) (w : World) : Calls Tryz.prog 74 #[.iface 22 (.float .f64 b)] w fun e w' => e = .returned (.tuple #[.int .i16 n, .bool true]) ∧ w' = w := by
  have ta0 : ∀ v w, (Instr.typeAssert (.iface 22 v) 20 39 true).run Tryz.prog w = .ok (.tuple #[.int .i16 0, .bool false]) w := fun _ _ => by kernel_rfl
  have ta1 : ∀ v w, (Instr.typeAssert (.iface 22 v) 20 3 true).run Tryz.prog w = .ok (.tuple #[.int .i64 0, .bool false]) w := fun _ _ => by kernel_rfl
  have ta2 : ∀ v w, (Instr.typeAssert (.iface 22 v) 20 38 true).run Tryz.prog w = .ok (.tuple #[.int .i8 0, .bool false]) w := fun _ _ => by kernel_rfl
  have ta3 : ∀ v w, (Instr.typeAssert (.iface 22 v) 20 39 true).run Tryz.prog w = .ok (.tuple #[.int .i16 0, .bool false]) w := fun _ _ => by kernel_rfl
  have ta4 : ∀ v w, (Instr.typeAssert (.iface 22 v) 20 21 true).run Tryz.prog w = .ok (.tuple #[.int .i32 0, .bool false]) w := fun _ _ => by kernel_rfl
  have ta5 : ∀ v w, (Instr.typeAssert (.iface 22 v) 20 2 true).run Tryz.prog w = .ok (.tuple #[.int .i64 0, .bool false]) w := fun _ _ => by kernel_rfl
  have ta6 : ∀ v w, (Instr.typeAssert (.iface 22 v) 20 37 true).run Tryz.prog w = .ok (.tuple #[.int .u64 0, .bool false]) w := fun _ _ => by kernel_rfl
  have ta7 : ∀ v w, (Instr.typeAssert (.iface 22 v) 20 5 true).run Tryz.prog w = .ok (.tuple #[.int .u8 0, .bool false]) w := fun _ _ => by kernel_rfl
  have ta8 : ∀ v w, (Instr.typeAssert (.iface 22 v) 20 41 true).run Tryz.prog w = .ok (.tuple #[.int .u16 0, .bool false]) w := fun _ _ => by kernel_rfl
  have ta9 : ∀ v w, (Instr.typeAssert (.iface 22 v) 20 42 true).run Tryz.prog w = .ok (.tuple #[.int .u32 0, .bool false]) w := fun _ _ => by kernel_rfl
  have ta10 : ∀ v w, (Instr.typeAssert (.iface 22 v) 20 24 true).run Tryz.prog w = .ok (.tuple #[.int .u64 0, .bool false]) w := fun _ _ => by kernel_rfl
  have ta11 : ∀ v w, (Instr.typeAssert (.iface 22 v) 20 69 true).run Tryz.prog w = .ok (.tuple #[.float .f32 0, .bool false]) w := fun _ _ => by kernel_rfl
  have ta12 : ∀ v w, (Instr.typeAssert (.iface 22 v) 20 22 true).run Tryz.prog w = .ok (.tuple #[v, .bool true]) w := fun _ _ => by kernel_rfl
  have hc : ∀ w, (convert 22 39 (.float .f64 b)).run Tryz.prog w = .ok (.int .i16 n) w := fun w => run_convert_float_int w 22 39 .f64 .i16 b n (by rw [Tryz.underlying22]; rfl) Tryz.underlying39 hn
  have C := Lib.hid (fun W => indirect_float64 (.float .f64 b) W)
  clear hn
  go_enter Tryz.func74, Tryz.ntmps74
  go_wp2_with fail
  refine (C.out _).mono ?_
  rintro e w1 ⟨rfl, rfl⟩
  go_wp2_with fail
  exact bodyPost_ret (v := .tuple #[.int .i16 n, .bool true]) (by simp [results, Tryz.results74, go_sem]) rfl ⟨rfl, rfl⟩
theorem num_int32_float64 (b : Nat) (n : Int) (hn : floatToIntVal .f64 b .i32 = some n) (w : World) : Calls Tryz.prog 75 #[.iface 22 (.float .f64 b)] w fun e w' => e = .returned (.tuple #[.int .i32 n, .bool true]) ∧ w' = w := by
  have ta0 : ∀ v w, (Instr.typeAssert (.iface 22 v) 20 21 true).run Tryz.prog w = .ok (.tuple #[.int .i32 0, .bool false]) w := fun _ _ => by kernel_rfl
  have ta1 : ∀ v w, (Instr.typeAssert (.iface 22 v) 20 3 true).run Tryz.prog w = .ok (.tuple #[.int .i64 0, .bool false]) w := fun _ _ => by kernel_rfl
  have ta2 : ∀ v w, (Instr.typeAssert (.iface 22 v) 20 38 true).run Tryz.prog w = .ok (.tuple #[.int .i8 0, .bool false]) w := fun _ _ => by kernel_rfl
  have ta3 : ∀ v w, (Instr.typeAssert (.iface 22 v) 20 39 true).run Tryz.prog w = .ok (.tuple #[.int .i16 0, .bool false]) w := fun _ _ => by kernel_rfl
  have ta4 : ∀ v w, (Instr.typeAssert (.iface 22 v) 20 21 true).run Tryz.prog w = .ok (.tuple #[.int .i32 0, .bool false]) w := fun _ _ => by kernel_rfl
  have ta5 : ∀ v w, (Instr.typeAssert (.iface 22 v) 20 2 true).run Tryz.prog w = .ok (.tuple #[.int .i64 0, .bool false]) w := fun _ _ => by kernel_rfl
  have ta6 : ∀ v w, (Instr.typeAssert (.iface 22 v) 20 37 true).run Tryz.prog w = .ok (.tuple #[.int .u64 0, .bool false]) w := fun _ _ => by kernel_rfl
  have ta7 : ∀ v w, (Instr.typeAssert (.iface 22 v) 20 5 true).run Tryz.prog w = .ok (.tuple #[.int .u8 0, .bool false]) w := fun _ _ => by kernel_rfl
  have ta8 : ∀ v w, (Instr.typeAssert (.iface 22 v) 20 41 true).run Tryz.prog w = .ok (.tuple #[.int .u16 0, .bool false]) w := fun _ _ => by kernel_rfl
  have ta9 : ∀ v w, (Instr.typeAssert (.iface 22 v) 20 42 true).run Tryz.prog w = .ok (.tuple #[.int .u32 0, .bool false]) w := fun _ _ => by kernel_rfl
  have ta10 : ∀ v w, (Instr.typeAssert (.iface 22 v) 20 24 true).run Tryz.prog w = .ok (.tuple #[.int .u64 0, .bool false]) w := fun _ _ => by kernel_rfl
  have ta11 : ∀ v w, (Instr.typeAssert (.iface 22 v) 20 69 true).run Tryz.prog w = .ok (.tuple #[.float .f32 0, .bool false]) w := fun _ _ => by kernel_rfl
  have ta12 : ∀ v w, (Instr.typeAssert (.iface 22 v) 20 22 true).run Tryz.prog w = .ok (.tuple #[v, .bool true]) w := fun _ _ => by kernel_rfl
  have hc : ∀ w, (convert 22 21 (.float .f64 b)).run Tryz.prog w = .ok (.int .i32 n) w := fun w => run_convert_float_int w 22 21 .f64 .i32 b n (by rw [Tryz.underlying22]; rfl) Tryz.underlying21 hn
  have C := Lib.hid (fun W => indirect_float64 (.float .f64 b) W)
  clear hn
  go_enter Tryz.func75, Tryz.ntmps75
  go_wp2_with fail
  refine (C.out _).mono ?_
  rintro e w1 ⟨rfl, rfl⟩
  go_wp2_with fail
  exact bodyPost_ret (v := .tuple #[.int .i32 n, .bool true]) (by simp [results, Tryz.results75, go_sem]) rfl ⟨rfl, rfl⟩
theorem num_int64_float64 (b : Nat) (n : Int) (hn : floatToIntVal .f64 b .i64 = some n) (w : World) : Calls Tryz.prog 76 #[.iface 22 (.float .f64 b)] w fun e w' => e = .returned (.tuple #[.int .i64 n, .bool true]) ∧ w' = w := by
  have ta0 : ∀ v w, (Instr.typeAssert (.iface 22 v) 20 2 true).run Tryz.prog w = .ok (.tuple #[.int .i64 0, .bool false]) w := fun _ _ => by kernel_rfl
  have ta1 : ∀ v w, (Instr.typeAssert (.iface 22 v) 20 3 true).run Tryz.prog w = .ok (.tuple #[.int .i64 0, .bool false]) w := fun _ _ => by kernel_rfl
  have ta2 : ∀ v w, (Instr.typeAssert (.iface 22 v) 20 38 true).run Tryz.prog w = .ok (.tuple #[.int .i8 0, .bool false]) w := fun _ _ => by kernel_rfl
  have ta3 : ∀ v w, (Instr.typeAssert (.iface 22 v) 20 39 true).run Tryz.prog w = .ok (.tuple #[.int .i16 0, .bool false]) w := fun _ _ => by kernel_rfl
  have ta4 : ∀ v w, (Instr.typeAssert (.iface 22 v) 20 21 true).run Tryz.prog w = .ok (.tuple #[.int .i32 0, .bool false]) w := fun _ _ => by kernel_rfl
  have ta5 : ∀ v w, (Instr.typeAssert (.iface 22 v) 20 2 true).run Tryz.prog w = .ok (.tuple #[.int .i64 0, .bool false]) w := fun _ _ => by kernel_rfl
  have ta6 : ∀ v w, (Instr.typeAssert (.iface 22 v) 20 37 true).run Tryz.prog w = .ok (.tuple #[.int .u64 0, .bool false]) w := fun _ _ => by kernel_rfl
  have ta7 : ∀ v w, (Instr.typeAssert (.iface 22 v) 20 5 true).run Tryz.prog w = .ok (.tuple #[.int .u8 0, .bool false]) w := fun _ _ => by kernel_rfl
  have ta8 : ∀ v w, (Instr.typeAssert (.iface 22 v) 20 41 true).run Tryz.prog w = .ok (.tuple #[.int .u16 0, .bool false]) w := fun _ _ => by kernel_rfl
  have ta9 : ∀ v w, (Instr.typeAssert (.iface 22 v) 20 42 true).run Tryz.prog w = .ok (.tuple #[.int .u32 0, .bool false]) w := fun _ _ => by kernel_rfl
  have ta10 : ∀ v w, (Instr.typeAssert (.iface 22 v) 20 24 true).run Tryz.prog w = .ok (.tuple #[.int .u64 0, .bool false]) w := fun _ _ => by kernel_rfl
  have ta11 : ∀ v w, (Instr.typeAssert (.iface 22 v) 20 69 true).run Tryz.prog w = .ok (.tuple #[.float .f32 0, .bool false]) w := fun _ _ => by kernel_rfl
  have ta12 : ∀ v w, (Instr.typeAssert (.iface 22 v) 20 22 true).run Tryz.prog w = .ok (.tuple #[v, .bool true]) w := fun _ _ => by kernel_rfl
  have hc : ∀ w, (convert 22 2 (.float .f64 b)).run Tryz.prog w = .ok (.int .i64 n) w := fun w => run_convert_float_int w 22 2 .f64 .i64 b n (by rw [Tryz.underlying22]; rfl) Tryz.underlying2 hn
  have C := Lib.hid (fun W => indirect_float64 (.float .f64 b) W)
  clear hn
  go_enter Tryz.func76, Tryz.ntmps76
  go_wp2_with fail
  refine (C.out _).mono ?_
  rintro e w1 ⟨rfl, rfl⟩
  go_wp2_with fail
  exact bodyPost_ret (v := .tuple #[.int .i64 n, .bool true]) (by simp [results, Tryz.results76, go_sem]) rfl ⟨rfl, rfl⟩
end Go.Proofs.YtnnfdlhedggkmaaGreatDoor
