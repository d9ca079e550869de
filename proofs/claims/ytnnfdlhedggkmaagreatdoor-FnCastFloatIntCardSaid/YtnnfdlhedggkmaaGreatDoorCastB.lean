/- Unsigned numbers, cast to unsigned types. (Printed by gen_cast.py.) -/
import Derived.Test.YtnnfdlhedggkmaaGreatDoorProg
import Derived.WalkKit
import Derived.KernelRfl
import Derived.RowKit3
import Derived.Deep.QuietTactic
import Derived.BigQuiet
import Derived.Lib.Hide
import Derived.Deep.DeepFit
import Derived.WalkSpells
import Derived.WalkLawsBesides
namespace Go.Proofs.YtnnfdlhedggkmaaGreatDoor
open Go.RowKit
set_option linter.unusedVariables false
set_option linter.unusedSimpArgs false

theorem Below.after {a b c : World} (h : Below a.heap.size a b) (k : Below b.heap.size b c) : Below a.heap.size a c := h.trans (k.mono h.size)
theorem Below.drewN' {B : Nat} {a w : World} (h : Below B a w) {n : Nat} : Below B a (w.drewN n) := ⟨h.os, h.tape, h.output, h.size, h.block⟩
theorem wu8 (n : Int) : IntKind.u8.wrap n = n % 256 := by simp [IntKind.wrap, IntKind.bits, IntKind.signed]
theorem wu16 (n : Int) : IntKind.u16.wrap n = n % 65536 := by simp [IntKind.wrap, IntKind.bits, IntKind.signed]
theorem wu32 (n : Int) : IntKind.u32.wrap n = n % 4294967296 := by simp [IntKind.wrap, IntKind.bits, IntKind.signed]
theorem wu64 (n : Int) : IntKind.u64.wrap n = n % 18446744073709551616 := by simp [IntKind.wrap, IntKind.bits, IntKind.signed]
theorem wi8 (n : Int) : IntKind.i8.wrap n = (n + 128) % 256 - 128 := by
  simp only [IntKind.wrap, IntKind.bits, IntKind.signed]
  simp
  try split
  all_goals omega
theorem wi16 (n : Int) : IntKind.i16.wrap n = (n + 32768) % 65536 - 32768 := by
  simp only [IntKind.wrap, IntKind.bits, IntKind.signed]
  simp
  try split
  all_goals omega
theorem wi32 (n : Int) : IntKind.i32.wrap n = (n + 2147483648) % 4294967296 - 2147483648 := by
  simp only [IntKind.wrap, IntKind.bits, IntKind.signed]
  simp
  try split
  all_goals omega
theorem wi64 (n : Int) : IntKind.i64.wrap n = (n + 9223372036854775808) % 18446744073709551616 - 9223372036854775808 := by
  simp only [IntKind.wrap, IntKind.bits, IntKind.signed]
  simp
  try split
  all_goals omega
theorem indirect_uint (v : Value) (w : World) : Calls Tryz.prog 69 #[.iface 37 v] w fun e w' => e = .returned (.tuple #[.iface 37 v, .bool false]) ∧ w' = w := by
  have ta0 : ∀ v w, (Instr.typeAssert (.iface 37 v) 20 93 true).run Tryz.prog w = .ok (.tuple #[.pointer none, .bool false]) w := fun _ _ => by kernel_rfl
  have ta1 : ∀ v w, (Instr.typeAssert (.iface 37 v) 20 94 true).run Tryz.prog w = .ok (.tuple #[.pointer none, .bool false]) w := fun _ _ => by kernel_rfl
  go_enter Tryz.func69, Tryz.ntmps69
  go_wp2_with fail
  exact bodyPost_ret (v := .tuple #[.iface 37 v, .bool false]) (by simp [results, Tryz.results69, go_sem]) rfl ⟨rfl, rfl⟩
theorem value_uint (vi vf vs vl vm : Value) (n : Int) (hn : (0 ≤ n ∧ n < 18446744073709551616)) (w : World) : Calls Tryz.prog 22 #[.agg #[.int .i64 7, vi, .int .u64 n, vf, vs, vl, vm]] w fun e w' => e = .returned (.iface 37 (.int .u64 n)) ∧ Below w.heap.size w w' := by
  go_enter Tryz.func22, Tryz.ntmps22
  go_wp2_with fail
  go_ret
  refine ⟨?_, (Below.refl _ _).alloc (Nat.le_refl _) _⟩
  first
    | rfl
    | (refine congrArg (fun z => Ending.returned (Value.iface 37 (Value.int IntKind.u64 z))) ?_; first | omega | (simp only [wu8, wu16, wu32, wu64, wi8, wi16, wi32, wi64]; omega))
theorem indirect_uint8 (v : Value) (w : World) : Calls Tryz.prog 69 #[.iface 5 v] w fun e w' => e = .returned (.tuple #[.iface 5 v, .bool false]) ∧ w' = w := by
  have ta0 : ∀ v w, (Instr.typeAssert (.iface 5 v) 20 93 true).run Tryz.prog w = .ok (.tuple #[.pointer none, .bool false]) w := fun _ _ => by kernel_rfl
  have ta1 : ∀ v w, (Instr.typeAssert (.iface 5 v) 20 94 true).run Tryz.prog w = .ok (.tuple #[.pointer none, .bool false]) w := fun _ _ => by kernel_rfl
  go_enter Tryz.func69, Tryz.ntmps69
  go_wp2_with fail
  exact bodyPost_ret (v := .tuple #[.iface 5 v, .bool false]) (by simp [results, Tryz.results69, go_sem]) rfl ⟨rfl, rfl⟩
theorem value_uint8 (vi vf vs vl vm : Value) (n : Int) (hn : (0 ≤ n ∧ n < 256)) (w : World) : Calls Tryz.prog 22 #[.agg #[.int .i64 8, vi, .int .u64 n, vf, vs, vl, vm]] w fun e w' => e = .returned (.iface 5 (.int .u8 n)) ∧ Below w.heap.size w w' := by
  go_enter Tryz.func22, Tryz.ntmps22
  go_wp2_with fail
  go_ret
  refine ⟨?_, (Below.refl _ _).alloc (Nat.le_refl _) _⟩
  first
    | rfl
    | (refine congrArg (fun z => Ending.returned (Value.iface 5 (Value.int IntKind.u8 z))) ?_; first | omega | (simp only [wu8, wu16, wu32, wu64, wi8, wi16, wi32, wi64]; omega))
theorem indirect_uint16 (v : Value) (w : World) : Calls Tryz.prog 69 #[.iface 41 v] w fun e w' => e = .returned (.tuple #[.iface 41 v, .bool false]) ∧ w' = w := by
  have ta0 : ∀ v w, (Instr.typeAssert (.iface 41 v) 20 93 true).run Tryz.prog w = .ok (.tuple #[.pointer none, .bool false]) w := fun _ _ => by kernel_rfl
  have ta1 : ∀ v w, (Instr.typeAssert (.iface 41 v) 20 94 true).run Tryz.prog w = .ok (.tuple #[.pointer none, .bool false]) w := fun _ _ => by kernel_rfl
  go_enter Tryz.func69, Tryz.ntmps69
  go_wp2_with fail
  exact bodyPost_ret (v := .tuple #[.iface 41 v, .bool false]) (by simp [results, Tryz.results69, go_sem]) rfl ⟨rfl, rfl⟩
theorem value_uint16 (vi vf vs vl vm : Value) (n : Int) (hn : (0 ≤ n ∧ n < 65536)) (w : World) : Calls Tryz.prog 22 #[.agg #[.int .i64 9, vi, .int .u64 n, vf, vs, vl, vm]] w fun e w' => e = .returned (.iface 41 (.int .u16 n)) ∧ Below w.heap.size w w' := by
  go_enter Tryz.func22, Tryz.ntmps22
  go_wp2_with fail
  go_ret
  refine ⟨?_, (Below.refl _ _).alloc (Nat.le_refl _) _⟩
  first
    | rfl
    | (refine congrArg (fun z => Ending.returned (Value.iface 41 (Value.int IntKind.u16 z))) ?_; first | omega | (simp only [wu8, wu16, wu32, wu64, wi8, wi16, wi32, wi64]; omega))
theorem indirect_uint32 (v : Value) (w : World) : Calls Tryz.prog 69 #[.iface 42 v] w fun e w' => e = .returned (.tuple #[.iface 42 v, .bool false]) ∧ w' = w := by
  have ta0 : ∀ v w, (Instr.typeAssert (.iface 42 v) 20 93 true).run Tryz.prog w = .ok (.tuple #[.pointer none, .bool false]) w := fun _ _ => by kernel_rfl
  have ta1 : ∀ v w, (Instr.typeAssert (.iface 42 v) 20 94 true).run Tryz.prog w = .ok (.tuple #[.pointer none, .bool false]) w := fun _ _ => by kernel_rfl
  go_enter Tryz.func69, Tryz.ntmps69
  go_wp2_with fail
  exact bodyPost_ret (v := .tuple #[.iface 42 v, .bool false]) (by simp [results, Tryz.results69, go_sem]) rfl ⟨rfl, rfl⟩
theorem value_uint32 (vi vf vs vl vm : Value) (n : Int) (hn : (0 ≤ n ∧ n < 4294967296)) (w : World) : Calls Tryz.prog 22 #[.agg #[.int .i64 10, vi, .int .u64 n, vf, vs, vl, vm]] w fun e w' => e = .returned (.iface 42 (.int .u32 n)) ∧ Below w.heap.size w w' := by
  go_enter Tryz.func22, Tryz.ntmps22
  go_wp2_with fail
  go_ret
  refine ⟨?_, (Below.refl _ _).alloc (Nat.le_refl _) _⟩
  first
    | rfl
    | (refine congrArg (fun z => Ending.returned (Value.iface 42 (Value.int IntKind.u32 z))) ?_; first | omega | (simp only [wu8, wu16, wu32, wu64, wi8, wi16, wi32, wi64]; omega))
theorem indirect_uint64 (v : Value) (w : World) : Calls Tryz.prog 69 #[.iface 24 v] w fun e w' => e = .returned (.tuple #[.iface 24 v, .bool false]) ∧ w' = w := by
  have ta0 : ∀ v w, (Instr.typeAssert (.iface 24 v) 20 93 true).run Tryz.prog w = .ok (.tuple #[.pointer none, .bool false]) w := fun _ _ => by kernel_rfl
  have ta1 : ∀ v w, (Instr.typeAssert (.iface 24 v) 20 94 true).run Tryz.prog w = .ok (.tuple #[.pointer none, .bool false]) w := fun _ _ => by kernel_rfl
  go_enter Tryz.func69, Tryz.ntmps69
  go_wp2_with fail
  exact bodyPost_ret (v := .tuple #[.iface 24 v, .bool false]) (by simp [results, Tryz.results69, go_sem]) rfl ⟨rfl, rfl⟩
theorem value_uint64 (vi vf vs vl vm : Value) (n : Int) (hn : (0 ≤ n ∧ n < 18446744073709551616)) (w : World) : Calls Tryz.prog 22 #[.agg #[.int .i64 11, vi, .int .u64 n, vf, vs, vl, vm]] w fun e w' => e = .returned (.iface 24 (.int .u64 n)) ∧ Below w.heap.size w w' := by
  go_enter Tryz.func22, Tryz.ntmps22
  go_wp2_with fail
  go_ret
  refine ⟨?_, (Below.refl _ _).alloc (Nat.le_refl _) _⟩
  first
    | rfl
    | (refine congrArg (fun z => Ending.returned (Value.iface 24 (Value.int IntKind.u64 z))) ?_; first | omega | (simp only [wu8, wu16, wu32, wu64, wi8, wi16, wi32, wi64]; omega))
theorem num_uint_uint (n : Int) (hn : (0 ≤ n ∧ n < 18446744073709551616)) (w : World) : Calls Tryz.prog 84 #[.iface 37 (.int .u64 n)] w fun e w' => e = .returned (.tuple #[.int .u64 (n), .bool true, .bool true]) ∧ w' = w := by
  have ta0 : ∀ v w, (Instr.typeAssert (.iface 37 v) 20 37 true).run Tryz.prog w = .ok (.tuple #[v, .bool true]) w := fun _ _ => by kernel_rfl
  have C := Lib.hid (fun W => indirect_uint (.int .u64 n) W)
  have HN := Lib.hid hn
  clear hn
  go_enter Tryz.func84, Tryz.ntmps84
  go_wp2_with fail
  refine (C.out _).mono ?_
  rintro e w1 ⟨rfl, rfl⟩
  go_wp2_with fail
  have hn := HN.out
  refine bodyPost_ret (v := .tuple #[.int .u64 (n), .bool true, .bool true]) ?_ rfl ⟨rfl, rfl⟩
  first
    | (simp [results, Tryz.results84, go_sem]; done)
    | (simp [results, Tryz.results84, go_sem, wu8, wu16, wu32, wu64, wi8, wi16, wi32, wi64, wrap64, wrap32]; done)
    | (simp [results, Tryz.results84, go_sem, wu8, wu16, wu32, wu64, wi8, wi16, wi32, wi64, wrap64, wrap32]; omega)
    | (simp [results, Tryz.results84, go_sem]; omega)
theorem num_uint_uint8 (n : Int) (hn : (0 ≤ n ∧ n < 256)) (w : World) : Calls Tryz.prog 84 #[.iface 5 (.int .u8 n)] w fun e w' => e = .returned (.tuple #[.int .u64 (n), .bool true, .bool true]) ∧ w' = w := by
  have ta0 : ∀ v w, (Instr.typeAssert (.iface 5 v) 20 37 true).run Tryz.prog w = .ok (.tuple #[.int .u64 0, .bool false]) w := fun _ _ => by kernel_rfl
  have ta1 : ∀ v w, (Instr.typeAssert (.iface 5 v) 20 3 true).run Tryz.prog w = .ok (.tuple #[.int .i64 0, .bool false]) w := fun _ _ => by kernel_rfl
  have ta2 : ∀ v w, (Instr.typeAssert (.iface 5 v) 20 38 true).run Tryz.prog w = .ok (.tuple #[.int .i8 0, .bool false]) w := fun _ _ => by kernel_rfl
  have ta3 : ∀ v w, (Instr.typeAssert (.iface 5 v) 20 39 true).run Tryz.prog w = .ok (.tuple #[.int .i16 0, .bool false]) w := fun _ _ => by kernel_rfl
  have ta4 : ∀ v w, (Instr.typeAssert (.iface 5 v) 20 21 true).run Tryz.prog w = .ok (.tuple #[.int .i32 0, .bool false]) w := fun _ _ => by kernel_rfl
  have ta5 : ∀ v w, (Instr.typeAssert (.iface 5 v) 20 2 true).run Tryz.prog w = .ok (.tuple #[.int .i64 0, .bool false]) w := fun _ _ => by kernel_rfl
  have ta6 : ∀ v w, (Instr.typeAssert (.iface 5 v) 20 37 true).run Tryz.prog w = .ok (.tuple #[.int .u64 0, .bool false]) w := fun _ _ => by kernel_rfl
  have ta7 : ∀ v w, (Instr.typeAssert (.iface 5 v) 20 5 true).run Tryz.prog w = .ok (.tuple #[v, .bool true]) w := fun _ _ => by kernel_rfl
  have C := Lib.hid (fun W => indirect_uint8 (.int .u8 n) W)
  have HN := Lib.hid hn
  clear hn
  go_enter Tryz.func84, Tryz.ntmps84
  go_wp2_with fail
  refine (C.out _).mono ?_
  rintro e w1 ⟨rfl, rfl⟩
  go_wp2_with fail
  have hn := HN.out
  refine bodyPost_ret (v := .tuple #[.int .u64 (n), .bool true, .bool true]) ?_ rfl ⟨rfl, rfl⟩
  first
    | (simp [results, Tryz.results84, go_sem]; done)
    | (simp [results, Tryz.results84, go_sem, wu8, wu16, wu32, wu64, wi8, wi16, wi32, wi64, wrap64, wrap32]; done)
    | (simp [results, Tryz.results84, go_sem, wu8, wu16, wu32, wu64, wi8, wi16, wi32, wi64, wrap64, wrap32]; omega)
    | (simp [results, Tryz.results84, go_sem]; omega)
theorem num_uint_uint16 (n : Int) (hn : (0 ≤ n ∧ n < 65536)) (w : World) : Calls Tryz.prog 84 #[.iface 41 (.int .u16 n)] w fun e w' => e = .returned (.tuple #[.int .u64 (n), .bool true, .bool true]) ∧ w' = w := by
  have ta0 : ∀ v w, (Instr.typeAssert (.iface 41 v) 20 37 true).run Tryz.prog w = .ok (.tuple #[.int .u64 0, .bool false]) w := fun _ _ => by kernel_rfl
  have ta1 : ∀ v w, (Instr.typeAssert (.iface 41 v) 20 3 true).run Tryz.prog w = .ok (.tuple #[.int .i64 0, .bool false]) w := fun _ _ => by kernel_rfl
  have ta2 : ∀ v w, (Instr.typeAssert (.iface 41 v) 20 38 true).run Tryz.prog w = .ok (.tuple #[.int .i8 0, .bool false]) w := fun _ _ => by kernel_rfl
  have ta3 : ∀ v w, (Instr.typeAssert (.iface 41 v) 20 39 true).run Tryz.prog w = .ok (.tuple #[.int .i16 0, .bool false]) w := fun _ _ => by kernel_rfl
  have ta4 : ∀ v w, (Instr.typeAssert (.iface 41 v) 20 21 true).run Tryz.prog w = .ok (.tuple #[.int .i32 0, .bool false]) w := fun _ _ => by kernel_rfl
  have ta5 : ∀ v w, (Instr.typeAssert (.iface 41 v) 20 2 true).run Tryz.prog w = .ok (.tuple #[.int .i64 0, .bool false]) w := fun _ _ => by kernel_rfl
  have ta6 : ∀ v w, (Instr.typeAssert (.iface 41 v) 20 37 true).run Tryz.prog w = .ok (.tuple #[.int .u64 0, .bool false]) w := fun _ _ => by kernel_rfl
  have ta7 : ∀ v w, (Instr.typeAssert (.iface 41 v) 20 5 true).run Tryz.prog w = .ok (.tuple #[.int .u8 0, .bool false]) w := fun _ _ => by kernel_rfl
  have ta8 : ∀ v w, (Instr.typeAssert (.iface 41 v) 20 41 true).run Tryz.prog w = .ok (.tuple #[v, .bool true]) w := fun _ _ => by kernel_rfl
  have C := Lib.hid (fun W => indirect_uint16 (.int .u16 n) W)
  have HN := Lib.hid hn
  clear hn
  go_enter Tryz.func84, Tryz.ntmps84
  go_wp2_with fail
  refine (C.out _).mono ?_
  rintro e w1 ⟨rfl, rfl⟩
  go_wp2_with fail
  have hn := HN.out
  refine bodyPost_ret (v := .tuple #[.int .u64 (n), .bool true, .bool true]) ?_ rfl ⟨rfl, rfl⟩
  first
    | (simp [results, Tryz.results84, go_sem]; done)
    | (simp [results, Tryz.results84, go_sem, wu8, wu16, wu32, wu64, wi8, wi16, wi32, wi64, wrap64, wrap32]; done)
    | (simp [results, Tryz.results84, go_sem, wu8, wu16, wu32, wu64, wi8, wi16, wi32, wi64, wrap64, wrap32]; omega)
    | (simp [results, Tryz.results84, go_sem]; omega)
theorem num_uint_uint32 (n : Int) (hn : (0 ≤ n ∧ n < 4294967296)) (w : World) : Calls Tryz.prog 84 #[.iface 42 (.int .u32 n)] w fun e w' => e = .returned (.tuple #[.int .u64 (n), .bool true, .bool true]) ∧ w' = w := by
  have ta0 : ∀ v w, (Instr.typeAssert (.iface 42 v) 20 37 true).run Tryz.prog w = .ok (.tuple #[.int .u64 0, .bool false]) w := fun _ _ => by kernel_rfl
  have ta1 : ∀ v w, (Instr.typeAssert (.iface 42 v) 20 3 true).run Tryz.prog w = .ok (.tuple #[.int .i64 0, .bool false]) w := fun _ _ => by kernel_rfl
  have ta2 : ∀ v w, (Instr.typeAssert (.iface 42 v) 20 38 true).run Tryz.prog w = .ok (.tuple #[.int .i8 0, .bool false]) w := fun _ _ => by kernel_rfl
  have ta3 : ∀ v w, (Instr.typeAssert (.iface 42 v) 20 39 true).run Tryz.prog w = .ok (.tuple #[.int .i16 0, .bool false]) w := fun _ _ => by kernel_rfl
  have ta4 : ∀ v w, (Instr.typeAssert (.iface 42 v) 20 21 true).run Tryz.prog w = .ok (.tuple #[.int .i32 0, .bool false]) w := fun _ _ => by kernel_rfl
  have ta5 : ∀ v w, (Instr.typeAssert (.iface 42 v) 20 2 true).run Tryz.prog w = .ok (.tuple #[.int .i64 0, .bool false]) w := fun _ _ => by kernel_rfl
  have ta6 : ∀ v w, (Instr.typeAssert (.iface 42 v) 20 37 true).run Tryz.prog w = .ok (.tuple #[.int .u64 0, .bool false]) w := fun _ _ => by kernel_rfl
  have ta7 : ∀ v w, (Instr.typeAssert (.iface 42 v) 20 5 true).run Tryz.prog w = .ok (.tuple #[.int .u8 0, .bool false]) w := fun _ _ => by kernel_rfl
  have ta8 : ∀ v w, (Instr.typeAssert (.iface 42 v) 20 41 true).run Tryz.prog w = .ok (.tuple #[.int .u16 0, .bool false]) w := fun _ _ => by kernel_rfl
  have ta9 : ∀ v w, (Instr.typeAssert (.iface 42 v) 20 42 true).run Tryz.prog w = .ok (.tuple #[v, .bool true]) w := fun _ _ => by kernel_rfl
  have C := Lib.hid (fun W => indirect_uint32 (.int .u32 n) W)
  have HN := Lib.hid hn
  clear hn
  go_enter Tryz.func84, Tryz.ntmps84
  go_wp2_with fail
  refine (C.out _).mono ?_
  rintro e w1 ⟨rfl, rfl⟩
  go_wp2_with fail
  have hn := HN.out
  refine bodyPost_ret (v := .tuple #[.int .u64 (n), .bool true, .bool true]) ?_ rfl ⟨rfl, rfl⟩
  first
    | (simp [results, Tryz.results84, go_sem]; done)
    | (simp [results, Tryz.results84, go_sem, wu8, wu16, wu32, wu64, wi8, wi16, wi32, wi64, wrap64, wrap32]; done)
    | (simp [results, Tryz.results84, go_sem, wu8, wu16, wu32, wu64, wi8, wi16, wi32, wi64, wrap64, wrap32]; omega)
    | (simp [results, Tryz.results84, go_sem]; omega)
theorem num_uint_uint64 (n : Int) (hn : (0 ≤ n ∧ n < 18446744073709551616)) (w : World) : Calls Tryz.prog 84 #[.iface 24 (.int .u64 n)] w fun e w' => e = .returned (.tuple #[.int .u64 (n), .bool true, .bool true]) ∧ w' = w := by
  have ta0 : ∀ v w, (Instr.typeAssert (.iface 24 v) 20 37 true).run Tryz.prog w = .ok (.tuple #[.int .u64 0, .bool false]) w := fun _ _ => by kernel_rfl
  have ta1 : ∀ v w, (Instr.typeAssert (.iface 24 v) 20 3 true).run Tryz.prog w = .ok (.tuple #[.int .i64 0, .bool false]) w := fun _ _ => by kernel_rfl
  have ta2 : ∀ v w, (Instr.typeAssert (.iface 24 v) 20 38 true).run Tryz.prog w = .ok (.tuple #[.int .i8 0, .bool false]) w := fun _ _ => by kernel_rfl
  have ta3 : ∀ v w, (Instr.typeAssert (.iface 24 v) 20 39 true).run Tryz.prog w = .ok (.tuple #[.int .i16 0, .bool false]) w := fun _ _ => by kernel_rfl
  have ta4 : ∀ v w, (Instr.typeAssert (.iface 24 v) 20 21 true).run Tryz.prog w = .ok (.tuple #[.int .i32 0, .bool false]) w := fun _ _ => by kernel_rfl
  have ta5 : ∀ v w, (Instr.typeAssert (.iface 24 v) 20 2 true).run Tryz.prog w = .ok (.tuple #[.int .i64 0, .bool false]) w := fun _ _ => by kernel_rfl
  have ta6 : ∀ v w, (Instr.typeAssert (.iface 24 v) 20 37 true).run Tryz.prog w = .ok (.tuple #[.int .u64 0, .bool false]) w := fun _ _ => by kernel_rfl
  have ta7 : ∀ v w, (Instr.typeAssert (.iface 24 v) 20 5 true).run Tryz.prog w = .ok (.tuple #[.int .u8 0, .bool false]) w := fun _ _ => by kernel_rfl
  have ta8 : ∀ v w, (Instr.typeAssert (.iface 24 v) 20 41 true).run Tryz.prog w = .ok (.tuple #[.int .u16 0, .bool false]) w := fun _ _ => by kernel_rfl
  have ta9 : ∀ v w, (Instr.typeAssert (.iface 24 v) 20 42 true).run Tryz.prog w = .ok (.tuple #[.int .u32 0, .bool false]) w := fun _ _ => by kernel_rfl
  have ta10 : ∀ v w, (Instr.typeAssert (.iface 24 v) 20 24 true).run Tryz.prog w = .ok (.tuple #[v, .bool true]) w := fun _ _ => by kernel_rfl
  have C := Lib.hid (fun W => indirect_uint64 (.int .u64 n) W)
  have HN := Lib.hid hn
  clear hn
  go_enter Tryz.func84, Tryz.ntmps84
  go_wp2_with fail
  refine (C.out _).mono ?_
  rintro e w1 ⟨rfl, rfl⟩
  go_wp2_with fail
  have hn := HN.out
  refine bodyPost_ret (v := .tuple #[.int .u64 (n), .bool true, .bool true]) ?_ rfl ⟨rfl, rfl⟩
  first
    | (simp [results, Tryz.results84, go_sem]; done)
    | (simp [results, Tryz.results84, go_sem, wu8, wu16, wu32, wu64, wi8, wi16, wi32, wi64, wrap64, wrap32]; done)
    | (simp [results, Tryz.results84, go_sem, wu8, wu16, wu32, wu64, wi8, wi16, wi32, wi64, wrap64, wrap32]; omega)
    | (simp [results, Tryz.results84, go_sem]; omega)
theorem cast_uint (vk vi vn vf vs vl vm x : Value) (y : Int) (hy : (0 ≤ y ∧ y < 18446744073709551616)) (hv : ∀ W, Calls Tryz.prog 22 #[.agg #[vk, vi, vn, vf, vs, vl, vm]] W fun e w' => e = .returned x ∧ Below W.heap.size W w')
    (hu : ∀ W, Calls Tryz.prog 84 #[x] W fun e w' => e = .returned (.tuple #[.int .u64 y, .bool true, .bool true]) ∧ w' = W) (w : World) :
    Calls Tryz.prog 10 #[.int .i64 7, .agg #[vk, vi, vn, vf, vs, vl, vm]] w fun e w' => e = .returned (.tuple #[.int .u64 y, .bool true]) ∧ Below w.heap.size w w' := by
  have E1 : ∀ f W, Calls Tryz.prog 66 #[x, f] W fun e w' => e = .returned (.tuple #[.int .u64 y, .nilIface]) ∧ w' = W := by
    intro f W
    have HU := Lib.hid hu
    clear hu hv hy
    go_enter Tryz.func66, Tryz.ntmps66
    go_wp2_with fail
    refine (HU.out _).mono ?_
    rintro e w1 ⟨rfl, rfl⟩
    go_wp2_with fail
    exact bodyPost_ret (v := .tuple #[.int .u64 y, .nilIface]) (by simp [results, Tryz.results66, go_sem]) rfl ⟨rfl, rfl⟩
  have E2 : ∀ W, Calls Tryz.prog 31 #[x] W fun e w' => e = .returned (.tuple #[.int .u64 y, .nilIface]) ∧ w' = W := by
    intro W
    have HU := Lib.hid E1
    clear hu hv hy E1
    go_enter Tryz.func31, Tryz.ntmps31
    go_wp2_with fail
    refine (HU.out _ _).mono ?_
    rintro e w1 ⟨rfl, rfl⟩
    go_wp2_with fail
    exact bodyPost_ret (v := .tuple #[.int .u64 y, .nilIface]) (by simp [results, Tryz.results31, go_sem]) rfl ⟨rfl, rfl⟩
  have E3 : ∀ W, Calls Tryz.prog 20 #[.agg #[vk, vi, vn, vf, vs, vl, vm]] W fun e w' => e = .returned (.tuple #[.int .u64 y, .bool true]) ∧ Below W.heap.size W w' := by
    intro W
    have hn0 : ∀ w, Sem.run Tryz.prog (binOp BinOp.eql 45 Value.nilIface Value.nilIface) w = .ok (.bool true) w := fun _ => by kernel_rfl
    have HU := Lib.hid E2
    have HV := Lib.hid hv
    have HY := Lib.hid hy
    clear hu hv hy E1 E2
    go_enter Tryz.func20, Tryz.ntmps20
    go_wp2_with fail
    refine (HV.out _).mono ?_
    rintro e w1 ⟨rfl, hb1⟩
    go_wp2_with fail
    refine (HU.out _).mono ?_
    rintro e w2 ⟨rfl, rfl⟩
    go_wp2_with fail
    go_quiet (fail)
    go_wp2_with fail
    have hy := HY.out
    refine bodyPost_ret (v := .tuple #[.int .u64 y, .bool true]) ?_ rfl ⟨rfl, Below.drewN' (Below.after ((Below.refl _ _).alloc (Nat.le_refl _) _) hb1)⟩
    first
      | (simp [results, Tryz.results20, go_sem]; done)
      | (simp [results, Tryz.results20, go_sem, wu8, wu16, wu32, wu64, wi8, wi16, wi32, wi64, wrap64, wrap32]; omega)
      | (simp [results, Tryz.results20, go_sem]; omega)
  have HU := Lib.hid E3
  clear hu hv hy E1 E2 E3
  go_enter Tryz.func10, Tryz.ntmps10
  go_wp2_with fail
  refine (HU.out _).mono ?_
  rintro e w1 ⟨rfl, hb1⟩
  go_wp2_with fail
  exact bodyPost_ret (v := .tuple #[.int .u64 y, .bool true]) (by simp [results, Tryz.results10, go_sem]) rfl ⟨rfl, Below.after ((Below.refl _ _).alloc (Nat.le_refl _) _) hb1⟩
theorem cut_uint (n : Int) (hn : (0 ≤ n ∧ n < 18446744073709551616)) (w : World) : Calls Tryz.prog 9 #[.int .i64 7, .int .u64 n] w fun e w' => e = .returned (.int .u64 (n)) ∧ w' = w := by
  have HN := Lib.hid hn
  clear hn
  go_enter Tryz.func9, Tryz.ntmps9
  go_wp2_with fail
  have hn := HN.out
  go_ret
  refine ⟨?_, rfl⟩
  first
    | rfl
    | (refine congrArg (fun z => Ending.returned (Value.int IntKind.u64 z)) ?_; first | omega | (simp only [wu8, wu16, wu32, wu64, wi8, wi16, wi32, wi64, wrap64, wrap32]; omega))
theorem num_uint8_uint (n : Int) (hn : (0 ≤ n ∧ n < 18446744073709551616)) (w : World) : Calls Tryz.prog 78 #[.iface 37 (.int .u64 n)] w fun e w' => e = .returned (.tuple #[.int .u8 (n % 256), .bool true, .bool true]) ∧ w' = w := by
  have ta0 : ∀ v w, (Instr.typeAssert (.iface 37 v) 20 5 true).run Tryz.prog w = .ok (.tuple #[.int .u8 0, .bool false]) w := fun _ _ => by kernel_rfl
  have ta1 : ∀ v w, (Instr.typeAssert (.iface 37 v) 20 3 true).run Tryz.prog w = .ok (.tuple #[.int .i64 0, .bool false]) w := fun _ _ => by kernel_rfl
  have ta2 : ∀ v w, (Instr.typeAssert (.iface 37 v) 20 38 true).run Tryz.prog w = .ok (.tuple #[.int .i8 0, .bool false]) w := fun _ _ => by kernel_rfl
  have ta3 : ∀ v w, (Instr.typeAssert (.iface 37 v) 20 39 true).run Tryz.prog w = .ok (.tuple #[.int .i16 0, .bool false]) w := fun _ _ => by kernel_rfl
  have ta4 : ∀ v w, (Instr.typeAssert (.iface 37 v) 20 21 true).run Tryz.prog w = .ok (.tuple #[.int .i32 0, .bool false]) w := fun _ _ => by kernel_rfl
  have ta5 : ∀ v w, (Instr.typeAssert (.iface 37 v) 20 2 true).run Tryz.prog w = .ok (.tuple #[.int .i64 0, .bool false]) w := fun _ _ => by kernel_rfl
  have ta6 : ∀ v w, (Instr.typeAssert (.iface 37 v) 20 37 true).run Tryz.prog w = .ok (.tuple #[v, .bool true]) w := fun _ _ => by kernel_rfl
  have C := Lib.hid (fun W => indirect_uint (.int .u64 n) W)
  have HN := Lib.hid hn
  clear hn
  go_enter Tryz.func78, Tryz.ntmps78
  go_wp2_with fail
  refine (C.out _).mono ?_
  rintro e w1 ⟨rfl, rfl⟩
  go_wp2_with fail
  have hn := HN.out
  refine bodyPost_ret (v := .tuple #[.int .u8 (n % 256), .bool true, .bool true]) ?_ rfl ⟨rfl, rfl⟩
  first
    | (simp [results, Tryz.results78, go_sem]; done)
    | (simp [results, Tryz.results78, go_sem, wu8, wu16, wu32, wu64, wi8, wi16, wi32, wi64, wrap64, wrap32]; done)
    | (simp [results, Tryz.results78, go_sem, wu8, wu16, wu32, wu64, wi8, wi16, wi32, wi64, wrap64, wrap32]; omega)
    | (simp [results, Tryz.results78, go_sem]; omega)
theorem num_uint8_uint8 (n : Int) (hn : (0 ≤ n ∧ n < 256)) (w : World) : Calls Tryz.prog 78 #[.iface 5 (.int .u8 n)] w fun e w' => e = .returned (.tuple #[.int .u8 (n % 256), .bool true, .bool true]) ∧ w' = w := by
  have ta0 : ∀ v w, (Instr.typeAssert (.iface 5 v) 20 5 true).run Tryz.prog w = .ok (.tuple #[v, .bool true]) w := fun _ _ => by kernel_rfl
  have C := Lib.hid (fun W => indirect_uint8 (.int .u8 n) W)
  have HN := Lib.hid hn
  clear hn
  go_enter Tryz.func78, Tryz.ntmps78
  go_wp2_with fail
  refine (C.out _).mono ?_
  rintro e w1 ⟨rfl, rfl⟩
  go_wp2_with fail
  have hn := HN.out
  refine bodyPost_ret (v := .tuple #[.int .u8 (n % 256), .bool true, .bool true]) ?_ rfl ⟨rfl, rfl⟩
  first
    | (simp [results, Tryz.results78, go_sem]; done)
    | (simp [results, Tryz.results78, go_sem, wu8, wu16, wu32, wu64, wi8, wi16, wi32, wi64, wrap64, wrap32]; done)
    | (simp [results, Tryz.results78, go_sem, wu8, wu16, wu32, wu64, wi8, wi16, wi32, wi64, wrap64, wrap32]; omega)
    | (simp [results, Tryz.results78, go_sem]; omega)
theorem num_uint8_uint16 (n : Int) (hn : (0 ≤ n ∧ n < 65536)) (w : World) : Calls Tryz.prog 78 #[.iface 41 (.int .u16 n)] w fun e w' => e = .returned (.tuple #[.int .u8 (n % 256), .bool true, .bool true]) ∧ w' = w := by
  have ta0 : ∀ v w, (Instr.typeAssert (.iface 41 v) 20 5 true).run Tryz.prog w = .ok (.tuple #[.int .u8 0, .bool false]) w := fun _ _ => by kernel_rfl
  have ta1 : ∀ v w, (Instr.typeAssert (.iface 41 v) 20 3 true).run Tryz.prog w = .ok (.tuple #[.int .i64 0, .bool false]) w := fun _ _ => by kernel_rfl
  have ta2 : ∀ v w, (Instr.typeAssert (.iface 41 v) 20 38 true).run Tryz.prog w = .ok (.tuple #[.int .i8 0, .bool false]) w := fun _ _ => by kernel_rfl
  have ta3 : ∀ v w, (Instr.typeAssert (.iface 41 v) 20 39 true).run Tryz.prog w = .ok (.tuple #[.int .i16 0, .bool false]) w := fun _ _ => by kernel_rfl
  have ta4 : ∀ v w, (Instr.typeAssert (.iface 41 v) 20 21 true).run Tryz.prog w = .ok (.tuple #[.int .i32 0, .bool false]) w := fun _ _ => by kernel_rfl
  have ta5 : ∀ v w, (Instr.typeAssert (.iface 41 v) 20 2 true).run Tryz.prog w = .ok (.tuple #[.int .i64 0, .bool false]) w := fun _ _ => by kernel_rfl
  have ta6 : ∀ v w, (Instr.typeAssert (.iface 41 v) 20 37 true).run Tryz.prog w = .ok (.tuple #[.int .u64 0, .bool false]) w := fun _ _ => by kernel_rfl
  have ta7 : ∀ v w, (Instr.typeAssert (.iface 41 v) 20 5 true).run Tryz.prog w = .ok (.tuple #[.int .u8 0, .bool false]) w := fun _ _ => by kernel_rfl
  have ta8 : ∀ v w, (Instr.typeAssert (.iface 41 v) 20 41 true).run Tryz.prog w = .ok (.tuple #[v, .bool true]) w := fun _ _ => by kernel_rfl
  have C := Lib.hid (fun W => indirect_uint16 (.int .u16 n) W)
  have HN := Lib.hid hn
  clear hn
  go_enter Tryz.func78, Tryz.ntmps78
  go_wp2_with fail
  refine (C.out _).mono ?_
  rintro e w1 ⟨rfl, rfl⟩
  go_wp2_with fail
  have hn := HN.out
  refine bodyPost_ret (v := .tuple #[.int .u8 (n % 256), .bool true, .bool true]) ?_ rfl ⟨rfl, rfl⟩
  first
    | (simp [results, Tryz.results78, go_sem]; done)
    | (simp [results, Tryz.results78, go_sem, wu8, wu16, wu32, wu64, wi8, wi16, wi32, wi64, wrap64, wrap32]; done)
    | (simp [results, Tryz.results78, go_sem, wu8, wu16, wu32, wu64, wi8, wi16, wi32, wi64, wrap64, wrap32]; omega)
    | (simp [results, Tryz.results78, go_sem]; omega)
theorem num_uint8_uint32 (n : Int) (hn : (0 ≤ n ∧ n < 4294967296)) (w : World) : Calls Tryz.prog 78 #[.iface 42 (.int .u32 n)] w fun e w' => e = .returned (.tuple #[.int .u8 (n % 256), .bool true, .bool true]) ∧ w' = w := by
  have ta0 : ∀ v w, (Instr.typeAssert (.iface 42 v) 20 5 true).run Tryz.prog w = .ok (.tuple #[.int .u8 0, .bool false]) w := fun _ _ => by kernel_rfl
  have ta1 : ∀ v w, (Instr.typeAssert (.iface 42 v) 20 3 true).run Tryz.prog w = .ok (.tuple #[.int .i64 0, .bool false]) w := fun _ _ => by kernel_rfl
  have ta2 : ∀ v w, (Instr.typeAssert (.iface 42 v) 20 38 true).run Tryz.prog w = .ok (.tuple #[.int .i8 0, .bool false]) w := fun _ _ => by kernel_rfl
  have ta3 : ∀ v w, (Instr.typeAssert (.iface 42 v) 20 39 true).run Tryz.prog w = .ok (.tuple #[.int .i16 0, .bool false]) w := fun _ _ => by kernel_rfl
  have ta4 : ∀ v w, (Instr.typeAssert (.iface 42 v) 20 21 true).run Tryz.prog w = .ok (.tuple #[.int .i32 0, .bool false]) w := fun _ _ => by kernel_rfl
  have ta5 : ∀ v w, (Instr.typeAssert (.iface 42 v) 20 2 true).run Tryz.prog w = .ok (.tuple #[.int .i64 0, .bool false]) w := fun _ _ => by kernel_rfl
  have ta6 : ∀ v w, (Instr.typeAssert (.iface 42 v) 20 37 true).run Tryz.prog w = .ok (.tuple #[.int .u64 0, .bool false]) w := fun _ _ => by kernel_rfl
  have ta7 : ∀ v w, (Instr.typeAssert (.iface 42 v) 20 5 true).run Tryz.prog w = .ok (.tuple #[.int .u8 0, .bool false]) w := fun _ _ => by kernel_rfl
  have ta8 : ∀ v w, (Instr.typeAssert (.iface 42 v) 20 41 true).run Tryz.prog w = .ok (.tuple #[.int .u16 0, .bool false]) w := fun _ _ => by kernel_rfl
  have ta9 : ∀ v w, (Instr.typeAssert (.iface 42 v) 20 42 true).run Tryz.prog w = .ok (.tuple #[v, .bool true]) w := fun _ _ => by kernel_rfl
  have C := Lib.hid (fun W => indirect_uint32 (.int .u32 n) W)
  have HN := Lib.hid hn
  clear hn
  go_enter Tryz.func78, Tryz.ntmps78
  go_wp2_with fail
  refine (C.out _).mono ?_
  rintro e w1 ⟨rfl, rfl⟩
  go_wp2_with fail
  have hn := HN.out
  refine bodyPost_ret (v := .tuple #[.int .u8 (n % 256), .bool true, .bool true]) ?_ rfl ⟨rfl, rfl⟩
  first
    | (simp [results, Tryz.results78, go_sem]; done)
    | (simp [results, Tryz.results78, go_sem, wu8, wu16, wu32, wu64, wi8, wi16, wi32, wi64, wrap64, wrap32]; done)
    | (simp [results, Tryz.results78, go_sem, wu8, wu16, wu32, wu64, wi8, wi16, wi32, wi64, wrap64, wrap32]; omega)
    | (simp [results, Tryz.results78, go_sem]; omega)
theorem num_uint8_uint64 (n : Int) (hn : (0 ≤ n ∧ n < 18446744073709551616)) (w : World) : Calls Tryz.prog 78 #[.iface 24 (.int .u64 n)] w fun e w' => e = .returned (.tuple #[.int .u8 (n % 256), .bool true, .bool true]) ∧ w' = w := by
  have ta0 : ∀ v w, (Instr.typeAssert (.iface 24 v) 20 5 true).run Tryz.prog w = .ok (.tuple #[.int .u8 0, .bool false]) w := fun _ _ => by kernel_rfl
  have ta1 : ∀ v w, (Instr.typeAssert (.iface 24 v) 20 3 true).run Tryz.prog w = .ok (.tuple #[.int .i64 0, .bool false]) w := fun _ _ => by kernel_rfl
  have ta2 : ∀ v w, (Instr.typeAssert (.iface 24 v) 20 38 true).run Tryz.prog w = .ok (.tuple #[.int .i8 0, .bool false]) w := fun _ _ => by kernel_rfl
  have ta3 : ∀ v w, (Instr.typeAssert (.iface 24 v) 20 39 true).run Tryz.prog w = .ok (.tuple #[.int .i16 0, .bool false]) w := fun _ _ => by kernel_rfl
  have ta4 : ∀ v w, (Instr.typeAssert (.iface 24 v) 20 21 true).run Tryz.prog w = .ok (.tuple #[.int .i32 0, .bool false]) w := fun _ _ => by kernel_rfl
  have ta5 : ∀ v w, (Instr.typeAssert (.iface 24 v) 20 2 true).run Tryz.prog w = .ok (.tuple #[.int .i64 0, .bool false]) w := fun _ _ => by kernel_rfl
  have ta6 : ∀ v w, (Instr.typeAssert (.iface 24 v) 20 37 true).run Tryz.prog w = .ok (.tuple #[.int .u64 0, .bool false]) w := fun _ _ => by kernel_rfl
  have ta7 : ∀ v w, (Instr.typeAssert (.iface 24 v) 20 5 true).run Tryz.prog w = .ok (.tuple #[.int .u8 0, .bool false]) w := fun _ _ => by kernel_rfl
  have ta8 : ∀ v w, (Instr.typeAssert (.iface 24 v) 20 41 true).run Tryz.prog w = .ok (.tuple #[.int .u16 0, .bool false]) w := fun _ _ => by kernel_rfl
  have ta9 : ∀ v w, (Instr.typeAssert (.iface 24 v) 20 42 true).run Tryz.prog w = .ok (.tuple #[.int .u32 0, .bool false]) w := fun _ _ => by kernel_rfl
  have ta10 : ∀ v w, (Instr.typeAssert (.iface 24 v) 20 24 true).run Tryz.prog w = .ok (.tuple #[v, .bool true]) w := fun _ _ => by kernel_rfl
  have C := Lib.hid (fun W => indirect_uint64 (.int .u64 n) W)
  have HN := Lib.hid hn
  clear hn
  go_enter Tryz.func78, Tryz.ntmps78
  go_wp2_with fail
  refine (C.out _).mono ?_
  rintro e w1 ⟨rfl, rfl⟩
  go_wp2_with fail
  have hn := HN.out
  refine bodyPost_ret (v := .tuple #[.int .u8 (n % 256), .bool true, .bool true]) ?_ rfl ⟨rfl, rfl⟩
  first
    | (simp [results, Tryz.results78, go_sem]; done)
    | (simp [results, Tryz.results78, go_sem, wu8, wu16, wu32, wu64, wi8, wi16, wi32, wi64, wrap64, wrap32]; done)
    | (simp [results, Tryz.results78, go_sem, wu8, wu16, wu32, wu64, wi8, wi16, wi32, wi64, wrap64, wrap32]; omega)
    | (simp [results, Tryz.results78, go_sem]; omega)
theorem cast_uint8 (vk vi vn vf vs vl vm x : Value) (y : Int) (hy : (0 ≤ y ∧ y < 18446744073709551616)) (hv : ∀ W, Calls Tryz.prog 22 #[.agg #[vk, vi, vn, vf, vs, vl, vm]] W fun e w' => e = .returned x ∧ Below W.heap.size W w')
    (hu : ∀ W, Calls Tryz.prog 78 #[x] W fun e w' => e = .returned (.tuple #[.int .u8 y, .bool true, .bool true]) ∧ w' = W) (w : World) :
    Calls Tryz.prog 10 #[.int .i64 8, .agg #[vk, vi, vn, vf, vs, vl, vm]] w fun e w' => e = .returned (.tuple #[.int .u64 y, .bool true]) ∧ Below w.heap.size w w' := by
  have E1 : ∀ f W, Calls Tryz.prog 58 #[x, f] W fun e w' => e = .returned (.tuple #[.int .u8 y, .nilIface]) ∧ w' = W := by
    intro f W
    have HU := Lib.hid hu
    clear hu hv hy
    go_enter Tryz.func58, Tryz.ntmps58
    go_wp2_with fail
    refine (HU.out _).mono ?_
    rintro e w1 ⟨rfl, rfl⟩
    go_wp2_with fail
    exact bodyPost_ret (v := .tuple #[.int .u8 y, .nilIface]) (by simp [results, Tryz.results58, go_sem]) rfl ⟨rfl, rfl⟩
  have E2 : ∀ W, Calls Tryz.prog 27 #[x] W fun e w' => e = .returned (.tuple #[.int .u8 y, .nilIface]) ∧ w' = W := by
    intro W
    have HU := Lib.hid E1
    clear hu hv hy E1
    go_enter Tryz.func27, Tryz.ntmps27
    go_wp2_with fail
    refine (HU.out _ _).mono ?_
    rintro e w1 ⟨rfl, rfl⟩
    go_wp2_with fail
    exact bodyPost_ret (v := .tuple #[.int .u8 y, .nilIface]) (by simp [results, Tryz.results27, go_sem]) rfl ⟨rfl, rfl⟩
  have E3 : ∀ W, Calls Tryz.prog 16 #[.agg #[vk, vi, vn, vf, vs, vl, vm]] W fun e w' => e = .returned (.tuple #[.int .u64 y, .bool true]) ∧ Below W.heap.size W w' := by
    intro W
    have hn0 : ∀ w, Sem.run Tryz.prog (binOp BinOp.eql 45 Value.nilIface Value.nilIface) w = .ok (.bool true) w := fun _ => by kernel_rfl
    have HU := Lib.hid E2
    have HV := Lib.hid hv
    have HY := Lib.hid hy
    clear hu hv hy E1 E2
    go_enter Tryz.func16, Tryz.ntmps16
    go_wp2_with fail
    refine (HV.out _).mono ?_
    rintro e w1 ⟨rfl, hb1⟩
    go_wp2_with fail
    refine (HU.out _).mono ?_
    rintro e w2 ⟨rfl, rfl⟩
    go_wp2_with fail
    go_quiet (fail)
    go_wp2_with fail
    have hy := HY.out
    refine bodyPost_ret (v := .tuple #[.int .u64 y, .bool true]) ?_ rfl ⟨rfl, Below.drewN' (Below.after ((Below.refl _ _).alloc (Nat.le_refl _) _) hb1)⟩
    first
      | (simp [results, Tryz.results16, go_sem]; done)
      | (simp [results, Tryz.results16, go_sem, wu8, wu16, wu32, wu64, wi8, wi16, wi32, wi64, wrap64, wrap32]; omega)
      | (simp [results, Tryz.results16, go_sem]; omega)
  have HU := Lib.hid E3
  clear hu hv hy E1 E2 E3
  go_enter Tryz.func10, Tryz.ntmps10
  go_wp2_with fail
  refine (HU.out _).mono ?_
  rintro e w1 ⟨rfl, hb1⟩
  go_wp2_with fail
  exact bodyPost_ret (v := .tuple #[.int .u64 y, .bool true]) (by simp [results, Tryz.results10, go_sem]) rfl ⟨rfl, Below.after ((Below.refl _ _).alloc (Nat.le_refl _) _) hb1⟩
theorem cut_uint8 (n : Int) (hn : (0 ≤ n ∧ n < 18446744073709551616)) (w : World) : Calls Tryz.prog 9 #[.int .i64 8, .int .u64 n] w fun e w' => e = .returned (.int .u64 (n % 256)) ∧ w' = w := by
  have HN := Lib.hid hn
  clear hn
  go_enter Tryz.func9, Tryz.ntmps9
  go_wp2_with fail
  have hn := HN.out
  go_ret
  refine ⟨?_, rfl⟩
  first
    | rfl
    | (refine congrArg (fun z => Ending.returned (Value.int IntKind.u64 z)) ?_; first | omega | (simp only [wu8, wu16, wu32, wu64, wi8, wi16, wi32, wi64, wrap64, wrap32]; omega))
theorem num_uint16_uint (n : Int) (hn : (0 ≤ n ∧ n < 18446744073709551616)) (w : World) : Calls Tryz.prog 81 #[.iface 37 (.int .u64 n)] w fun e w' => e = .returned (.tuple #[.int .u16 (n % 65536), .bool true, .bool true]) ∧ w' = w := by
  have ta0 : ∀ v w, (Instr.typeAssert (.iface 37 v) 20 41 true).run Tryz.prog w = .ok (.tuple #[.int .u16 0, .bool false]) w := fun _ _ => by kernel_rfl
  have ta1 : ∀ v w, (Instr.typeAssert (.iface 37 v) 20 3 true).run Tryz.prog w = .ok (.tuple #[.int .i64 0, .bool false]) w := fun _ _ => by kernel_rfl
  have ta2 : ∀ v w, (Instr.typeAssert (.iface 37 v) 20 38 true).run Tryz.prog w = .ok (.tuple #[.int .i8 0, .bool false]) w := fun _ _ => by kernel_rfl
  have ta3 : ∀ v w, (Instr.typeAssert (.iface 37 v) 20 39 true).run Tryz.prog w = .ok (.tuple #[.int .i16 0, .bool false]) w := fun _ _ => by kernel_rfl
  have ta4 : ∀ v w, (Instr.typeAssert (.iface 37 v) 20 21 true).run Tryz.prog w = .ok (.tuple #[.int .i32 0, .bool false]) w := fun _ _ => by kernel_rfl
  have ta5 : ∀ v w, (Instr.typeAssert (.iface 37 v) 20 2 true).run Tryz.prog w = .ok (.tuple #[.int .i64 0, .bool false]) w := fun _ _ => by kernel_rfl
  have ta6 : ∀ v w, (Instr.typeAssert (.iface 37 v) 20 37 true).run Tryz.prog w = .ok (.tuple #[v, .bool true]) w := fun _ _ => by kernel_rfl
  have C := Lib.hid (fun W => indirect_uint (.int .u64 n) W)
  have HN := Lib.hid hn
  clear hn
  go_enter Tryz.func81, Tryz.ntmps81
  go_wp2_with fail
  refine (C.out _).mono ?_
  rintro e w1 ⟨rfl, rfl⟩
  go_wp2_with fail
  have hn := HN.out
  refine bodyPost_ret (v := .tuple #[.int .u16 (n % 65536), .bool true, .bool true]) ?_ rfl ⟨rfl, rfl⟩
  first
    | (simp [results, Tryz.results81, go_sem]; done)
    | (simp [results, Tryz.results81, go_sem, wu8, wu16, wu32, wu64, wi8, wi16, wi32, wi64, wrap64, wrap32]; done)
    | (simp [results, Tryz.results81, go_sem, wu8, wu16, wu32, wu64, wi8, wi16, wi32, wi64, wrap64, wrap32]; omega)
    | (simp [results, Tryz.results81, go_sem]; omega)
theorem num_uint16_uint8 (n : Int) (hn : (0 ≤ n ∧ n < 256)) (w : World) : Calls Tryz.prog 81 #[.iface 5 (.int .u8 n)] w fun e w' => e = .returned (.tuple #[.int .u16 (n % 65536), .bool true, .bool true]) ∧ w' = w := by
  have ta0 : ∀ v w, (Instr.typeAssert (.iface 5 v) 20 41 true).run Tryz.prog w = .ok (.tuple #[.int .u16 0, .bool false]) w := fun _ _ => by kernel_rfl
  have ta1 : ∀ v w, (Instr.typeAssert (.iface 5 v) 20 3 true).run Tryz.prog w = .ok (.tuple #[.int .i64 0, .bool false]) w := fun _ _ => by kernel_rfl
  have ta2 : ∀ v w, (Instr.typeAssert (.iface 5 v) 20 38 true).run Tryz.prog w = .ok (.tuple #[.int .i8 0, .bool false]) w := fun _ _ => by kernel_rfl
  have ta3 : ∀ v w, (Instr.typeAssert (.iface 5 v) 20 39 true).run Tryz.prog w = .ok (.tuple #[.int .i16 0, .bool false]) w := fun _ _ => by kernel_rfl
  have ta4 : ∀ v w, (Instr.typeAssert (.iface 5 v) 20 21 true).run Tryz.prog w = .ok (.tuple #[.int .i32 0, .bool false]) w := fun _ _ => by kernel_rfl
  have ta5 : ∀ v w, (Instr.typeAssert (.iface 5 v) 20 2 true).run Tryz.prog w = .ok (.tuple #[.int .i64 0, .bool false]) w := fun _ _ => by kernel_rfl
  have ta6 : ∀ v w, (Instr.typeAssert (.iface 5 v) 20 37 true).run Tryz.prog w = .ok (.tuple #[.int .u64 0, .bool false]) w := fun _ _ => by kernel_rfl
  have ta7 : ∀ v w, (Instr.typeAssert (.iface 5 v) 20 5 true).run Tryz.prog w = .ok (.tuple #[v, .bool true]) w := fun _ _ => by kernel_rfl
  have C := Lib.hid (fun W => indirect_uint8 (.int .u8 n) W)
  have HN := Lib.hid hn
  clear hn
  go_enter Tryz.func81, Tryz.ntmps81
  go_wp2_with fail
  refine (C.out _).mono ?_
  rintro e w1 ⟨rfl, rfl⟩
  go_wp2_with fail
  have hn := HN.out
  refine bodyPost_ret (v := .tuple #[.int .u16 (n % 65536), .bool true, .bool true]) ?_ rfl ⟨rfl, rfl⟩
  first
    | (simp [results, Tryz.results81, go_sem]; done)
    | (simp [results, Tryz.results81, go_sem, wu8, wu16, wu32, wu64, wi8, wi16, wi32, wi64, wrap64, wrap32]; done)
    | (simp [results, Tryz.results81, go_sem, wu8, wu16, wu32, wu64, wi8, wi16, wi32, wi64, wrap64, wrap32]; omega)
    | (simp [results, Tryz.results81, go_sem]; omega)
theorem num_uint16_uint16 (n : Int) (hn : (0 ≤ n ∧ n < 65536)) (w : World) : Calls Tryz.prog 81 #[.iface 41 (.int .u16 n)] w fun e w' => e = .returned (.tuple #[.int .u16 (n % 65536), .bool true, .bool true]) ∧ w' = w := by
  have ta0 : ∀ v w, (Instr.typeAssert (.iface 41 v) 20 41 true).run Tryz.prog w = .ok (.tuple #[v, .bool true]) w := fun _ _ => by kernel_rfl
  have C := Lib.hid (fun W => indirect_uint16 (.int .u16 n) W)
  have HN := Lib.hid hn
  clear hn
  go_enter Tryz.func81, Tryz.ntmps81
  go_wp2_with fail
  refine (C.out _).mono ?_
  rintro e w1 ⟨rfl, rfl⟩
  go_wp2_with fail
  have hn := HN.out
  refine bodyPost_ret (v := .tuple #[.int .u16 (n % 65536), .bool true, .bool true]) ?_ rfl ⟨rfl, rfl⟩
  first
    | (simp [results, Tryz.results81, go_sem]; done)
    | (simp [results, Tryz.results81, go_sem, wu8, wu16, wu32, wu64, wi8, wi16, wi32, wi64, wrap64, wrap32]; done)
    | (simp [results, Tryz.results81, go_sem, wu8, wu16, wu32, wu64, wi8, wi16, wi32, wi64, wrap64, wrap32]; omega)
    | (simp [results, Tryz.results81, go_sem]; omega)
theorem num_uint16_uint32 (n : Int) (hn : (0 ≤ n ∧ n < 4294967296)) (w : World) : Calls Tryz.prog 81 #[.iface 42 (.int .u32 n)] w fun e w' => e = .returned (.tuple #[.int .u16 (n % 65536), .bool true, .bool true]) ∧ w' = w := by
  have ta0 : ∀ v w, (Instr.typeAssert (.iface 42 v) 20 41 true).run Tryz.prog w = .ok (.tuple #[.int .u16 0, .bool false]) w := fun _ _ => by kernel_rfl
  have ta1 : ∀ v w, (Instr.typeAssert (.iface 42 v) 20 3 true).run Tryz.prog w = .ok (.tuple #[.int .i64 0, .bool false]) w := fun _ _ => by kernel_rfl
  have ta2 : ∀ v w, (Instr.typeAssert (.iface 42 v) 20 38 true).run Tryz.prog w = .ok (.tuple #[.int .i8 0, .bool false]) w := fun _ _ => by kernel_rfl
  have ta3 : ∀ v w, (Instr.typeAssert (.iface 42 v) 20 39 true).run Tryz.prog w = .ok (.tuple #[.int .i16 0, .bool false]) w := fun _ _ => by kernel_rfl
  have ta4 : ∀ v w, (Instr.typeAssert (.iface 42 v) 20 21 true).run Tryz.prog w = .ok (.tuple #[.int .i32 0, .bool false]) w := fun _ _ => by kernel_rfl
  have ta5 : ∀ v w, (Instr.typeAssert (.iface 42 v) 20 2 true).run Tryz.prog w = .ok (.tuple #[.int .i64 0, .bool false]) w := fun _ _ => by kernel_rfl
  have ta6 : ∀ v w, (Instr.typeAssert (.iface 42 v) 20 37 true).run Tryz.prog w = .ok (.tuple #[.int .u64 0, .bool false]) w := fun _ _ => by kernel_rfl
  have ta7 : ∀ v w, (Instr.typeAssert (.iface 42 v) 20 5 true).run Tryz.prog w = .ok (.tuple #[.int .u8 0, .bool false]) w := fun _ _ => by kernel_rfl
  have ta8 : ∀ v w, (Instr.typeAssert (.iface 42 v) 20 41 true).run Tryz.prog w = .ok (.tuple #[.int .u16 0, .bool false]) w := fun _ _ => by kernel_rfl
  have ta9 : ∀ v w, (Instr.typeAssert (.iface 42 v) 20 42 true).run Tryz.prog w = .ok (.tuple #[v, .bool true]) w := fun _ _ => by kernel_rfl
  have C := Lib.hid (fun W => indirect_uint32 (.int .u32 n) W)
  have HN := Lib.hid hn
  clear hn
  go_enter Tryz.func81, Tryz.ntmps81
  go_wp2_with fail
  refine (C.out _).mono ?_
  rintro e w1 ⟨rfl, rfl⟩
  go_wp2_with fail
  have hn := HN.out
  refine bodyPost_ret (v := .tuple #[.int .u16 (n % 65536), .bool true, .bool true]) ?_ rfl ⟨rfl, rfl⟩
  first
    | (simp [results, Tryz.results81, go_sem]; done)
    | (simp [results, Tryz.results81, go_sem, wu8, wu16, wu32, wu64, wi8, wi16, wi32, wi64, wrap64, wrap32]; done)
    | (simp [results, Tryz.results81, go_sem, wu8, wu16, wu32, wu64, wi8, wi16, wi32, wi64, wrap64, wrap32]; omega)
    | (simp [results, Tryz.results81, go_sem]; omega)
theorem num_uint16_uint64 (n : Int) (hn : (0 ≤ n ∧ n < 18446744073709551616)) (w : World) : Calls Tryz.prog 81 #[.iface 24 (.int .u64 n)] w fun e w' => e = .returned (.tuple #[.int .u16 (n % 65536), .bool true, .bool true]) ∧ w' = w := by
  have ta0 : ∀ v w, (Instr.typeAssert (.iface 24 v) 20 41 true).run Tryz.prog w = .ok (.tuple #[.int .u16 0, .bool false]) w := fun _ _ => by kernel_rfl
  have ta1 : ∀ v w, (Instr.typeAssert (.iface 24 v) 20 3 true).run Tryz.prog w = .ok (.tuple #[.int .i64 0, .bool false]) w := fun _ _ => by kernel_rfl
  have ta2 : ∀ v w, (Instr.typeAssert (.iface 24 v) 20 38 true).run Tryz.prog w = .ok (.tuple #[.int .i8 0, .bool false]) w := fun _ _ => by kernel_rfl
  have ta3 : ∀ v w, (Instr.typeAssert (.iface 24 v) 20 39 true).run Tryz.prog w = .ok (.tuple #[.int .i16 0, .bool false]) w := fun _ _ => by kernel_rfl
  have ta4 : ∀ v w, (Instr.typeAssert (.iface 24 v) 20 21 true).run Tryz.prog w = .ok (.tuple #[.int .i32 0, .bool false]) w := fun _ _ => by kernel_rfl
  have ta5 : ∀ v w, (Instr.typeAssert (.iface 24 v) 20 2 true).run Tryz.prog w = .ok (.tuple #[.int .i64 0, .bool false]) w := fun _ _ => by kernel_rfl
  have ta6 : ∀ v w, (Instr.typeAssert (.iface 24 v) 20 37 true).run Tryz.prog w = .ok (.tuple #[.int .u64 0, .bool false]) w := fun _ _ => by kernel_rfl
  have ta7 : ∀ v w, (Instr.typeAssert (.iface 24 v) 20 5 true).run Tryz.prog w = .ok (.tuple #[.int .u8 0, .bool false]) w := fun _ _ => by kernel_rfl
  have ta8 : ∀ v w, (Instr.typeAssert (.iface 24 v) 20 41 true).run Tryz.prog w = .ok (.tuple #[.int .u16 0, .bool false]) w := fun _ _ => by kernel_rfl
  have ta9 : ∀ v w, (Instr.typeAssert (.iface 24 v) 20 42 true).run Tryz.prog w = .ok (.tuple #[.int .u32 0, .bool false]) w := fun _ _ => by kernel_rfl
  have ta10 : ∀ v w, (Instr.typeAssert (.iface 24 v) 20 24 true).run Tryz.prog w = .ok (.tuple #[v, .bool true]) w := fun _ _ => by kernel_rfl
  have C := Lib.hid (fun W => indirect_uint64 (.int .u64 n) W)
  have HN := Lib.hid hn
  clear hn
  go_enter Tryz.func81, Tryz.ntmps81
  go_wp2_with fail
  refine (C.out _).mono ?_
  rintro e w1 ⟨rfl, rfl⟩
  go_wp2_with fail
  have hn := HN.out
  refine bodyPost_ret (v := .tuple #[.int .u16 (n % 65536), .bool true, .bool true]) ?_ rfl ⟨rfl, rfl⟩
  first
    | (simp [results, Tryz.results81, go_sem]; done)
    | (simp [results, Tryz.results81, go_sem, wu8, wu16, wu32, wu64, wi8, wi16, wi32, wi64, wrap64, wrap32]; done)
    | (simp [results, Tryz.results81, go_sem, wu8, wu16, wu32, wu64, wi8, wi16, wi32, wi64, wrap64, wrap32]; omega)
    | (simp [results, Tryz.results81, go_sem]; omega)
theorem cast_uint16 (vk vi vn vf vs vl vm x : Value) (y : Int) (hy : (0 ≤ y ∧ y < 18446744073709551616)) (hv : ∀ W, Calls Tryz.prog 22 #[.agg #[vk, vi, vn, vf, vs, vl, vm]] W fun e w' => e = .returned x ∧ Below W.heap.size W w')
    (hu : ∀ W, Calls Tryz.prog 81 #[x] W fun e w' => e = .returned (.tuple #[.int .u16 y, .bool true, .bool true]) ∧ w' = W) (w : World) :
    Calls Tryz.prog 10 #[.int .i64 9, .agg #[vk, vi, vn, vf, vs, vl, vm]] w fun e w' => e = .returned (.tuple #[.int .u64 y, .bool true]) ∧ Below w.heap.size w w' := by
  have E1 : ∀ f W, Calls Tryz.prog 60 #[x, f] W fun e w' => e = .returned (.tuple #[.int .u16 y, .nilIface]) ∧ w' = W := by
    intro f W
    have HU := Lib.hid hu
    clear hu hv hy
    go_enter Tryz.func60, Tryz.ntmps60
    go_wp2_with fail
    refine (HU.out _).mono ?_
    rintro e w1 ⟨rfl, rfl⟩
    go_wp2_with fail
    exact bodyPost_ret (v := .tuple #[.int .u16 y, .nilIface]) (by simp [results, Tryz.results60, go_sem]) rfl ⟨rfl, rfl⟩
  have E2 : ∀ W, Calls Tryz.prog 28 #[x] W fun e w' => e = .returned (.tuple #[.int .u16 y, .nilIface]) ∧ w' = W := by
    intro W
    have HU := Lib.hid E1
    clear hu hv hy E1
    go_enter Tryz.func28, Tryz.ntmps28
    go_wp2_with fail
    refine (HU.out _ _).mono ?_
    rintro e w1 ⟨rfl, rfl⟩
    go_wp2_with fail
    exact bodyPost_ret (v := .tuple #[.int .u16 y, .nilIface]) (by simp [results, Tryz.results28, go_sem]) rfl ⟨rfl, rfl⟩
  have E3 : ∀ W, Calls Tryz.prog 17 #[.agg #[vk, vi, vn, vf, vs, vl, vm]] W fun e w' => e = .returned (.tuple #[.int .u64 y, .bool true]) ∧ Below W.heap.size W w' := by
    intro W
    have hn0 : ∀ w, Sem.run Tryz.prog (binOp BinOp.eql 45 Value.nilIface Value.nilIface) w = .ok (.bool true) w := fun _ => by kernel_rfl
    have HU := Lib.hid E2
    have HV := Lib.hid hv
    have HY := Lib.hid hy
    clear hu hv hy E1 E2
    go_enter Tryz.func17, Tryz.ntmps17
    go_wp2_with fail
    refine (HV.out _).mono ?_
    rintro e w1 ⟨rfl, hb1⟩
    go_wp2_with fail
    refine (HU.out _).mono ?_
    rintro e w2 ⟨rfl, rfl⟩
    go_wp2_with fail
    go_quiet (fail)
    go_wp2_with fail
    have hy := HY.out
    refine bodyPost_ret (v := .tuple #[.int .u64 y, .bool true]) ?_ rfl ⟨rfl, Below.drewN' (Below.after ((Below.refl _ _).alloc (Nat.le_refl _) _) hb1)⟩
    first
      | (simp [results, Tryz.results17, go_sem]; done)
      | (simp [results, Tryz.results17, go_sem, wu8, wu16, wu32, wu64, wi8, wi16, wi32, wi64, wrap64, wrap32]; omega)
      | (simp [results, Tryz.results17, go_sem]; omega)
  have HU := Lib.hid E3
  clear hu hv hy E1 E2 E3
  go_enter Tryz.func10, Tryz.ntmps10
  go_wp2_with fail
  refine (HU.out _).mono ?_
  rintro e w1 ⟨rfl, hb1⟩
  go_wp2_with fail
  exact bodyPost_ret (v := .tuple #[.int .u64 y, .bool true]) (by simp [results, Tryz.results10, go_sem]) rfl ⟨rfl, Below.after ((Below.refl _ _).alloc (Nat.le_refl _) _) hb1⟩
theorem cut_uint16 (n : Int) (hn : (0 ≤ n ∧ n < 18446744073709551616)) (w : World) : Calls Tryz.prog 9 #[.int .i64 9, .int .u64 n] w fun e w' => e = .returned (.int .u64 (n % 65536)) ∧ w' = w := by
  have HN := Lib.hid hn
  clear hn
  go_enter Tryz.func9, Tryz.ntmps9
  go_wp2_with fail
  have hn := HN.out
  go_ret
  refine ⟨?_, rfl⟩
  first
    | rfl
    | (refine congrArg (fun z => Ending.returned (Value.int IntKind.u64 z)) ?_; first | omega | (simp only [wu8, wu16, wu32, wu64, wi8, wi16, wi32, wi64, wrap64, wrap32]; omega))
theorem num_uint32_uint (n : Int) (hn : (0 ≤ n ∧ n < 18446744073709551616)) (w : World) : Calls Tryz.prog 82 #[.iface 37 (.int .u64 n)] w fun e w' => e = .returned (.tuple #[.int .u32 (n % 4294967296), .bool true, .bool true]) ∧ w' = w := by
  have ta0 : ∀ v w, (Instr.typeAssert (.iface 37 v) 20 42 true).run Tryz.prog w = .ok (.tuple #[.int .u32 0, .bool false]) w := fun _ _ => by kernel_rfl
  have ta1 : ∀ v w, (Instr.typeAssert (.iface 37 v) 20 3 true).run Tryz.prog w = .ok (.tuple #[.int .i64 0, .bool false]) w := fun _ _ => by kernel_rfl
  have ta2 : ∀ v w, (Instr.typeAssert (.iface 37 v) 20 38 true).run Tryz.prog w = .ok (.tuple #[.int .i8 0, .bool false]) w := fun _ _ => by kernel_rfl
  have ta3 : ∀ v w, (Instr.typeAssert (.iface 37 v) 20 39 true).run Tryz.prog w = .ok (.tuple #[.int .i16 0, .bool false]) w := fun _ _ => by kernel_rfl
  have ta4 : ∀ v w, (Instr.typeAssert (.iface 37 v) 20 21 true).run Tryz.prog w = .ok (.tuple #[.int .i32 0, .bool false]) w := fun _ _ => by kernel_rfl
  have ta5 : ∀ v w, (Instr.typeAssert (.iface 37 v) 20 2 true).run Tryz.prog w = .ok (.tuple #[.int .i64 0, .bool false]) w := fun _ _ => by kernel_rfl
  have ta6 : ∀ v w, (Instr.typeAssert (.iface 37 v) 20 37 true).run Tryz.prog w = .ok (.tuple #[v, .bool true]) w := fun _ _ => by kernel_rfl
  have C := Lib.hid (fun W => indirect_uint (.int .u64 n) W)
  have HN := Lib.hid hn
  clear hn
  go_enter Tryz.func82, Tryz.ntmps82
  go_wp2_with fail
  refine (C.out _).mono ?_
  rintro e w1 ⟨rfl, rfl⟩
  go_wp2_with fail
  have hn := HN.out
  refine bodyPost_ret (v := .tuple #[.int .u32 (n % 4294967296), .bool true, .bool true]) ?_ rfl ⟨rfl, rfl⟩
  first
    | (simp [results, Tryz.results82, go_sem]; done)
    | (simp [results, Tryz.results82, go_sem, wu8, wu16, wu32, wu64, wi8, wi16, wi32, wi64, wrap64, wrap32]; done)
    | (simp [results, Tryz.results82, go_sem, wu8, wu16, wu32, wu64, wi8, wi16, wi32, wi64, wrap64, wrap32]; omega)
    | (simp [results, Tryz.results82, go_sem]; omega)
theorem num_uint32_uint8 (n : Int) (hn : (0 ≤ n ∧ n < 256)) (w : World) : Calls Tryz.prog 82 #[.iface 5 (.int .u8 n)] w fun e w' => e = .returned (.tuple #[.int .u32 (n % 4294967296), .bool true, .bool true]) ∧ w' = w := by
  have ta0 : ∀ v w, (Instr.typeAssert (.iface 5 v) 20 42 true).run Tryz.prog w = .ok (.tuple #[.int .u32 0, .bool false]) w := fun _ _ => by kernel_rfl
  have ta1 : ∀ v w, (Instr.typeAssert (.iface 5 v) 20 3 true).run Tryz.prog w = .ok (.tuple #[.int .i64 0, .bool false]) w := fun _ _ => by kernel_rfl
  have ta2 : ∀ v w, (Instr.typeAssert (.iface 5 v) 20 38 true).run Tryz.prog w = .ok (.tuple #[.int .i8 0, .bool false]) w := fun _ _ => by kernel_rfl
  have ta3 : ∀ v w, (Instr.typeAssert (.iface 5 v) 20 39 true).run Tryz.prog w = .ok (.tuple #[.int .i16 0, .bool false]) w := fun _ _ => by kernel_rfl
  have ta4 : ∀ v w, (Instr.typeAssert (.iface 5 v) 20 21 true).run Tryz.prog w = .ok (.tuple #[.int .i32 0, .bool false]) w := fun _ _ => by kernel_rfl
  have ta5 : ∀ v w, (Instr.typeAssert (.iface 5 v) 20 2 true).run Tryz.prog w = .ok (.tuple #[.int .i64 0, .bool false]) w := fun _ _ => by kernel_rfl
  have ta6 : ∀ v w, (Instr.typeAssert (.iface 5 v) 20 37 true).run Tryz.prog w = .ok (.tuple #[.int .u64 0, .bool false]) w := fun _ _ => by kernel_rfl
  have ta7 : ∀ v w, (Instr.typeAssert (.iface 5 v) 20 5 true).run Tryz.prog w = .ok (.tuple #[v, .bool true]) w := fun _ _ => by kernel_rfl
  have C := Lib.hid (fun W => indirect_uint8 (.int .u8 n) W)
  have HN := Lib.hid hn
  clear hn
  go_enter Tryz.func82, Tryz.ntmps82
  go_wp2_with fail
  refine (C.out _).mono ?_
  rintro e w1 ⟨rfl, rfl⟩
  go_wp2_with fail
  have hn := HN.out
  refine bodyPost_ret (v := .tuple #[.int .u32 (n % 4294967296), .bool true, .bool true]) ?_ rfl ⟨rfl, rfl⟩
  first
    | (simp [results, Tryz.results82, go_sem]; done)
    | (simp [results, Tryz.results82, go_sem, wu8, wu16, wu32, wu64, wi8, wi16, wi32, wi64, wrap64, wrap32]; done)
    | (simp [results, Tryz.results82, go_sem, wu8, wu16, wu32, wu64, wi8, wi16, wi32, wi64, wrap64, wrap32]; omega)
    | (simp [results, Tryz.results82, go_sem]; omega)
theorem num_uint32_uint16 (n : Int) (hn : (0 ≤ n ∧ n < 65536)) (w : World) : Calls Tryz.prog 82 #[.iface 41 (.int .u16 n)] w fun e w' => e = .returned (.tuple #[.int .u32 (n % 4294967296), .bool true, .bool true]) ∧ w' = w := by
  have ta0 : ∀ v w, (Instr.typeAssert (.iface 41 v) 20 42 true).run Tryz.prog w = .ok (.tuple #[.int .u32 0, .bool false]) w := fun _ _ => by kernel_rfl
  have ta1 : ∀ v w, (Instr.typeAssert (.iface 41 v) 20 3 true).run Tryz.prog w = .ok (.tuple #[.int .i64 0, .bool false]) w := fun _ _ => by kernel_rfl
  have ta2 : ∀ v w, (Instr.typeAssert (.iface 41 v) 20 38 true).run Tryz.prog w = .ok (.tuple #[.int .i8 0, .bool false]) w := fun _ _ => by kernel_rfl
  have ta3 : ∀ v w, (Instr.typeAssert (.iface 41 v) 20 39 true).run Tryz.prog w = .ok (.tuple #[.int .i16 0, .bool false]) w := fun _ _ => by kernel_rfl
  have ta4 : ∀ v w, (Instr.typeAssert (.iface 41 v) 20 21 true).run Tryz.prog w = .ok (.tuple #[.int .i32 0, .bool false]) w := fun _ _ => by kernel_rfl
  have ta5 : ∀ v w, (Instr.typeAssert (.iface 41 v) 20 2 true).run Tryz.prog w = .ok (.tuple #[.int .i64 0, .bool false]) w := fun _ _ => by kernel_rfl
  have ta6 : ∀ v w, (Instr.typeAssert (.iface 41 v) 20 37 true).run Tryz.prog w = .ok (.tuple #[.int .u64 0, .bool false]) w := fun _ _ => by kernel_rfl
  have ta7 : ∀ v w, (Instr.typeAssert (.iface 41 v) 20 5 true).run Tryz.prog w = .ok (.tuple #[.int .u8 0, .bool false]) w := fun _ _ => by kernel_rfl
  have ta8 : ∀ v w, (Instr.typeAssert (.iface 41 v) 20 41 true).run Tryz.prog w = .ok (.tuple #[v, .bool true]) w := fun _ _ => by kernel_rfl
  have C := Lib.hid (fun W => indirect_uint16 (.int .u16 n) W)
  have HN := Lib.hid hn
  clear hn
  go_enter Tryz.func82, Tryz.ntmps82
  go_wp2_with fail
  refine (C.out _).mono ?_
  rintro e w1 ⟨rfl, rfl⟩
  go_wp2_with fail
  have hn := HN.out
  refine bodyPost_ret (v := .tuple #[.int .u32 (n % 4294967296), .bool true, .bool true]) ?_ rfl ⟨rfl, rfl⟩
  first
    | (simp [results, Tryz.results82, go_sem]; done)
    | (simp [results, Tryz.results82, go_sem, wu8, wu16, wu32, wu64, wi8, wi16, wi32, wi64, wrap64, wrap32]; done)
    | (simp [results, Tryz.results82, go_sem, wu8, wu16, wu32, wu64, wi8, wi16, wi32, wi64, wrap64, wrap32]; omega)
    | (simp [results, Tryz.results82, go_sem]; omega)
theorem num_uint32_uint32 (n : Int) (hn : (0 ≤ n ∧ n < 4294967296)) (w : World) : Calls Tryz.prog 82 #[.iface 42 (.int .u32 n)] w fun e w' => e = .returned (.tuple #[.int .u32 (n % 4294967296), .bool true, .bool true]) ∧ w' = w := by
  have ta0 : ∀ v w, (Instr.typeAssert (.iface 42 v) 20 42 true).run Tryz.prog w = .ok (.tuple #[v, .bool true]) w := fun _ _ => by kernel_rfl
  have C := Lib.hid (fun W => indirect_uint32 (.int .u32 n) W)
  have HN := Lib.hid hn
  clear hn
  go_enter Tryz.func82, Tryz.ntmps82
  go_wp2_with fail
  refine (C.out _).mono ?_
  rintro e w1 ⟨rfl, rfl⟩
  go_wp2_with fail
  have hn := HN.out
  refine bodyPost_ret (v := .tuple #[.int .u32 (n % 4294967296), .bool true, .bool true]) ?_ rfl ⟨rfl, rfl⟩
  first
    | (simp [results, Tryz.results82, go_sem]; done)
    | (simp [results, Tryz.results82, go_sem, wu8, wu16, wu32, wu64, wi8, wi16, wi32, wi64, wrap64, wrap32]; done)
    | (simp [results, Tryz.results82, go_sem, wu8, wu16, wu32, wu64, wi8, wi16, wi32, wi64, wrap64, wrap32]; omega)
    | (simp [results, Tryz.results82, go_sem]; omega)
theorem num_uint32_uint64 (n : Int) (hn : (0 ≤ n ∧ n < 18446744073709551616)) (w : World) : Calls Tryz.prog 82 #[.iface 24 (.int .u64 n)] w fun e w' => e = .returned (.tuple #[.int .u32 (n % 4294967296), .bool true, .bool true]) ∧ w' = w := by
  have ta0 : ∀ v w, (Instr.typeAssert (.iface 24 v) 20 42 true).run Tryz.prog w = .ok (.tuple #[.int .u32 0, .bool false]) w := fun _ _ => by kernel_rfl
  have ta1 : ∀ v w, (Instr.typeAssert (.iface 24 v) 20 3 true).run Tryz.prog w = .ok (.tuple #[.int .i64 0, .bool false]) w := fun _ _ => by kernel_rfl
  have ta2 : ∀ v w, (Instr.typeAssert (.iface 24 v) 20 38 true).run Tryz.prog w = .ok (.tuple #[.int .i8 0, .bool false]) w := fun _ _ => by kernel_rfl
  have ta3 : ∀ v w, (Instr.typeAssert (.iface 24 v) 20 39 true).run Tryz.prog w = .ok (.tuple #[.int .i16 0, .bool false]) w := fun _ _ => by kernel_rfl
  have ta4 : ∀ v w, (Instr.typeAssert (.iface 24 v) 20 21 true).run Tryz.prog w = .ok (.tuple #[.int .i32 0, .bool false]) w := fun _ _ => by kernel_rfl
  have ta5 : ∀ v w, (Instr.typeAssert (.iface 24 v) 20 2 true).run Tryz.prog w = .ok (.tuple #[.int .i64 0, .bool false]) w := fun _ _ => by kernel_rfl
  have ta6 : ∀ v w, (Instr.typeAssert (.iface 24 v) 20 37 true).run Tryz.prog w = .ok (.tuple #[.int .u64 0, .bool false]) w := fun _ _ => by kernel_rfl
  have ta7 : ∀ v w, (Instr.typeAssert (.iface 24 v) 20 5 true).run Tryz.prog w = .ok (.tuple #[.int .u8 0, .bool false]) w := fun _ _ => by kernel_rfl
  have ta8 : ∀ v w, (Instr.typeAssert (.iface 24 v) 20 41 true).run Tryz.prog w = .ok (.tuple #[.int .u16 0, .bool false]) w := fun _ _ => by kernel_rfl
  have ta9 : ∀ v w, (Instr.typeAssert (.iface 24 v) 20 42 true).run Tryz.prog w = .ok (.tuple #[.int .u32 0, .bool false]) w := fun _ _ => by kernel_rfl
  have ta10 : ∀ v w, (Instr.typeAssert (.iface 24 v) 20 24 true).run Tryz.prog w = .ok (.tuple #[v, .bool true]) w := fun _ _ => by kernel_rfl
  have C := Lib.hid (fun W => indirect_uint64 (.int .u64 n) W)
  have HN := Lib.hid hn
  clear hn
  go_enter Tryz.func82, Tryz.ntmps82
  go_wp2_with fail
  refine (C.out _).mono ?_
  rintro e w1 ⟨rfl, rfl⟩
  go_wp2_with fail
  have hn := HN.out
  refine bodyPost_ret (v := .tuple #[.int .u32 (n % 4294967296), .bool true, .bool true]) ?_ rfl ⟨rfl, rfl⟩
  first
    | (simp [results, Tryz.results82, go_sem]; done)
    | (simp [results, Tryz.results82, go_sem, wu8, wu16, wu32, wu64, wi8, wi16, wi32, wi64, wrap64, wrap32]; done)
    | (simp [results, Tryz.results82, go_sem, wu8, wu16, wu32, wu64, wi8, wi16, wi32, wi64, wrap64, wrap32]; omega)
    | (simp [results, Tryz.results82, go_sem]; omega)
theorem cast_uint32 (vk vi vn vf vs vl vm x : Value) (y : Int) (hy : (0 ≤ y ∧ y < 18446744073709551616)) (hv : ∀ W, Calls Tryz.prog 22 #[.agg #[vk, vi, vn, vf, vs, vl, vm]] W fun e w' => e = .returned x ∧ Below W.heap.size W w')
    (hu : ∀ W, Calls Tryz.prog 82 #[x] W fun e w' => e = .returned (.tuple #[.int .u32 y, .bool true, .bool true]) ∧ w' = W) (w : World) :
    Calls Tryz.prog 10 #[.int .i64 10, .agg #[vk, vi, vn, vf, vs, vl, vm]] w fun e w' => e = .returned (.tuple #[.int .u64 y, .bool true]) ∧ Below w.heap.size w w' := by
  have E1 : ∀ f W, Calls Tryz.prog 62 #[x, f] W fun e w' => e = .returned (.tuple #[.int .u32 y, .nilIface]) ∧ w' = W := by
    intro f W
    have HU := Lib.hid hu
    clear hu hv hy
    go_enter Tryz.func62, Tryz.ntmps62
    go_wp2_with fail
    refine (HU.out _).mono ?_
    rintro e w1 ⟨rfl, rfl⟩
    go_wp2_with fail
    exact bodyPost_ret (v := .tuple #[.int .u32 y, .nilIface]) (by simp [results, Tryz.results62, go_sem]) rfl ⟨rfl, rfl⟩
  have E2 : ∀ W, Calls Tryz.prog 29 #[x] W fun e w' => e = .returned (.tuple #[.int .u32 y, .nilIface]) ∧ w' = W := by
    intro W
    have HU := Lib.hid E1
    clear hu hv hy E1
    go_enter Tryz.func29, Tryz.ntmps29
    go_wp2_with fail
    refine (HU.out _ _).mono ?_
    rintro e w1 ⟨rfl, rfl⟩
    go_wp2_with fail
    exact bodyPost_ret (v := .tuple #[.int .u32 y, .nilIface]) (by simp [results, Tryz.results29, go_sem]) rfl ⟨rfl, rfl⟩
  have E3 : ∀ W, Calls Tryz.prog 18 #[.agg #[vk, vi, vn, vf, vs, vl, vm]] W fun e w' => e = .returned (.tuple #[.int .u64 y, .bool true]) ∧ Below W.heap.size W w' := by
    intro W
    have hn0 : ∀ w, Sem.run Tryz.prog (binOp BinOp.eql 45 Value.nilIface Value.nilIface) w = .ok (.bool true) w := fun _ => by kernel_rfl
    have HU := Lib.hid E2
    have HV := Lib.hid hv
    have HY := Lib.hid hy
    clear hu hv hy E1 E2
    go_enter Tryz.func18, Tryz.ntmps18
    go_wp2_with fail
    refine (HV.out _).mono ?_
    rintro e w1 ⟨rfl, hb1⟩
    go_wp2_with fail
    refine (HU.out _).mono ?_
    rintro e w2 ⟨rfl, rfl⟩
    go_wp2_with fail
    go_quiet (fail)
    go_wp2_with fail
    have hy := HY.out
    refine bodyPost_ret (v := .tuple #[.int .u64 y, .bool true]) ?_ rfl ⟨rfl, Below.drewN' (Below.after ((Below.refl _ _).alloc (Nat.le_refl _) _) hb1)⟩
    first
      | (simp [results, Tryz.results18, go_sem]; done)
      | (simp [results, Tryz.results18, go_sem, wu8, wu16, wu32, wu64, wi8, wi16, wi32, wi64, wrap64, wrap32]; omega)
      | (simp [results, Tryz.results18, go_sem]; omega)
  have HU := Lib.hid E3
  clear hu hv hy E1 E2 E3
  go_enter Tryz.func10, Tryz.ntmps10
  go_wp2_with fail
  refine (HU.out _).mono ?_
  rintro e w1 ⟨rfl, hb1⟩
  go_wp2_with fail
  exact bodyPost_ret (v := .tuple #[.int .u64 y, .bool true]) (by simp [results, Tryz.results10, go_sem]) rfl ⟨rfl, Below.after ((Below.refl _ _).alloc (Nat.le_refl _) _) hb1⟩
theorem cut_uint32 (n : Int) (hn : (0 ≤ n ∧ n < 18446744073709551616)) (w : World) : Calls Tryz.prog 9 #[.int .i64 10, .int .u64 n] w fun e w' => e = .returned (.int .u64 (n % 4294967296)) ∧ w' = w := by
  have HN := Lib.hid hn
  clear hn
  go_enter Tryz.func9, Tryz.ntmps9
  go_wp2_with fail
  have hn := HN.out
  go_ret
  refine ⟨?_, rfl⟩
  first
    | rfl
    | (refine congrArg (fun z => Ending.returned (Value.int IntKind.u64 z)) ?_; first | omega | (simp only [wu8, wu16, wu32, wu64, wi8, wi16, wi32, wi64, wrap64, wrap32]; omega))
theorem num_uint64_uint (n : Int) (hn : (0 ≤ n ∧ n < 18446744073709551616)) (w : World) : Calls Tryz.prog 83 #[.iface 37 (.int .u64 n)] w fun e w' => e = .returned (.tuple #[.int .u64 (n), .bool true, .bool true]) ∧ w' = w := by
  have ta0 : ∀ v w, (Instr.typeAssert (.iface 37 v) 20 24 true).run Tryz.prog w = .ok (.tuple #[.int .u64 0, .bool false]) w := fun _ _ => by kernel_rfl
  have ta1 : ∀ v w, (Instr.typeAssert (.iface 37 v) 20 3 true).run Tryz.prog w = .ok (.tuple #[.int .i64 0, .bool false]) w := fun _ _ => by kernel_rfl
  have ta2 : ∀ v w, (Instr.typeAssert (.iface 37 v) 20 38 true).run Tryz.prog w = .ok (.tuple #[.int .i8 0, .bool false]) w := fun _ _ => by kernel_rfl
  have ta3 : ∀ v w, (Instr.typeAssert (.iface 37 v) 20 39 true).run Tryz.prog w = .ok (.tuple #[.int .i16 0, .bool false]) w := fun _ _ => by kernel_rfl
  have ta4 : ∀ v w, (Instr.typeAssert (.iface 37 v) 20 21 true).run Tryz.prog w = .ok (.tuple #[.int .i32 0, .bool false]) w := fun _ _ => by kernel_rfl
  have ta5 : ∀ v w, (Instr.typeAssert (.iface 37 v) 20 2 true).run Tryz.prog w = .ok (.tuple #[.int .i64 0, .bool false]) w := fun _ _ => by kernel_rfl
  have ta6 : ∀ v w, (Instr.typeAssert (.iface 37 v) 20 37 true).run Tryz.prog w = .ok (.tuple #[v, .bool true]) w := fun _ _ => by kernel_rfl
  have C := Lib.hid (fun W => indirect_uint (.int .u64 n) W)
  have HN := Lib.hid hn
  clear hn
  go_enter Tryz.func83, Tryz.ntmps83
  go_wp2_with fail
  refine (C.out _).mono ?_
  rintro e w1 ⟨rfl, rfl⟩
  go_wp2_with fail
  have hn := HN.out
  refine bodyPost_ret (v := .tuple #[.int .u64 (n), .bool true, .bool true]) ?_ rfl ⟨rfl, rfl⟩
  first
    | (simp [results, Tryz.results83, go_sem]; done)
    | (simp [results, Tryz.results83, go_sem, wu8, wu16, wu32, wu64, wi8, wi16, wi32, wi64, wrap64, wrap32]; done)
    | (simp [results, Tryz.results83, go_sem, wu8, wu16, wu32, wu64, wi8, wi16, wi32, wi64, wrap64, wrap32]; omega)
    | (simp [results, Tryz.results83, go_sem]; omega)
theorem num_uint64_uint8 (n : Int) (hn : (0 ≤ n ∧ n < 256)) (w : World) : Calls Tryz.prog 83 #[.iface 5 (.int .u8 n)] w fun e w' => e = .returned (.tuple #[.int .u64 (n), .bool true, .bool true]) ∧ w' = w := by
  have ta0 : ∀ v w, (Instr.typeAssert (.iface 5 v) 20 24 true).run Tryz.prog w = .ok (.tuple #[.int .u64 0, .bool false]) w := fun _ _ => by kernel_rfl
  have ta1 : ∀ v w, (Instr.typeAssert (.iface 5 v) 20 3 true).run Tryz.prog w = .ok (.tuple #[.int .i64 0, .bool false]) w := fun _ _ => by kernel_rfl
  have ta2 : ∀ v w, (Instr.typeAssert (.iface 5 v) 20 38 true).run Tryz.prog w = .ok (.tuple #[.int .i8 0, .bool false]) w := fun _ _ => by kernel_rfl
  have ta3 : ∀ v w, (Instr.typeAssert (.iface 5 v) 20 39 true).run Tryz.prog w = .ok (.tuple #[.int .i16 0, .bool false]) w := fun _ _ => by kernel_rfl
  have ta4 : ∀ v w, (Instr.typeAssert (.iface 5 v) 20 21 true).run Tryz.prog w = .ok (.tuple #[.int .i32 0, .bool false]) w := fun _ _ => by kernel_rfl
  have ta5 : ∀ v w, (Instr.typeAssert (.iface 5 v) 20 2 true).run Tryz.prog w = .ok (.tuple #[.int .i64 0, .bool false]) w := fun _ _ => by kernel_rfl
  have ta6 : ∀ v w, (Instr.typeAssert (.iface 5 v) 20 37 true).run Tryz.prog w = .ok (.tuple #[.int .u64 0, .bool false]) w := fun _ _ => by kernel_rfl
  have ta7 : ∀ v w, (Instr.typeAssert (.iface 5 v) 20 5 true).run Tryz.prog w = .ok (.tuple #[v, .bool true]) w := fun _ _ => by kernel_rfl
  have C := Lib.hid (fun W => indirect_uint8 (.int .u8 n) W)
  have HN := Lib.hid hn
  clear hn
  go_enter Tryz.func83, Tryz.ntmps83
  go_wp2_with fail
  refine (C.out _).mono ?_
  rintro e w1 ⟨rfl, rfl⟩
  go_wp2_with fail
  have hn := HN.out
  refine bodyPost_ret (v := .tuple #[.int .u64 (n), .bool true, .bool true]) ?_ rfl ⟨rfl, rfl⟩
  first
    | (simp [results, Tryz.results83, go_sem]; done)
    | (simp [results, Tryz.results83, go_sem, wu8, wu16, wu32, wu64, wi8, wi16, wi32, wi64, wrap64, wrap32]; done)
    | (simp [results, Tryz.results83, go_sem, wu8, wu16, wu32, wu64, wi8, wi16, wi32, wi64, wrap64, wrap32]; omega)
    | (simp [results, Tryz.results83, go_sem]; omega)
theorem num_uint64_uint16 (n : Int) (hn : (0 ≤ n ∧ n < 65536)) (w : World) : Calls Tryz.prog 83 #[.iface 41 (.int .u16 n)] w fun e w' => e = .returned (.tuple #[.int .u64 (n), .bool true, .bool true]) ∧ w' = w := by
  have ta0 : ∀ v w, (Instr.typeAssert (.iface 41 v) 20 24 true).run Tryz.prog w = .ok (.tuple #[.int .u64 0, .bool false]) w := fun _ _ => by kernel_rfl
  have ta1 : ∀ v w, (Instr.typeAssert (.iface 41 v) 20 3 true).run Tryz.prog w = .ok (.tuple #[.int .i64 0, .bool false]) w := fun _ _ => by kernel_rfl
  have ta2 : ∀ v w, (Instr.typeAssert (.iface 41 v) 20 38 true).run Tryz.prog w = .ok (.tuple #[.int .i8 0, .bool false]) w := fun _ _ => by kernel_rfl
  have ta3 : ∀ v w, (Instr.typeAssert (.iface 41 v) 20 39 true).run Tryz.prog w = .ok (.tuple #[.int .i16 0, .bool false]) w := fun _ _ => by kernel_rfl
  have ta4 : ∀ v w, (Instr.typeAssert (.iface 41 v) 20 21 true).run Tryz.prog w = .ok (.tuple #[.int .i32 0, .bool false]) w := fun _ _ => by kernel_rfl
  have ta5 : ∀ v w, (Instr.typeAssert (.iface 41 v) 20 2 true).run Tryz.prog w = .ok (.tuple #[.int .i64 0, .bool false]) w := fun _ _ => by kernel_rfl
  have ta6 : ∀ v w, (Instr.typeAssert (.iface 41 v) 20 37 true).run Tryz.prog w = .ok (.tuple #[.int .u64 0, .bool false]) w := fun _ _ => by kernel_rfl
  have ta7 : ∀ v w, (Instr.typeAssert (.iface 41 v) 20 5 true).run Tryz.prog w = .ok (.tuple #[.int .u8 0, .bool false]) w := fun _ _ => by kernel_rfl
  have ta8 : ∀ v w, (Instr.typeAssert (.iface 41 v) 20 41 true).run Tryz.prog w = .ok (.tuple #[v, .bool true]) w := fun _ _ => by kernel_rfl
  have C := Lib.hid (fun W => indirect_uint16 (.int .u16 n) W)
  have HN := Lib.hid hn
  clear hn
  go_enter Tryz.func83, Tryz.ntmps83
  go_wp2_with fail
  refine (C.out _).mono ?_
  rintro e w1 ⟨rfl, rfl⟩
  go_wp2_with fail
  have hn := HN.out
  refine bodyPost_ret (v := .tuple #[.int .u64 (n), .bool true, .bool true]) ?_ rfl ⟨rfl, rfl⟩
  first
    | (simp [results, Tryz.results83, go_sem]; done)
    | (simp [results, Tryz.results83, go_sem, wu8, wu16, wu32, wu64, wi8, wi16, wi32, wi64, wrap64, wrap32]; done)
    | (simp [results, Tryz.results83, go_sem, wu8, wu16, wu32, wu64, wi8, wi16, wi32, wi64, wrap64, wrap32]; omega)
    | (simp [results, Tryz.results83, go_sem]; omega)
theorem num_uint64_uint32 (n : Int) (hn : (0 ≤ n ∧ n < 4294967296)) (w : World) : Calls Tryz.prog 83 #[.iface 42 (.int .u32 n)] w fun e w' => e = .returned (.tuple #[.int .u64 (n), .bool true, .bool true]) ∧ w' = w := by
  have ta0 : ∀ v w, (Instr.typeAssert (.iface 42 v) 20 24 true).run Tryz.prog w = .ok (.tuple #[.int .u64 0, .bool false]) w := fun _ _ => by kernel_rfl
  have ta1 : ∀ v w, (Instr.typeAssert (.iface 42 v) 20 3 true).run Tryz.prog w = .ok (.tuple #[.int .i64 0, .bool false]) w := fun _ _ => by kernel_rfl
  have ta2 : ∀ v w, (Instr.typeAssert (.iface 42 v) 20 38 true).run Tryz.prog w = .ok (.tuple #[.int .i8 0, .bool false]) w := fun _ _ => by kernel_rfl
  have ta3 : ∀ v w, (Instr.typeAssert (.iface 42 v) 20 39 true).run Tryz.prog w = .ok (.tuple #[.int .i16 0, .bool false]) w := fun _ _ => by kernel_rfl
  have ta4 : ∀ v w, (Instr.typeAssert (.iface 42 v) 20 21 true).run Tryz.prog w = .ok (.tuple #[.int .i32 0, .bool false]) w := fun _ _ => by kernel_rfl
  have ta5 : ∀ v w, (Instr.typeAssert (.iface 42 v) 20 2 true).run Tryz.prog w = .ok (.tuple #[.int .i64 0, .bool false]) w := fun _ _ => by kernel_rfl
  have ta6 : ∀ v w, (Instr.typeAssert (.iface 42 v) 20 37 true).run Tryz.prog w = .ok (.tuple #[.int .u64 0, .bool false]) w := fun _ _ => by kernel_rfl
  have ta7 : ∀ v w, (Instr.typeAssert (.iface 42 v) 20 5 true).run Tryz.prog w = .ok (.tuple #[.int .u8 0, .bool false]) w := fun _ _ => by kernel_rfl
  have ta8 : ∀ v w, (Instr.typeAssert (.iface 42 v) 20 41 true).run Tryz.prog w = .ok (.tuple #[.int .u16 0, .bool false]) w := fun _ _ => by kernel_rfl
  have ta9 : ∀ v w, (Instr.typeAssert (.iface 42 v) 20 42 true).run Tryz.prog w = .ok (.tuple #[v, .bool true]) w := fun _ _ => by kernel_rfl
  have C := Lib.hid (fun W => indirect_uint32 (.int .u32 n) W)
  have HN := Lib.hid hn
  clear hn
  go_enter Tryz.func83, Tryz.ntmps83
  go_wp2_with fail
  refine (C.out _).mono ?_
  rintro e w1 ⟨rfl, rfl⟩
  go_wp2_with fail
  have hn := HN.out
  refine bodyPost_ret (v := .tuple #[.int .u64 (n), .bool true, .bool true]) ?_ rfl ⟨rfl, rfl⟩
  first
    | (simp [results, Tryz.results83, go_sem]; done)
    | (simp [results, Tryz.results83, go_sem, wu8, wu16, wu32, wu64, wi8, wi16, wi32, wi64, wrap64, wrap32]; done)
    | (simp [results, Tryz.results83, go_sem, wu8, wu16, wu32, wu64, wi8, wi16, wi32, wi64, wrap64, wrap32]; omega)
    | (simp [results, Tryz.results83, go_sem]; omega)
theorem num_uint64_uint64 (n : Int) (hn : (0 ≤ n ∧ n < 18446744073709551616)) (w : World) : Calls Tryz.prog 83 #[.iface 24 (.int .u64 n)] w fun e w' => e = .returned (.tuple #[.int .u64 (n), .bool true, .bool true]) ∧ w' = w := by
  have ta0 : ∀ v w, (Instr.typeAssert (.iface 24 v) 20 24 true).run Tryz.prog w = .ok (.tuple #[v, .bool true]) w := fun _ _ => by kernel_rfl
  have C := Lib.hid (fun W => indirect_uint64 (.int .u64 n) W)
  have HN := Lib.hid hn
  clear hn
  go_enter Tryz.func83, Tryz.ntmps83
  go_wp2_with fail
  refine (C.out _).mono ?_
  rintro e w1 ⟨rfl, rfl⟩
  go_wp2_with fail
  have hn := HN.out
  refine bodyPost_ret (v := .tuple #[.int .u64 (n), .bool true, .bool true]) ?_ rfl ⟨rfl, rfl⟩
  first
    | (simp [results, Tryz.results83, go_sem]; done)
    | (simp [results, Tryz.results83, go_sem, wu8, wu16, wu32, wu64, wi8, wi16, wi32, wi64, wrap64, wrap32]; done)
    | (simp [results, Tryz.results83, go_sem, wu8, wu16, wu32, wu64, wi8, wi16, wi32, wi64, wrap64, wrap32]; omega)
    | (simp [results, Tryz.results83, go_sem]; omega)
theorem cast_uint64 (vk vi vn vf vs vl vm x : Value) (y : Int) (hy : (0 ≤ y ∧ y < 18446744073709551616)) (hv : ∀ W, Calls Tryz.prog 22 #[.agg #[vk, vi, vn, vf, vs, vl, vm]] W fun e w' => e = .returned x ∧ Below W.heap.size W w')
    (hu : ∀ W, Calls Tryz.prog 83 #[x] W fun e w' => e = .returned (.tuple #[.int .u64 y, .bool true, .bool true]) ∧ w' = W) (w : World) :
    Calls Tryz.prog 10 #[.int .i64 11, .agg #[vk, vi, vn, vf, vs, vl, vm]] w fun e w' => e = .returned (.tuple #[.int .u64 y, .bool true]) ∧ Below w.heap.size w w' := by
  have E1 : ∀ f W, Calls Tryz.prog 64 #[x, f] W fun e w' => e = .returned (.tuple #[.int .u64 y, .nilIface]) ∧ w' = W := by
    intro f W
    have HU := Lib.hid hu
    clear hu hv hy
    go_enter Tryz.func64, Tryz.ntmps64
    go_wp2_with fail
    refine (HU.out _).mono ?_
    rintro e w1 ⟨rfl, rfl⟩
    go_wp2_with fail
    exact bodyPost_ret (v := .tuple #[.int .u64 y, .nilIface]) (by simp [results, Tryz.results64, go_sem]) rfl ⟨rfl, rfl⟩
  have E2 : ∀ W, Calls Tryz.prog 30 #[x] W fun e w' => e = .returned (.tuple #[.int .u64 y, .nilIface]) ∧ w' = W := by
    intro W
    have HU := Lib.hid E1
    clear hu hv hy E1
    go_enter Tryz.func30, Tryz.ntmps30
    go_wp2_with fail
    refine (HU.out _ _).mono ?_
    rintro e w1 ⟨rfl, rfl⟩
    go_wp2_with fail
    exact bodyPost_ret (v := .tuple #[.int .u64 y, .nilIface]) (by simp [results, Tryz.results30, go_sem]) rfl ⟨rfl, rfl⟩
  have E3 : ∀ W, Calls Tryz.prog 19 #[.agg #[vk, vi, vn, vf, vs, vl, vm]] W fun e w' => e = .returned (.tuple #[.int .u64 y, .bool true]) ∧ Below W.heap.size W w' := by
    intro W
    have hn0 : ∀ w, Sem.run Tryz.prog (binOp BinOp.eql 45 Value.nilIface Value.nilIface) w = .ok (.bool true) w := fun _ => by kernel_rfl
    have HU := Lib.hid E2
    have HV := Lib.hid hv
    have HY := Lib.hid hy
    clear hu hv hy E1 E2
    go_enter Tryz.func19, Tryz.ntmps19
    go_wp2_with fail
    refine (HV.out _).mono ?_
    rintro e w1 ⟨rfl, hb1⟩
    go_wp2_with fail
    refine (HU.out _).mono ?_
    rintro e w2 ⟨rfl, rfl⟩
    go_wp2_with fail
    go_quiet (fail)
    go_wp2_with fail
    have hy := HY.out
    refine bodyPost_ret (v := .tuple #[.int .u64 y, .bool true]) ?_ rfl ⟨rfl, Below.drewN' (Below.after ((Below.refl _ _).alloc (Nat.le_refl _) _) hb1)⟩
    first
      | (simp [results, Tryz.results19, go_sem]; done)
      | (simp [results, Tryz.results19, go_sem, wu8, wu16, wu32, wu64, wi8, wi16, wi32, wi64, wrap64, wrap32]; omega)
      | (simp [results, Tryz.results19, go_sem]; omega)
  have HU := Lib.hid E3
  clear hu hv hy E1 E2 E3
  go_enter Tryz.func10, Tryz.ntmps10
  go_wp2_with fail
  refine (HU.out _).mono ?_
  rintro e w1 ⟨rfl, hb1⟩
  go_wp2_with fail
  exact bodyPost_ret (v := .tuple #[.int .u64 y, .bool true]) (by simp [results, Tryz.results10, go_sem]) rfl ⟨rfl, Below.after ((Below.refl _ _).alloc (Nat.le_refl _) _) hb1⟩
theorem cut_uint64 (n : Int) (hn : (0 ≤ n ∧ n < 18446744073709551616)) (w : World) : Calls Tryz.prog 9 #[.int .i64 11, .int .u64 n] w fun e w' => e = .returned (.int .u64 (n)) ∧ w' = w := by
  have HN := Lib.hid hn
  clear hn
  go_enter Tryz.func9, Tryz.ntmps9
  go_wp2_with fail
  have hn := HN.out
  go_ret
  refine ⟨?_, rfl⟩
  first
    | rfl
    | (refine congrArg (fun z => Ending.returned (Value.int IntKind.u64 z)) ?_; first | omega | (simp only [wu8, wu16, wu32, wu64, wi8, wi16, wi32, wi64, wrap64, wrap32]; omega))
end Go.Proofs.YtnnfdlhedggkmaaGreatDoor
