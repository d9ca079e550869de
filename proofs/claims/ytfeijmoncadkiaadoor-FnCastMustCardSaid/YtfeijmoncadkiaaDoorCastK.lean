/- Values of plain kinds. (Printed by gen_plain.py.) -/
import Derived.Test.YtfeijmoncadkiaaDoorH
import Derived.WalkKit
import Derived.KernelRfl
import Derived.RowKit3
import Derived.Deep.QuietTactic
import Derived.BigQuiet
import Derived.Lib.Hide
import Derived.Deep.DeepFit
import Derived.WalkSpells
import Derived.WalkLawsBesides
import Derived.Laws.FloatArith
import Derived.Laws.Cover2
namespace Go.Proofs.YtfeijmoncadkiaaDoor
open Go.RowKit
set_option linter.unusedVariables false
set_option linter.unusedSimpArgs false

theorem wu8 (n : Int) : IntKind.u8.wrap n = n % 256 := by simp [IntKind.wrap, IntKind.bits, IntKind.signed]
theorem wu16 (n : Int) : IntKind.u16.wrap n = n % 65536 := by simp [IntKind.wrap, IntKind.bits, IntKind.signed]
theorem wu32 (n : Int) : IntKind.u32.wrap n = n % 4294967296 := by simp [IntKind.wrap, IntKind.bits, IntKind.signed]
theorem wu64 (n : Int) : IntKind.u64.wrap n = n % 18446744073709551616 := by simp [IntKind.wrap, IntKind.bits, IntKind.signed]
theorem wi8 (n : Int) : IntKind.i8.wrap n = (n + 128) % 256 - 128 := by
  simp only [IntKind.wrap, IntKind.bits, IntKind.signed]
  simp
  try split
  all_goals omega
theorem wi16 (n : Int) : IntKind.i16.wrap n = (n + 32768) % 65536 - 32768 := by
  simp only [IntKind.wrap, IntKind.bits, IntKind.signed]
  simp
  try split
  all_goals omega
theorem wi32 (n : Int) : IntKind.i32.wrap n = (n + 2147483648) % 4294967296 - 2147483648 := by
  simp only [IntKind.wrap, IntKind.bits, IntKind.signed]
  simp
  try split
  all_goals omega
theorem wi64 (n : Int) : IntKind.i64.wrap n = (n + 9223372036854775808) % 18446744073709551616 - 9223372036854775808 := by
  simp only [IntKind.wrap, IntKind.bits, IntKind.signed]
  simp
  try split
  all_goals omega
theorem indirect_nil (w : World) : Calls Tryd.prog 48 #[.nilIface] w fun e w' => e = .returned (.tuple #[.nilIface, .bool false]) ∧ w' = w := by
  have ta0 : ∀ w, (Instr.typeAssert .nilIface 20 79 true).run Tryd.prog w = .ok (.tuple #[.pointer none, .bool false]) w := fun _ => by kernel_rfl
  have ta1 : ∀ w, (Instr.typeAssert .nilIface 20 80 true).run Tryd.prog w = .ok (.tuple #[.pointer none, .bool false]) w := fun _ => by kernel_rfl
  go_enter Tryd.func48, Tryd.ntmps48
  go_wp2_with fail
  exact bodyPost_ret (v := .tuple #[.nilIface, .bool false]) (by simp [results, Tryd.results48, go_sem]) rfl ⟨rfl, rfl⟩
theorem value_nil (i u : Int) (b : Nat) (s : ByteArray) (vl vm : Value)  (w : World) : Calls Tryd.prog 15 #[.agg #[.int .i64 0, .int .i64 i, .int .u64 u, .float .f64 b, .string s, vl, vm]] w fun e w' => e = .returned (.nilIface) ∧ Below w.heap.size w w' := by
  go_enter Tryd.func15, Tryd.ntmps15
  go_wp2_with fail
  go_ret
  refine ⟨?_, (Below.refl _ _).alloc (Nat.le_refl _) _⟩
  first
    | rfl
    | (refine congrArg (fun z => Ending.returned (Value.iface 4 (Value.int IntKind.u8 z))) ?_; first | omega | (simp only [wu8, wu16, wu32, wu64, wi8, wi16, wi32, wi64]; done) | (simp only [wu8, wu16, wu32, wu64, wi8, wi16, wi32, wi64]; omega) | (simp only [wrap32, wrap64]; done) | (simp only [wrap32, wrap64]; omega))
theorem indirect_bool (v : Value) (w : World) : Calls Tryd.prog 48 #[.iface 4 v] w fun e w' => e = .returned (.tuple #[.iface 4 v, .bool false]) ∧ w' = w := by
  have ta0 : ∀ v w, (Instr.typeAssert (.iface 4 v) 20 79 true).run Tryd.prog w = .ok (.tuple #[.pointer none, .bool false]) w := fun _ _ => by kernel_rfl
  have ta1 : ∀ v w, (Instr.typeAssert (.iface 4 v) 20 80 true).run Tryd.prog w = .ok (.tuple #[.pointer none, .bool false]) w := fun _ _ => by kernel_rfl
  go_enter Tryd.func48, Tryd.ntmps48
  go_wp2_with fail
  exact bodyPost_ret (v := .tuple #[.iface 4 v, .bool false]) (by simp [results, Tryd.results48, go_sem]) rfl ⟨rfl, rfl⟩
theorem value_bool (i u : Int) (b : Nat) (s : ByteArray) (vl vm : Value)  (w : World) : Calls Tryd.prog 15 #[.agg #[.int .i64 1, .int .i64 i, .int .u64 u, .float .f64 b, .string s, vl, vm]] w fun e w' => e = .returned (.iface 4 (.bool (i != 0))) ∧ Below w.heap.size w w' := by
  go_enter Tryd.func15, Tryd.ntmps15
  go_wp2_with fail
  go_ret
  refine ⟨?_, (Below.refl _ _).alloc (Nat.le_refl _) _⟩
  first
    | rfl
    | (refine congrArg (fun z => Ending.returned (Value.iface 4 (Value.int IntKind.u8 z))) ?_; first | omega | (simp only [wu8, wu16, wu32, wu64, wi8, wi16, wi32, wi64]; done) | (simp only [wu8, wu16, wu32, wu64, wi8, wi16, wi32, wi64]; omega) | (simp only [wrap32, wrap64]; done) | (simp only [wrap32, wrap64]; omega))
theorem indirect_int (v : Value) (w : World) : Calls Tryd.prog 48 #[.iface 3 v] w fun e w' => e = .returned (.tuple #[.iface 3 v, .bool false]) ∧ w' = w := by
  have ta0 : ∀ v w, (Instr.typeAssert (.iface 3 v) 20 79 true).run Tryd.prog w = .ok (.tuple #[.pointer none, .bool false]) w := fun _ _ => by kernel_rfl
  have ta1 : ∀ v w, (Instr.typeAssert (.iface 3 v) 20 80 true).run Tryd.prog w = .ok (.tuple #[.pointer none, .bool false]) w := fun _ _ => by kernel_rfl
  go_enter Tryd.func48, Tryd.ntmps48
  go_wp2_with fail
  exact bodyPost_ret (v := .tuple #[.iface 3 v, .bool false]) (by simp [results, Tryd.results48, go_sem]) rfl ⟨rfl, rfl⟩
theorem value_int (i u : Int) (b : Nat) (s : ByteArray) (vl vm : Value) (hi : (-9223372036854775808 ≤ i ∧ i < 9223372036854775808)) (w : World) : Calls Tryd.prog 15 #[.agg #[.int .i64 2, .int .i64 i, .int .u64 u, .float .f64 b, .string s, vl, vm]] w fun e w' => e = .returned (.iface 3 (.int .i64 (i))) ∧ Below w.heap.size w w' := by
  go_enter Tryd.func15, Tryd.ntmps15
  go_wp2_with fail
  go_ret
  refine ⟨?_, (Below.refl _ _).alloc (Nat.le_refl _) _⟩
  first
    | rfl
    | (refine congrArg (fun z => Ending.returned (Value.iface 3 (Value.int IntKind.i64 z))) ?_; first | omega | (simp only [wu8, wu16, wu32, wu64, wi8, wi16, wi32, wi64]; done) | (simp only [wu8, wu16, wu32, wu64, wi8, wi16, wi32, wi64]; omega) | (simp only [wrap32, wrap64]; done) | (simp only [wrap32, wrap64]; omega))
theorem indirect_int8 (v : Value) (w : World) : Calls Tryd.prog 48 #[.iface 52 v] w fun e w' => e = .returned (.tuple #[.iface 52 v, .bool false]) ∧ w' = w := by
  have ta0 : ∀ v w, (Instr.typeAssert (.iface 52 v) 20 79 true).run Tryd.prog w = .ok (.tuple #[.pointer none, .bool false]) w := fun _ _ => by kernel_rfl
  have ta1 : ∀ v w, (Instr.typeAssert (.iface 52 v) 20 80 true).run Tryd.prog w = .ok (.tuple #[.pointer none, .bool false]) w := fun _ _ => by kernel_rfl
  go_enter Tryd.func48, Tryd.ntmps48
  go_wp2_with fail
  exact bodyPost_ret (v := .tuple #[.iface 52 v, .bool false]) (by simp [results, Tryd.results48, go_sem]) rfl ⟨rfl, rfl⟩
theorem value_int8 (i u : Int) (b : Nat) (s : ByteArray) (vl vm : Value) (hi : (-9223372036854775808 ≤ i ∧ i < 9223372036854775808)) (w : World) : Calls Tryd.prog 15 #[.agg #[.int .i64 3, .int .i64 i, .int .u64 u, .float .f64 b, .string s, vl, vm]] w fun e w' => e = .returned (.iface 52 (.int .i8 ((i + 128) % 256 - 128))) ∧ Below w.heap.size w w' := by
  go_enter Tryd.func15, Tryd.ntmps15
  go_wp2_with fail
  go_ret
  refine ⟨?_, (Below.refl _ _).alloc (Nat.le_refl _) _⟩
  first
    | rfl
    | (refine congrArg (fun z => Ending.returned (Value.iface 52 (Value.int IntKind.i8 z))) ?_; first | omega | (simp only [wu8, wu16, wu32, wu64, wi8, wi16, wi32, wi64]; done) | (simp only [wu8, wu16, wu32, wu64, wi8, wi16, wi32, wi64]; omega) | (simp only [wrap32, wrap64]; done) | (simp only [wrap32, wrap64]; omega))
theorem indirect_int16 (v : Value) (w : World) : Calls Tryd.prog 48 #[.iface 53 v] w fun e w' => e = .returned (.tuple #[.iface 53 v, .bool false]) ∧ w' = w := by
  have ta0 : ∀ v w, (Instr.typeAssert (.iface 53 v) 20 79 true).run Tryd.prog w = .ok (.tuple #[.pointer none, .bool false]) w := fun _ _ => by kernel_rfl
  have ta1 : ∀ v w, (Instr.typeAssert (.iface 53 v) 20 80 true).run Tryd.prog w = .ok (.tuple #[.pointer none, .bool false]) w := fun _ _ => by kernel_rfl
  go_enter Tryd.func48, Tryd.ntmps48
  go_wp2_with fail
  exact bodyPost_ret (v := .tuple #[.iface 53 v, .bool false]) (by simp [results, Tryd.results48, go_sem]) rfl ⟨rfl, rfl⟩
theorem value_int16 (i u : Int) (b : Nat) (s : ByteArray) (vl vm : Value) (hi : (-9223372036854775808 ≤ i ∧ i < 9223372036854775808)) (w : World) : Calls Tryd.prog 15 #[.agg #[.int .i64 4, .int .i64 i, .int .u64 u, .float .f64 b, .string s, vl, vm]] w fun e w' => e = .returned (.iface 53 (.int .i16 ((i + 32768) % 65536 - 32768))) ∧ Below w.heap.size w w' := by
  go_enter Tryd.func15, Tryd.ntmps15
  go_wp2_with fail
  go_ret
  refine ⟨?_, (Below.refl _ _).alloc (Nat.le_refl _) _⟩
  first
    | rfl
    | (refine congrArg (fun z => Ending.returned (Value.iface 53 (Value.int IntKind.i16 z))) ?_; first | omega | (simp only [wu8, wu16, wu32, wu64, wi8, wi16, wi32, wi64]; done) | (simp only [wu8, wu16, wu32, wu64, wi8, wi16, wi32, wi64]; omega) | (simp only [wrap32, wrap64]; done) | (simp only [wrap32, wrap64]; omega))
theorem indirect_int32 (v : Value) (w : World) : Calls Tryd.prog 48 #[.iface 21 v] w fun e w' => e = .returned (.tuple #[.iface 21 v, .bool false]) ∧ w' = w := by
  have ta0 : ∀ v w, (Instr.typeAssert (.iface 21 v) 20 79 true).run Tryd.prog w = .ok (.tuple #[.pointer none, .bool false]) w := fun _ _ => by kernel_rfl
  have ta1 : ∀ v w, (Instr.typeAssert (.iface 21 v) 20 80 true).run Tryd.prog w = .ok (.tuple #[.pointer none, .bool false]) w := fun _ _ => by kernel_rfl
  go_enter Tryd.func48, Tryd.ntmps48
  go_wp2_with fail
  exact bodyPost_ret (v := .tuple #[.iface 21 v, .bool false]) (by simp [results, Tryd.results48, go_sem]) rfl ⟨rfl, rfl⟩
theorem value_int32 (i u : Int) (b : Nat) (s : ByteArray) (vl vm : Value) (hi : (-9223372036854775808 ≤ i ∧ i < 9223372036854775808)) (w : World) : Calls Tryd.prog 15 #[.agg #[.int .i64 5, .int .i64 i, .int .u64 u, .float .f64 b, .string s, vl, vm]] w fun e w' => e = .returned (.iface 21 (.int .i32 ((i + 2147483648) % 4294967296 - 2147483648))) ∧ Below w.heap.size w w' := by
  go_enter Tryd.func15, Tryd.ntmps15
  go_wp2_with fail
  go_ret
  refine ⟨?_, (Below.refl _ _).alloc (Nat.le_refl _) _⟩
  first
    | rfl
    | (refine congrArg (fun z => Ending.returned (Value.iface 21 (Value.int IntKind.i32 z))) ?_; first | omega | (simp only [wu8, wu16, wu32, wu64, wi8, wi16, wi32, wi64]; done) | (simp only [wu8, wu16, wu32, wu64, wi8, wi16, wi32, wi64]; omega) | (simp only [wrap32, wrap64]; done) | (simp only [wrap32, wrap64]; omega))
theorem indirect_int64 (v : Value) (w : World) : Calls Tryd.prog 48 #[.iface 2 v] w fun e w' => e = .returned (.tuple #[.iface 2 v, .bool false]) ∧ w' = w := by
  have ta0 : ∀ v w, (Instr.typeAssert (.iface 2 v) 20 79 true).run Tryd.prog w = .ok (.tuple #[.pointer none, .bool false]) w := fun _ _ => by kernel_rfl
  have ta1 : ∀ v w, (Instr.typeAssert (.iface 2 v) 20 80 true).run Tryd.prog w = .ok (.tuple #[.pointer none, .bool false]) w := fun _ _ => by kernel_rfl
  go_enter Tryd.func48, Tryd.ntmps48
  go_wp2_with fail
  exact bodyPost_ret (v := .tuple #[.iface 2 v, .bool false]) (by simp [results, Tryd.results48, go_sem]) rfl ⟨rfl, rfl⟩
theorem value_int64 (i u : Int) (b : Nat) (s : ByteArray) (vl vm : Value) (hi : (-9223372036854775808 ≤ i ∧ i < 9223372036854775808)) (w : World) : Calls Tryd.prog 15 #[.agg #[.int .i64 6, .int .i64 i, .int .u64 u, .float .f64 b, .string s, vl, vm]] w fun e w' => e = .returned (.iface 2 (.int .i64 (i))) ∧ Below w.heap.size w w' := by
  go_enter Tryd.func15, Tryd.ntmps15
  go_wp2_with fail
  go_ret
  refine ⟨?_, (Below.refl _ _).alloc (Nat.le_refl _) _⟩
  first
    | rfl
    | (refine congrArg (fun z => Ending.returned (Value.iface 2 (Value.int IntKind.i64 z))) ?_; first | omega | (simp only [wu8, wu16, wu32, wu64, wi8, wi16, wi32, wi64]; done) | (simp only [wu8, wu16, wu32, wu64, wi8, wi16, wi32, wi64]; omega) | (simp only [wrap32, wrap64]; done) | (simp only [wrap32, wrap64]; omega))
theorem indirect_uint (v : Value) (w : World) : Calls Tryd.prog 48 #[.iface 43 v] w fun e w' => e = .returned (.tuple #[.iface 43 v, .bool false]) ∧ w' = w := by
  have ta0 : ∀ v w, (Instr.typeAssert (.iface 43 v) 20 79 true).run Tryd.prog w = .ok (.tuple #[.pointer none, .bool false]) w := fun _ _ => by kernel_rfl
  have ta1 : ∀ v w, (Instr.typeAssert (.iface 43 v) 20 80 true).run Tryd.prog w = .ok (.tuple #[.pointer none, .bool false]) w := fun _ _ => by kernel_rfl
  go_enter Tryd.func48, Tryd.ntmps48
  go_wp2_with fail
  exact bodyPost_ret (v := .tuple #[.iface 43 v, .bool false]) (by simp [results, Tryd.results48, go_sem]) rfl ⟨rfl, rfl⟩
theorem value_uint (i u : Int) (b : Nat) (s : ByteArray) (vl vm : Value) (hu : (0 ≤ u ∧ u < 18446744073709551616)) (w : World) : Calls Tryd.prog 15 #[.agg #[.int .i64 7, .int .i64 i, .int .u64 u, .float .f64 b, .string s, vl, vm]] w fun e w' => e = .returned (.iface 43 (.int .u64 (u))) ∧ Below w.heap.size w w' := by
  go_enter Tryd.func15, Tryd.ntmps15
  go_wp2_with fail
  go_ret
  refine ⟨?_, (Below.refl _ _).alloc (Nat.le_refl _) _⟩
  first
    | rfl
    | (refine congrArg (fun z => Ending.returned (Value.iface 43 (Value.int IntKind.u64 z))) ?_; first | omega | (simp only [wu8, wu16, wu32, wu64, wi8, wi16, wi32, wi64]; done) | (simp only [wu8, wu16, wu32, wu64, wi8, wi16, wi32, wi64]; omega) | (simp only [wrap32, wrap64]; done) | (simp only [wrap32, wrap64]; omega))
theorem indirect_uint8 (v : Value) (w : World) : Calls Tryd.prog 48 #[.iface 5 v] w fun e w' => e = .returned (.tuple #[.iface 5 v, .bool false]) ∧ w' = w := by
  have ta0 : ∀ v w, (Instr.typeAssert (.iface 5 v) 20 79 true).run Tryd.prog w = .ok (.tuple #[.pointer none, .bool false]) w := fun _ _ => by kernel_rfl
  have ta1 : ∀ v w, (Instr.typeAssert (.iface 5 v) 20 80 true).run Tryd.prog w = .ok (.tuple #[.pointer none, .bool false]) w := fun _ _ => by kernel_rfl
  go_enter Tryd.func48, Tryd.ntmps48
  go_wp2_with fail
  exact bodyPost_ret (v := .tuple #[.iface 5 v, .bool false]) (by simp [results, Tryd.results48, go_sem]) rfl ⟨rfl, rfl⟩
theorem value_uint8 (i u : Int) (b : Nat) (s : ByteArray) (vl vm : Value) (hu : (0 ≤ u ∧ u < 18446744073709551616)) (w : World) : Calls Tryd.prog 15 #[.agg #[.int .i64 8, .int .i64 i, .int .u64 u, .float .f64 b, .string s, vl, vm]] w fun e w' => e = .returned (.iface 5 (.int .u8 (u % 256))) ∧ Below w.heap.size w w' := by
  go_enter Tryd.func15, Tryd.ntmps15
  go_wp2_with fail
  go_ret
  refine ⟨?_, (Below.refl _ _).alloc (Nat.le_refl _) _⟩
  first
    | rfl
    | (refine congrArg (fun z => Ending.returned (Value.iface 5 (Value.int IntKind.u8 z))) ?_; first | omega | (simp only [wu8, wu16, wu32, wu64, wi8, wi16, wi32, wi64]; done) | (simp only [wu8, wu16, wu32, wu64, wi8, wi16, wi32, wi64]; omega) | (simp only [wrap32, wrap64]; done) | (simp only [wrap32, wrap64]; omega))
theorem indirect_uint16 (v : Value) (w : World) : Calls Tryd.prog 48 #[.iface 54 v] w fun e w' => e = .returned (.tuple #[.iface 54 v, .bool false]) ∧ w' = w := by
  have ta0 : ∀ v w, (Instr.typeAssert (.iface 54 v) 20 79 true).run Tryd.prog w = .ok (.tuple #[.pointer none, .bool false]) w := fun _ _ => by kernel_rfl
  have ta1 : ∀ v w, (Instr.typeAssert (.iface 54 v) 20 80 true).run Tryd.prog w = .ok (.tuple #[.pointer none, .bool false]) w := fun _ _ => by kernel_rfl
  go_enter Tryd.func48, Tryd.ntmps48
  go_wp2_with fail
  exact bodyPost_ret (v := .tuple #[.iface 54 v, .bool false]) (by simp [results, Tryd.results48, go_sem]) rfl ⟨rfl, rfl⟩
theorem value_uint16 (i u : Int) (b : Nat) (s : ByteArray) (vl vm : Value) (hu : (0 ≤ u ∧ u < 18446744073709551616)) (w : World) : Calls Tryd.prog 15 #[.agg #[.int .i64 9, .int .i64 i, .int .u64 u, .float .f64 b, .string s, vl, vm]] w fun e w' => e = .returned (.iface 54 (.int .u16 (u % 65536))) ∧ Below w.heap.size w w' := by
  go_enter Tryd.func15, Tryd.ntmps15
  go_wp2_with fail
  go_ret
  refine ⟨?_, (Below.refl _ _).alloc (Nat.le_refl _) _⟩
  first
    | rfl
    | (refine congrArg (fun z => Ending.returned (Value.iface 54 (Value.int IntKind.u16 z))) ?_; first | omega | (simp only [wu8, wu16, wu32, wu64, wi8, wi16, wi32, wi64]; done) | (simp only [wu8, wu16, wu32, wu64, wi8, wi16, wi32, wi64]; omega) | (simp only [wrap32, wrap64]; done) | (simp only [wrap32, wrap64]; omega))
theorem indirect_uint32 (v : Value) (w : World) : Calls Tryd.prog 48 #[.iface 55 v] w fun e w' => e = .returned (.tuple #[.iface 55 v, .bool false]) ∧ w' = w := by
  have ta0 : ∀ v w, (Instr.typeAssert (.iface 55 v) 20 79 true).run Tryd.prog w = .ok (.tuple #[.pointer none, .bool false]) w := fun _ _ => by kernel_rfl
  have ta1 : ∀ v w, (Instr.typeAssert (.iface 55 v) 20 80 true).run Tryd.prog w = .ok (.tuple #[.pointer none, .bool false]) w := fun _ _ => by kernel_rfl
  go_enter Tryd.func48, Tryd.ntmps48
  go_wp2_with fail
  exact bodyPost_ret (v := .tuple #[.iface 55 v, .bool false]) (by simp [results, Tryd.results48, go_sem]) rfl ⟨rfl, rfl⟩
theorem value_uint32 (i u : Int) (b : Nat) (s : ByteArray) (vl vm : Value) (hu : (0 ≤ u ∧ u < 18446744073709551616)) (w : World) : Calls Tryd.prog 15 #[.agg #[.int .i64 10, .int .i64 i, .int .u64 u, .float .f64 b, .string s, vl, vm]] w fun e w' => e = .returned (.iface 55 (.int .u32 (u % 4294967296))) ∧ Below w.heap.size w w' := by
  go_enter Tryd.func15, Tryd.ntmps15
  go_wp2_with fail
  go_ret
  refine ⟨?_, (Below.refl _ _).alloc (Nat.le_refl _) _⟩
  first
    | rfl
    | (refine congrArg (fun z => Ending.returned (Value.iface 55 (Value.int IntKind.u32 z))) ?_; first | omega | (simp only [wu8, wu16, wu32, wu64, wi8, wi16, wi32, wi64]; done) | (simp only [wu8, wu16, wu32, wu64, wi8, wi16, wi32, wi64]; omega) | (simp only [wrap32, wrap64]; done) | (simp only [wrap32, wrap64]; omega))
theorem indirect_uint64 (v : Value) (w : World) : Calls Tryd.prog 48 #[.iface 22 v] w fun e w' => e = .returned (.tuple #[.iface 22 v, .bool false]) ∧ w' = w := by
  have ta0 : ∀ v w, (Instr.typeAssert (.iface 22 v) 20 79 true).run Tryd.prog w = .ok (.tuple #[.pointer none, .bool false]) w := fun _ _ => by kernel_rfl
  have ta1 : ∀ v w, (Instr.typeAssert (.iface 22 v) 20 80 true).run Tryd.prog w = .ok (.tuple #[.pointer none, .bool false]) w := fun _ _ => by kernel_rfl
  go_enter Tryd.func48, Tryd.ntmps48
  go_wp2_with fail
  exact bodyPost_ret (v := .tuple #[.iface 22 v, .bool false]) (by simp [results, Tryd.results48, go_sem]) rfl ⟨rfl, rfl⟩
theorem value_uint64 (i u : Int) (b : Nat) (s : ByteArray) (vl vm : Value) (hu : (0 ≤ u ∧ u < 18446744073709551616)) (w : World) : Calls Tryd.prog 15 #[.agg #[.int .i64 11, .int .i64 i, .int .u64 u, .float .f64 b, .string s, vl, vm]] w fun e w' => e = .returned (.iface 22 (.int .u64 (u))) ∧ Below w.heap.size w w' := by
  go_enter Tryd.func15, Tryd.ntmps15
  go_wp2_with fail
  go_ret
  refine ⟨?_, (Below.refl _ _).alloc (Nat.le_refl _) _⟩
  first
    | rfl
    | (refine congrArg (fun z => Ending.returned (Value.iface 22 (Value.int IntKind.u64 z))) ?_; first | omega | (simp only [wu8, wu16, wu32, wu64, wi8, wi16, wi32, wi64]; done) | (simp only [wu8, wu16, wu32, wu64, wi8, wi16, wi32, wi64]; omega) | (simp only [wrap32, wrap64]; done) | (simp only [wrap32, wrap64]; omega))
theorem indirect_float32 (v : Value) (w : World) : Calls Tryd.prog 48 #[.iface 56 v] w fun e w' => e = .returned (.tuple #[.iface 56 v, .bool false]) ∧ w' = w := by
  have ta0 : ∀ v w, (Instr.typeAssert (.iface 56 v) 20 79 true).run Tryd.prog w = .ok (.tuple #[.pointer none, .bool false]) w := fun _ _ => by kernel_rfl
  have ta1 : ∀ v w, (Instr.typeAssert (.iface 56 v) 20 80 true).run Tryd.prog w = .ok (.tuple #[.pointer none, .bool false]) w := fun _ _ => by kernel_rfl
  go_enter Tryd.func48, Tryd.ntmps48
  go_wp2_with fail
  exact bodyPost_ret (v := .tuple #[.iface 56 v, .bool false]) (by simp [results, Tryd.results48, go_sem]) rfl ⟨rfl, rfl⟩
theorem value_float32 (i u : Int) (b : Nat) (s : ByteArray) (vl vm : Value) (c : Nat) (hc : floatToFloatBits .f64 b .f32 = some c) (w : World) : Calls Tryd.prog 15 #[.agg #[.int .i64 12, .int .i64 i, .int .u64 u, .float .f64 b, .string s, vl, vm]] w fun e w' => e = .returned (.iface 56 (.float .f32 c)) ∧ Below w.heap.size w w' := by
  have hcv : ∀ w, (convert 23 56 (.float .f64 b)).run Tryd.prog w = .ok (.float .f32 c) w := fun w => run_convert_float_float w 23 56 .f64 .f32 b c (by rw [Tryd.underlying23]; rfl) Tryd.underlying56 hc
  clear hc
  go_enter Tryd.func15, Tryd.ntmps15
  go_wp2_with fail
  go_ret
  refine ⟨?_, (Below.refl _ _).alloc (Nat.le_refl _) _⟩
  first
    | rfl
    | (refine congrArg (fun z => Ending.returned (Value.iface 56 (Value.int IntKind.u8 z))) ?_; first | omega | (simp only [wu8, wu16, wu32, wu64, wi8, wi16, wi32, wi64]; done) | (simp only [wu8, wu16, wu32, wu64, wi8, wi16, wi32, wi64]; omega) | (simp only [wrap32, wrap64]; done) | (simp only [wrap32, wrap64]; omega))
theorem indirect_float64 (v : Value) (w : World) : Calls Tryd.prog 48 #[.iface 23 v] w fun e w' => e = .returned (.tuple #[.iface 23 v, .bool false]) ∧ w' = w := by
  have ta0 : ∀ v w, (Instr.typeAssert (.iface 23 v) 20 79 true).run Tryd.prog w = .ok (.tuple #[.pointer none, .bool false]) w := fun _ _ => by kernel_rfl
  have ta1 : ∀ v w, (Instr.typeAssert (.iface 23 v) 20 80 true).run Tryd.prog w = .ok (.tuple #[.pointer none, .bool false]) w := fun _ _ => by kernel_rfl
  go_enter Tryd.func48, Tryd.ntmps48
  go_wp2_with fail
  exact bodyPost_ret (v := .tuple #[.iface 23 v, .bool false]) (by simp [results, Tryd.results48, go_sem]) rfl ⟨rfl, rfl⟩
theorem value_float64 (i u : Int) (b : Nat) (s : ByteArray) (vl vm : Value)  (w : World) : Calls Tryd.prog 15 #[.agg #[.int .i64 13, .int .i64 i, .int .u64 u, .float .f64 b, .string s, vl, vm]] w fun e w' => e = .returned (.iface 23 (.float .f64 b)) ∧ Below w.heap.size w w' := by
  go_enter Tryd.func15, Tryd.ntmps15
  go_wp2_with fail
  go_ret
  refine ⟨?_, (Below.refl _ _).alloc (Nat.le_refl _) _⟩
  first
    | rfl
    | (refine congrArg (fun z => Ending.returned (Value.iface 23 (Value.int IntKind.u8 z))) ?_; first | omega | (simp only [wu8, wu16, wu32, wu64, wi8, wi16, wi32, wi64]; done) | (simp only [wu8, wu16, wu32, wu64, wi8, wi16, wi32, wi64]; omega) | (simp only [wrap32, wrap64]; done) | (simp only [wrap32, wrap64]; omega))
theorem indirect_string (v : Value) (w : World) : Calls Tryd.prog 48 #[.iface 9 v] w fun e w' => e = .returned (.tuple #[.iface 9 v, .bool false]) ∧ w' = w := by
  have ta0 : ∀ v w, (Instr.typeAssert (.iface 9 v) 20 79 true).run Tryd.prog w = .ok (.tuple #[.pointer none, .bool false]) w := fun _ _ => by kernel_rfl
  have ta1 : ∀ v w, (Instr.typeAssert (.iface 9 v) 20 80 true).run Tryd.prog w = .ok (.tuple #[.pointer none, .bool false]) w := fun _ _ => by kernel_rfl
  go_enter Tryd.func48, Tryd.ntmps48
  go_wp2_with fail
  exact bodyPost_ret (v := .tuple #[.iface 9 v, .bool false]) (by simp [results, Tryd.results48, go_sem]) rfl ⟨rfl, rfl⟩
theorem value_string (i u : Int) (b : Nat) (s : ByteArray) (vl vm : Value)  (w : World) : Calls Tryd.prog 15 #[.agg #[.int .i64 14, .int .i64 i, .int .u64 u, .float .f64 b, .string s, vl, vm]] w fun e w' => e = .returned (.iface 9 (.string s)) ∧ Below w.heap.size w w' := by
  go_enter Tryd.func15, Tryd.ntmps15
  go_wp2_with fail
  go_ret
  refine ⟨?_, (Below.refl _ _).alloc (Nat.le_refl _) _⟩
  first
    | rfl
    | (refine congrArg (fun z => Ending.returned (Value.iface 9 (Value.int IntKind.u8 z))) ?_; first | omega | (simp only [wu8, wu16, wu32, wu64, wi8, wi16, wi32, wi64]; done) | (simp only [wu8, wu16, wu32, wu64, wi8, wi16, wi32, wi64]; omega) | (simp only [wrap32, wrap64]; done) | (simp only [wrap32, wrap64]; omega))
end Go.Proofs.YtfeijmoncadkiaaDoor
