/- Casts of unsigned numbers to their own type. (Printed by gen_cast.py.) -/
import Derived.Test.YtnnfdlhedggkmaaDoorProg
import Derived.WalkKit
import Derived.KernelRfl
import Derived.RowKit3
import Derived.Deep.QuietTactic
import Derived.BigQuiet
import Derived.Lib.Hide
import Derived.Deep.DeepFit
import Derived.WalkSpells
import Derived.WalkLawsBesides
namespace Go.Proofs.YtnnfdlhedggkmaaDoor
open Go.RowKit
set_option linter.unusedVariables false
set_option linter.unusedSimpArgs false

theorem Below.after {a b c : World} (h : Below a.heap.size a b) (k : Below b.heap.size b c) : Below a.heap.size a c := h.trans (k.mono h.size)
theorem Below.drewN' {B : Nat} {a w : World} (h : Below B a w) {n : Nat} : Below B a (w.drewN n) := ⟨h.os, h.tape, h.output, h.size, h.block⟩
theorem w64 (n : Int) : IntKind.u64.wrap n = n % 18446744073709551616 := by simp [IntKind.wrap, IntKind.bits, IntKind.signed]
theorem w64_16 (n : Int) : IntKind.u64.wrap (IntKind.u16.wrap n) = n % 65536 := by
  rw [w64]
  simp [IntKind.wrap, IntKind.bits, IntKind.signed]
  omega
theorem indirect_uint (v : Value) (w : World) : Calls Tryd.prog 73 #[.iface 62 v] w fun e w' => e = .returned (.tuple #[.iface 62 v, .bool false]) ∧ w' = w := by
  have ta0 : ∀ v w, (Instr.typeAssert (.iface 62 v) 20 95 true).run Tryd.prog w = .ok (.tuple #[.pointer none, .bool false]) w := fun _ _ => by kernel_rfl
  have ta1 : ∀ v w, (Instr.typeAssert (.iface 62 v) 20 96 true).run Tryd.prog w = .ok (.tuple #[.pointer none, .bool false]) w := fun _ _ => by kernel_rfl
  go_enter Tryd.func73, Tryd.ntmps73
  go_wp2_with fail
  exact bodyPost_ret (v := .tuple #[.iface 62 v, .bool false]) (by simp [results, Tryd.results73, go_sem]) rfl ⟨rfl, rfl⟩
theorem unsigned_uint (v : Value) (w : World) : Calls Tryd.prog 86 #[.iface 62 v] w fun e w' => e = .returned (.tuple #[v, .bool true, .bool true]) ∧ w' = w := by
  have ta0 : ∀ v w, (Instr.typeAssert (.iface 62 v) 20 62 true).run Tryd.prog w = .ok (.tuple #[v, .bool true]) w := fun _ _ => by kernel_rfl
  have C := Lib.hid (fun W => indirect_uint v W)
  go_enter Tryd.func86, Tryd.ntmps86
  go_wp2_with fail
  refine (C.out _).mono ?_
  rintro e w1 ⟨rfl, rfl⟩
  go_wp2_with fail
  exact bodyPost_ret (v := .tuple #[v, .bool true, .bool true]) (by simp [results, Tryd.results86, go_sem]) rfl ⟨rfl, rfl⟩
theorem unsignedE_uint (v f : Value) (w : World) : Calls Tryd.prog 63 #[.iface 62 v, f] w fun e w' => e = .returned (.tuple #[v, .nilIface]) ∧ w' = w := by
  have C := Lib.hid (fun W => unsigned_uint v W)
  go_enter Tryd.func63, Tryd.ntmps63
  go_wp2_with fail
  refine (C.out _).mono ?_
  rintro e w1 ⟨rfl, rfl⟩
  go_wp2_with fail
  exact bodyPost_ret (v := .tuple #[v, .nilIface]) (by simp [results, Tryd.results63, go_sem]) rfl ⟨rfl, rfl⟩
theorem toUintE_uint (v : Value) (w : World) : Calls Tryd.prog 35 #[.iface 62 v] w fun e w' => e = .returned (.tuple #[v, .nilIface]) ∧ w' = w := by
  have C := Lib.hid (fun f W => unsignedE_uint v f W)
  go_enter Tryd.func35, Tryd.ntmps35
  go_wp2_with fail
  refine (C.out _ _).mono ?_
  rintro e w1 ⟨rfl, rfl⟩
  go_wp2_with fail
  exact bodyPost_ret (v := .tuple #[v, .nilIface]) (by simp [results, Tryd.results35, go_sem]) rfl ⟨rfl, rfl⟩
theorem value_uint (vi vf vs vl vm : Value) (n : Int) (w : World) : Calls Tryd.prog 24 #[.agg #[.int .i64 7, vi, .int .u64 n, vf, vs, vl, vm]] w fun e w' => e = .returned (.iface 62 (.int .u64 (n))) ∧ Below w.heap.size w w' := by
  go_enter Tryd.func24, Tryd.ntmps24
  go_wp2_with fail
  go_ret
  exact ⟨rfl, (Below.refl _ _).alloc (Nat.le_refl _) _⟩
theorem door_uint (vi vf vs vl vm : Value) (n : Int) (w : World) : Calls Tryd.prog 20 #[.agg #[.int .i64 7, vi, .int .u64 n, vf, vs, vl, vm]] w fun e w' => e = .returned (.tuple #[.int .u64 (n), .bool true]) ∧ Below w.heap.size w w' := by
  have hn0 : ∀ w, Sem.run Tryd.prog (binOp BinOp.eql 52 Value.nilIface Value.nilIface) w = .ok (.bool true) w := fun _ => by kernel_rfl
  have C := Lib.hid (fun W => value_uint vi vf vs vl vm n W)
  have C2 := Lib.hid (fun v W => toUintE_uint v W)
  go_enter Tryd.func20, Tryd.ntmps20
  go_wp2_with fail
  refine (C.out _).mono ?_
  rintro e w1 ⟨rfl, hb1⟩
  go_wp2_with fail
  refine (C2.out _ _).mono ?_
  rintro e w2 ⟨rfl, rfl⟩
  go_wp2_with fail
  go_quiet (fail)
  go_wp2_with fail
  exact bodyPost_ret (v := .tuple #[.int .u64 (n), .bool true]) (by simp [results, Tryd.results20, go_sem]) rfl ⟨rfl, Below.drewN' (Below.after ((Below.refl _ _).alloc (Nat.le_refl _) _) hb1)⟩
theorem cast_uint (vi vf vs vl vm : Value) (n : Int) (w : World) : Calls Tryd.prog 17 #[.int .i64 7, .agg #[.int .i64 7, vi, .int .u64 n, vf, vs, vl, vm]] w fun e w' => e = .returned (.tuple #[.int .u64 (n), .bool true]) ∧ Below w.heap.size w w' := by
  have C := Lib.hid (fun W => door_uint vi vf vs vl vm n W)
  go_enter Tryd.func17, Tryd.ntmps17
  go_wp2_with fail
  refine (C.out _).mono ?_
  rintro e w1 ⟨rfl, hb1⟩
  go_wp2_with fail
  exact bodyPost_ret (v := .tuple #[.int .u64 (n), .bool true]) (by simp [results, Tryd.results17, go_sem]) rfl ⟨rfl, Below.after ((Below.refl _ _).alloc (Nat.le_refl _) _) hb1⟩
theorem cut_uint (n : Int) (w : World) : Calls Tryd.prog 18 #[.int .i64 7, .int .u64 n] w fun e w' => e = .returned (.int .u64 (n)) ∧ w' = w := by
  go_enter Tryd.func18, Tryd.ntmps18
  go_wp2_with fail
  go_ret
  first
    | exact ⟨rfl, rfl⟩
    | exact ⟨congrArg (fun z => Ending.returned (Value.int IntKind.u64 z)) (w64_16 n), rfl⟩
theorem indirect_uint8 (v : Value) (w : World) : Calls Tryd.prog 73 #[.iface 5 v] w fun e w' => e = .returned (.tuple #[.iface 5 v, .bool false]) ∧ w' = w := by
  have ta0 : ∀ v w, (Instr.typeAssert (.iface 5 v) 20 95 true).run Tryd.prog w = .ok (.tuple #[.pointer none, .bool false]) w := fun _ _ => by kernel_rfl
  have ta1 : ∀ v w, (Instr.typeAssert (.iface 5 v) 20 96 true).run Tryd.prog w = .ok (.tuple #[.pointer none, .bool false]) w := fun _ _ => by kernel_rfl
  go_enter Tryd.func73, Tryd.ntmps73
  go_wp2_with fail
  exact bodyPost_ret (v := .tuple #[.iface 5 v, .bool false]) (by simp [results, Tryd.results73, go_sem]) rfl ⟨rfl, rfl⟩
theorem unsigned_uint8 (v : Value) (w : World) : Calls Tryd.prog 99 #[.iface 5 v] w fun e w' => e = .returned (.tuple #[v, .bool true, .bool true]) ∧ w' = w := by
  have ta0 : ∀ v w, (Instr.typeAssert (.iface 5 v) 20 5 true).run Tryd.prog w = .ok (.tuple #[v, .bool true]) w := fun _ _ => by kernel_rfl
  have C := Lib.hid (fun W => indirect_uint8 v W)
  go_enter Tryd.func99, Tryd.ntmps99
  go_wp2_with fail
  refine (C.out _).mono ?_
  rintro e w1 ⟨rfl, rfl⟩
  go_wp2_with fail
  exact bodyPost_ret (v := .tuple #[v, .bool true, .bool true]) (by simp [results, Tryd.results99, go_sem]) rfl ⟨rfl, rfl⟩
theorem unsignedE_uint8 (v f : Value) (w : World) : Calls Tryd.prog 79 #[.iface 5 v, f] w fun e w' => e = .returned (.tuple #[v, .nilIface]) ∧ w' = w := by
  have C := Lib.hid (fun W => unsigned_uint8 v W)
  go_enter Tryd.func79, Tryd.ntmps79
  go_wp2_with fail
  refine (C.out _).mono ?_
  rintro e w1 ⟨rfl, rfl⟩
  go_wp2_with fail
  exact bodyPost_ret (v := .tuple #[v, .nilIface]) (by simp [results, Tryd.results79, go_sem]) rfl ⟨rfl, rfl⟩
theorem toUint8E_uint8 (v : Value) (w : World) : Calls Tryd.prog 58 #[.iface 5 v] w fun e w' => e = .returned (.tuple #[v, .nilIface]) ∧ w' = w := by
  have C := Lib.hid (fun f W => unsignedE_uint8 v f W)
  go_enter Tryd.func58, Tryd.ntmps58
  go_wp2_with fail
  refine (C.out _ _).mono ?_
  rintro e w1 ⟨rfl, rfl⟩
  go_wp2_with fail
  exact bodyPost_ret (v := .tuple #[v, .nilIface]) (by simp [results, Tryd.results58, go_sem]) rfl ⟨rfl, rfl⟩
theorem value_uint8 (vi vf vs vl vm : Value) (n : Int) (w : World) : Calls Tryd.prog 24 #[.agg #[.int .i64 8, vi, .int .u64 n, vf, vs, vl, vm]] w fun e w' => e = .returned (.iface 5 (.int .u8 (n % 256))) ∧ Below w.heap.size w w' := by
  go_enter Tryd.func24, Tryd.ntmps24
  go_wp2_with fail
  go_ret
  exact ⟨rfl, (Below.refl _ _).alloc (Nat.le_refl _) _⟩
theorem door_uint8 (vi vf vs vl vm : Value) (n : Int) (w : World) : Calls Tryd.prog 31 #[.agg #[.int .i64 8, vi, .int .u64 n, vf, vs, vl, vm]] w fun e w' => e = .returned (.tuple #[.int .u64 (n % 256), .bool true]) ∧ Below w.heap.size w w' := by
  have hn0 : ∀ w, Sem.run Tryd.prog (binOp BinOp.eql 52 Value.nilIface Value.nilIface) w = .ok (.bool true) w := fun _ => by kernel_rfl
  have C := Lib.hid (fun W => value_uint8 vi vf vs vl vm n W)
  have C2 := Lib.hid (fun v W => toUint8E_uint8 v W)
  go_enter Tryd.func31, Tryd.ntmps31
  go_wp2_with fail
  refine (C.out _).mono ?_
  rintro e w1 ⟨rfl, hb1⟩
  go_wp2_with fail
  refine (C2.out _ _).mono ?_
  rintro e w2 ⟨rfl, rfl⟩
  go_wp2_with fail
  go_quiet (fail)
  go_wp2_with fail
  exact bodyPost_ret (v := .tuple #[.int .u64 (n % 256), .bool true]) (by simp [results, Tryd.results31, go_sem]) rfl ⟨rfl, Below.drewN' (Below.after ((Below.refl _ _).alloc (Nat.le_refl _) _) hb1)⟩
theorem cast_uint8 (vi vf vs vl vm : Value) (n : Int) (w : World) : Calls Tryd.prog 17 #[.int .i64 8, .agg #[.int .i64 8, vi, .int .u64 n, vf, vs, vl, vm]] w fun e w' => e = .returned (.tuple #[.int .u64 (n % 256), .bool true]) ∧ Below w.heap.size w w' := by
  have C := Lib.hid (fun W => door_uint8 vi vf vs vl vm n W)
  go_enter Tryd.func17, Tryd.ntmps17
  go_wp2_with fail
  refine (C.out _).mono ?_
  rintro e w1 ⟨rfl, hb1⟩
  go_wp2_with fail
  exact bodyPost_ret (v := .tuple #[.int .u64 (n % 256), .bool true]) (by simp [results, Tryd.results17, go_sem]) rfl ⟨rfl, Below.after ((Below.refl _ _).alloc (Nat.le_refl _) _) hb1⟩
theorem cut_uint8 (n : Int) (w : World) : Calls Tryd.prog 18 #[.int .i64 8, .int .u64 n] w fun e w' => e = .returned (.int .u64 (n % 256)) ∧ w' = w := by
  go_enter Tryd.func18, Tryd.ntmps18
  go_wp2_with fail
  go_ret
  first
    | exact ⟨rfl, rfl⟩
    | exact ⟨congrArg (fun z => Ending.returned (Value.int IntKind.u64 z)) (w64_16 n), rfl⟩
theorem indirect_uint16 (v : Value) (w : World) : Calls Tryd.prog 73 #[.iface 63 v] w fun e w' => e = .returned (.tuple #[.iface 63 v, .bool false]) ∧ w' = w := by
  have ta0 : ∀ v w, (Instr.typeAssert (.iface 63 v) 20 95 true).run Tryd.prog w = .ok (.tuple #[.pointer none, .bool false]) w := fun _ _ => by kernel_rfl
  have ta1 : ∀ v w, (Instr.typeAssert (.iface 63 v) 20 96 true).run Tryd.prog w = .ok (.tuple #[.pointer none, .bool false]) w := fun _ _ => by kernel_rfl
  go_enter Tryd.func73, Tryd.ntmps73
  go_wp2_with fail
  exact bodyPost_ret (v := .tuple #[.iface 63 v, .bool false]) (by simp [results, Tryd.results73, go_sem]) rfl ⟨rfl, rfl⟩
theorem unsigned_uint16 (v : Value) (w : World) : Calls Tryd.prog 100 #[.iface 63 v] w fun e w' => e = .returned (.tuple #[v, .bool true, .bool true]) ∧ w' = w := by
  have ta0 : ∀ v w, (Instr.typeAssert (.iface 63 v) 20 63 true).run Tryd.prog w = .ok (.tuple #[v, .bool true]) w := fun _ _ => by kernel_rfl
  have C := Lib.hid (fun W => indirect_uint16 v W)
  go_enter Tryd.func100, Tryd.ntmps100
  go_wp2_with fail
  refine (C.out _).mono ?_
  rintro e w1 ⟨rfl, rfl⟩
  go_wp2_with fail
  exact bodyPost_ret (v := .tuple #[v, .bool true, .bool true]) (by simp [results, Tryd.results100, go_sem]) rfl ⟨rfl, rfl⟩
theorem unsignedE_uint16 (v f : Value) (w : World) : Calls Tryd.prog 81 #[.iface 63 v, f] w fun e w' => e = .returned (.tuple #[v, .nilIface]) ∧ w' = w := by
  have C := Lib.hid (fun W => unsigned_uint16 v W)
  go_enter Tryd.func81, Tryd.ntmps81
  go_wp2_with fail
  refine (C.out _).mono ?_
  rintro e w1 ⟨rfl, rfl⟩
  go_wp2_with fail
  exact bodyPost_ret (v := .tuple #[v, .nilIface]) (by simp [results, Tryd.results81, go_sem]) rfl ⟨rfl, rfl⟩
theorem toUint16E_uint16 (v : Value) (w : World) : Calls Tryd.prog 59 #[.iface 63 v] w fun e w' => e = .returned (.tuple #[v, .nilIface]) ∧ w' = w := by
  have C := Lib.hid (fun f W => unsignedE_uint16 v f W)
  go_enter Tryd.func59, Tryd.ntmps59
  go_wp2_with fail
  refine (C.out _ _).mono ?_
  rintro e w1 ⟨rfl, rfl⟩
  go_wp2_with fail
  exact bodyPost_ret (v := .tuple #[v, .nilIface]) (by simp [results, Tryd.results59, go_sem]) rfl ⟨rfl, rfl⟩
theorem value_uint16 (vi vf vs vl vm : Value) (n : Int) (w : World) : Calls Tryd.prog 24 #[.agg #[.int .i64 9, vi, .int .u64 n, vf, vs, vl, vm]] w fun e w' => e = .returned (.iface 63 (.int .u16 (n % 65536))) ∧ Below w.heap.size w w' := by
  go_enter Tryd.func24, Tryd.ntmps24
  go_wp2_with fail
  go_ret
  exact ⟨rfl, (Below.refl _ _).alloc (Nat.le_refl _) _⟩
theorem door_uint16 (vi vf vs vl vm : Value) (n : Int) (w : World) : Calls Tryd.prog 32 #[.agg #[.int .i64 9, vi, .int .u64 n, vf, vs, vl, vm]] w fun e w' => e = .returned (.tuple #[.int .u64 (n % 65536), .bool true]) ∧ Below w.heap.size w w' := by
  have hn0 : ∀ w, Sem.run Tryd.prog (binOp BinOp.eql 52 Value.nilIface Value.nilIface) w = .ok (.bool true) w := fun _ => by kernel_rfl
  have C := Lib.hid (fun W => value_uint16 vi vf vs vl vm n W)
  have C2 := Lib.hid (fun v W => toUint16E_uint16 v W)
  go_enter Tryd.func32, Tryd.ntmps32
  go_wp2_with fail
  refine (C.out _).mono ?_
  rintro e w1 ⟨rfl, hb1⟩
  go_wp2_with fail
  refine (C2.out _ _).mono ?_
  rintro e w2 ⟨rfl, rfl⟩
  go_wp2_with fail
  go_quiet (fail)
  go_wp2_with fail
  exact bodyPost_ret (v := .tuple #[.int .u64 (n % 65536), .bool true]) (by simp [results, Tryd.results32, go_sem]) rfl ⟨rfl, Below.drewN' (Below.after ((Below.refl _ _).alloc (Nat.le_refl _) _) hb1)⟩
theorem cast_uint16 (vi vf vs vl vm : Value) (n : Int) (w : World) : Calls Tryd.prog 17 #[.int .i64 9, .agg #[.int .i64 9, vi, .int .u64 n, vf, vs, vl, vm]] w fun e w' => e = .returned (.tuple #[.int .u64 (n % 65536), .bool true]) ∧ Below w.heap.size w w' := by
  have C := Lib.hid (fun W => door_uint16 vi vf vs vl vm n W)
  go_enter Tryd.func17, Tryd.ntmps17
  go_wp2_with fail
  refine (C.out _).mono ?_
  rintro e w1 ⟨rfl, hb1⟩
  go_wp2_with fail
  exact bodyPost_ret (v := .tuple #[.int .u64 (n % 65536), .bool true]) (by simp [results, Tryd.results17, go_sem]) rfl ⟨rfl, Below.after ((Below.refl _ _).alloc (Nat.le_refl _) _) hb1⟩
theorem cut_uint16 (n : Int) (w : World) : Calls Tryd.prog 18 #[.int .i64 9, .int .u64 n] w fun e w' => e = .returned (.int .u64 (n % 65536)) ∧ w' = w := by
  go_enter Tryd.func18, Tryd.ntmps18
  go_wp2_with fail
  go_ret
  first
    | exact ⟨rfl, rfl⟩
    | exact ⟨congrArg (fun z => Ending.returned (Value.int IntKind.u64 z)) (w64_16 n), rfl⟩
theorem indirect_uint32 (v : Value) (w : World) : Calls Tryd.prog 73 #[.iface 64 v] w fun e w' => e = .returned (.tuple #[.iface 64 v, .bool false]) ∧ w' = w := by
  have ta0 : ∀ v w, (Instr.typeAssert (.iface 64 v) 20 95 true).run Tryd.prog w = .ok (.tuple #[.pointer none, .bool false]) w := fun _ _ => by kernel_rfl
  have ta1 : ∀ v w, (Instr.typeAssert (.iface 64 v) 20 96 true).run Tryd.prog w = .ok (.tuple #[.pointer none, .bool false]) w := fun _ _ => by kernel_rfl
  go_enter Tryd.func73, Tryd.ntmps73
  go_wp2_with fail
  exact bodyPost_ret (v := .tuple #[.iface 64 v, .bool false]) (by simp [results, Tryd.results73, go_sem]) rfl ⟨rfl, rfl⟩
theorem unsigned_uint32 (v : Value) (w : World) : Calls Tryd.prog 101 #[.iface 64 v] w fun e w' => e = .returned (.tuple #[v, .bool true, .bool true]) ∧ w' = w := by
  have ta0 : ∀ v w, (Instr.typeAssert (.iface 64 v) 20 64 true).run Tryd.prog w = .ok (.tuple #[v, .bool true]) w := fun _ _ => by kernel_rfl
  have C := Lib.hid (fun W => indirect_uint32 v W)
  go_enter Tryd.func101, Tryd.ntmps101
  go_wp2_with fail
  refine (C.out _).mono ?_
  rintro e w1 ⟨rfl, rfl⟩
  go_wp2_with fail
  exact bodyPost_ret (v := .tuple #[v, .bool true, .bool true]) (by simp [results, Tryd.results101, go_sem]) rfl ⟨rfl, rfl⟩
theorem unsignedE_uint32 (v f : Value) (w : World) : Calls Tryd.prog 83 #[.iface 64 v, f] w fun e w' => e = .returned (.tuple #[v, .nilIface]) ∧ w' = w := by
  have C := Lib.hid (fun W => unsigned_uint32 v W)
  go_enter Tryd.func83, Tryd.ntmps83
  go_wp2_with fail
  refine (C.out _).mono ?_
  rintro e w1 ⟨rfl, rfl⟩
  go_wp2_with fail
  exact bodyPost_ret (v := .tuple #[v, .nilIface]) (by simp [results, Tryd.results83, go_sem]) rfl ⟨rfl, rfl⟩
theorem toUint32E_uint32 (v : Value) (w : World) : Calls Tryd.prog 60 #[.iface 64 v] w fun e w' => e = .returned (.tuple #[v, .nilIface]) ∧ w' = w := by
  have C := Lib.hid (fun f W => unsignedE_uint32 v f W)
  go_enter Tryd.func60, Tryd.ntmps60
  go_wp2_with fail
  refine (C.out _ _).mono ?_
  rintro e w1 ⟨rfl, rfl⟩
  go_wp2_with fail
  exact bodyPost_ret (v := .tuple #[v, .nilIface]) (by simp [results, Tryd.results60, go_sem]) rfl ⟨rfl, rfl⟩
theorem value_uint32 (vi vf vs vl vm : Value) (n : Int) (w : World) : Calls Tryd.prog 24 #[.agg #[.int .i64 10, vi, .int .u64 n, vf, vs, vl, vm]] w fun e w' => e = .returned (.iface 64 (.int .u32 (n % 4294967296))) ∧ Below w.heap.size w w' := by
  go_enter Tryd.func24, Tryd.ntmps24
  go_wp2_with fail
  go_ret
  exact ⟨rfl, (Below.refl _ _).alloc (Nat.le_refl _) _⟩
theorem door_uint32 (vi vf vs vl vm : Value) (n : Int) (w : World) : Calls Tryd.prog 33 #[.agg #[.int .i64 10, vi, .int .u64 n, vf, vs, vl, vm]] w fun e w' => e = .returned (.tuple #[.int .u64 (n % 4294967296), .bool true]) ∧ Below w.heap.size w w' := by
  have hn0 : ∀ w, Sem.run Tryd.prog (binOp BinOp.eql 52 Value.nilIface Value.nilIface) w = .ok (.bool true) w := fun _ => by kernel_rfl
  have C := Lib.hid (fun W => value_uint32 vi vf vs vl vm n W)
  have C2 := Lib.hid (fun v W => toUint32E_uint32 v W)
  go_enter Tryd.func33, Tryd.ntmps33
  go_wp2_with fail
  refine (C.out _).mono ?_
  rintro e w1 ⟨rfl, hb1⟩
  go_wp2_with fail
  refine (C2.out _ _).mono ?_
  rintro e w2 ⟨rfl, rfl⟩
  go_wp2_with fail
  go_quiet (fail)
  go_wp2_with fail
  exact bodyPost_ret (v := .tuple #[.int .u64 (n % 4294967296), .bool true]) (by simp [results, Tryd.results33, go_sem]) rfl ⟨rfl, Below.drewN' (Below.after ((Below.refl _ _).alloc (Nat.le_refl _) _) hb1)⟩
theorem cast_uint32 (vi vf vs vl vm : Value) (n : Int) (w : World) : Calls Tryd.prog 17 #[.int .i64 10, .agg #[.int .i64 10, vi, .int .u64 n, vf, vs, vl, vm]] w fun e w' => e = .returned (.tuple #[.int .u64 (n % 4294967296), .bool true]) ∧ Below w.heap.size w w' := by
  have C := Lib.hid (fun W => door_uint32 vi vf vs vl vm n W)
  go_enter Tryd.func17, Tryd.ntmps17
  go_wp2_with fail
  refine (C.out _).mono ?_
  rintro e w1 ⟨rfl, hb1⟩
  go_wp2_with fail
  exact bodyPost_ret (v := .tuple #[.int .u64 (n % 4294967296), .bool true]) (by simp [results, Tryd.results17, go_sem]) rfl ⟨rfl, Below.after ((Below.refl _ _).alloc (Nat.le_refl _) _) hb1⟩
theorem cut_uint32 (n : Int) (w : World) : Calls Tryd.prog 18 #[.int .i64 10, .int .u64 n] w fun e w' => e = .returned (.int .u64 (n % 4294967296)) ∧ w' = w := by
  go_enter Tryd.func18, Tryd.ntmps18
  go_wp2_with fail
  go_ret
  first
    | exact ⟨rfl, rfl⟩
    | exact ⟨congrArg (fun z => Ending.returned (Value.int IntKind.u64 z)) (w64_16 n), rfl⟩
theorem indirect_uint64 (v : Value) (w : World) : Calls Tryd.prog 73 #[.iface 27 v] w fun e w' => e = .returned (.tuple #[.iface 27 v, .bool false]) ∧ w' = w := by
  have ta0 : ∀ v w, (Instr.typeAssert (.iface 27 v) 20 95 true).run Tryd.prog w = .ok (.tuple #[.pointer none, .bool false]) w := fun _ _ => by kernel_rfl
  have ta1 : ∀ v w, (Instr.typeAssert (.iface 27 v) 20 96 true).run Tryd.prog w = .ok (.tuple #[.pointer none, .bool false]) w := fun _ _ => by kernel_rfl
  go_enter Tryd.func73, Tryd.ntmps73
  go_wp2_with fail
  exact bodyPost_ret (v := .tuple #[.iface 27 v, .bool false]) (by simp [results, Tryd.results73, go_sem]) rfl ⟨rfl, rfl⟩
theorem unsigned_uint64 (v : Value) (w : World) : Calls Tryd.prog 89 #[.iface 27 v] w fun e w' => e = .returned (.tuple #[v, .bool true, .bool true]) ∧ w' = w := by
  have ta0 : ∀ v w, (Instr.typeAssert (.iface 27 v) 20 27 true).run Tryd.prog w = .ok (.tuple #[v, .bool true]) w := fun _ _ => by kernel_rfl
  have C := Lib.hid (fun W => indirect_uint64 v W)
  go_enter Tryd.func89, Tryd.ntmps89
  go_wp2_with fail
  refine (C.out _).mono ?_
  rintro e w1 ⟨rfl, rfl⟩
  go_wp2_with fail
  exact bodyPost_ret (v := .tuple #[v, .bool true, .bool true]) (by simp [results, Tryd.results89, go_sem]) rfl ⟨rfl, rfl⟩
theorem unsignedE_uint64 (v f : Value) (w : World) : Calls Tryd.prog 65 #[.iface 27 v, f] w fun e w' => e = .returned (.tuple #[v, .nilIface]) ∧ w' = w := by
  have C := Lib.hid (fun W => unsigned_uint64 v W)
  go_enter Tryd.func65, Tryd.ntmps65
  go_wp2_with fail
  refine (C.out _).mono ?_
  rintro e w1 ⟨rfl, rfl⟩
  go_wp2_with fail
  exact bodyPost_ret (v := .tuple #[v, .nilIface]) (by simp [results, Tryd.results65, go_sem]) rfl ⟨rfl, rfl⟩
theorem toUint64E_uint64 (v : Value) (w : World) : Calls Tryd.prog 36 #[.iface 27 v] w fun e w' => e = .returned (.tuple #[v, .nilIface]) ∧ w' = w := by
  have C := Lib.hid (fun f W => unsignedE_uint64 v f W)
  go_enter Tryd.func36, Tryd.ntmps36
  go_wp2_with fail
  refine (C.out _ _).mono ?_
  rintro e w1 ⟨rfl, rfl⟩
  go_wp2_with fail
  exact bodyPost_ret (v := .tuple #[v, .nilIface]) (by simp [results, Tryd.results36, go_sem]) rfl ⟨rfl, rfl⟩
theorem value_uint64 (vi vf vs vl vm : Value) (n : Int) (w : World) : Calls Tryd.prog 24 #[.agg #[.int .i64 11, vi, .int .u64 n, vf, vs, vl, vm]] w fun e w' => e = .returned (.iface 27 (.int .u64 (n))) ∧ Below w.heap.size w w' := by
  go_enter Tryd.func24, Tryd.ntmps24
  go_wp2_with fail
  go_ret
  exact ⟨rfl, (Below.refl _ _).alloc (Nat.le_refl _) _⟩
theorem door_uint64 (vi vf vs vl vm : Value) (n : Int) (w : World) : Calls Tryd.prog 21 #[.agg #[.int .i64 11, vi, .int .u64 n, vf, vs, vl, vm]] w fun e w' => e = .returned (.tuple #[.int .u64 (n), .bool true]) ∧ Below w.heap.size w w' := by
  have hn0 : ∀ w, Sem.run Tryd.prog (binOp BinOp.eql 52 Value.nilIface Value.nilIface) w = .ok (.bool true) w := fun _ => by kernel_rfl
  have C := Lib.hid (fun W => value_uint64 vi vf vs vl vm n W)
  have C2 := Lib.hid (fun v W => toUint64E_uint64 v W)
  go_enter Tryd.func21, Tryd.ntmps21
  go_wp2_with fail
  refine (C.out _).mono ?_
  rintro e w1 ⟨rfl, hb1⟩
  go_wp2_with fail
  refine (C2.out _ _).mono ?_
  rintro e w2 ⟨rfl, rfl⟩
  go_wp2_with fail
  go_quiet (fail)
  go_wp2_with fail
  exact bodyPost_ret (v := .tuple #[.int .u64 (n), .bool true]) (by simp [results, Tryd.results21, go_sem]) rfl ⟨rfl, Below.drewN' (Below.after ((Below.refl _ _).alloc (Nat.le_refl _) _) hb1)⟩
theorem cast_uint64 (vi vf vs vl vm : Value) (n : Int) (w : World) : Calls Tryd.prog 17 #[.int .i64 11, .agg #[.int .i64 11, vi, .int .u64 n, vf, vs, vl, vm]] w fun e w' => e = .returned (.tuple #[.int .u64 (n), .bool true]) ∧ Below w.heap.size w w' := by
  have C := Lib.hid (fun W => door_uint64 vi vf vs vl vm n W)
  go_enter Tryd.func17, Tryd.ntmps17
  go_wp2_with fail
  refine (C.out _).mono ?_
  rintro e w1 ⟨rfl, hb1⟩
  go_wp2_with fail
  exact bodyPost_ret (v := .tuple #[.int .u64 (n), .bool true]) (by simp [results, Tryd.results17, go_sem]) rfl ⟨rfl, Below.after ((Below.refl _ _).alloc (Nat.le_refl _) _) hb1⟩
theorem cut_uint64 (n : Int) (w : World) : Calls Tryd.prog 18 #[.int .i64 11, .int .u64 n] w fun e w' => e = .returned (.int .u64 (n)) ∧ w' = w := by
  go_enter Tryd.func18, Tryd.ntmps18
  go_wp2_with fail
  go_ret
  first
    | exact ⟨rfl, rfl⟩
    | exact ⟨congrArg (fun z => Ending.returned (Value.int IntKind.u64 z)) (w64_16 n), rfl⟩
/-- A kind of unsigned numbers. -/
theorem kindU_any (k : Int) (w : World) : Calls Tryd.prog 16 #[.int .i64 k] w fun e w' => (∃ j : Int, e = .returned (.int .i64 j) ∧ (j = 7 ∨ j = 8 ∨ j = 9 ∨ j = 10 ∨ j = 11)) ∧ w' = w := by
  go_enter Tryd.func16, Tryd.ntmps16
  go_wp2_with fail
  go_ret
  refine ⟨⟨_, rfl, ?_⟩, rfl⟩
  have h0 : 0 ≤ IntKind.u64.wrap k := by rw [w64]; omega
  generalize IntKind.u64.wrap k = u at *
  rw [Int.tmod_eq_emod_of_nonneg h0]
  simp only [wrap64]
  omega
end Go.Proofs.YtnnfdlhedggkmaaDoor
