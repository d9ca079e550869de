/- Unsigned numbers, cast to signed types. (Printed by gen_cast.py.) -/
import Derived.Test.YtnnfdlhedggkmaaGreatDoorCastB
import Derived.WalkKit
import Derived.KernelRfl
import Derived.RowKit3
import Derived.Deep.QuietTactic
import Derived.BigQuiet
import Derived.Lib.Hide
import Derived.Deep.DeepFit
import Derived.WalkSpells
import Derived.WalkLawsBesides
namespace Go.Proofs.YtnnfdlhedggkmaaGreatDoor
open Go.RowKit
set_option linter.unusedVariables false
set_option linter.unusedSimpArgs false

theorem num_int_uint (n : Int) (hn : (0 ≤ n ∧ n < 18446744073709551616)) (w : World) : Calls Tryz.prog 77 #[.iface 37 (.int .u64 n)] w fun e w' => e = .returned (.tuple #[.int .i64 ((n + 9223372036854775808) % 18446744073709551616 - 9223372036854775808), .bool true]) ∧ w' = w := by
  have ta0 : ∀ v w, (Instr.typeAssert (.iface 37 v) 20 3 true).run Tryz.prog w = .ok (.tuple #[.int .i64 0, .bool false]) w := fun _ _ => by kernel_rfl
  have ta1 : ∀ v w, (Instr.typeAssert (.iface 37 v) 20 3 true).run Tryz.prog w = .ok (.tuple #[.int .i64 0, .bool false]) w := fun _ _ => by kernel_rfl
  have ta2 : ∀ v w, (Instr.typeAssert (.iface 37 v) 20 38 true).run Tryz.prog w = .ok (.tuple #[.int .i8 0, .bool false]) w := fun _ _ => by kernel_rfl
  have ta3 : ∀ v w, (Instr.typeAssert (.iface 37 v) 20 39 true).run Tryz.prog w = .ok (.tuple #[.int .i16 0, .bool false]) w := fun _ _ => by kernel_rfl
  have ta4 : ∀ v w, (Instr.typeAssert (.iface 37 v) 20 21 true).run Tryz.prog w = .ok (.tuple #[.int .i32 0, .bool false]) w := fun _ _ => by kernel_rfl
  have ta5 : ∀ v w, (Instr.typeAssert (.iface 37 v) 20 2 true).run Tryz.prog w = .ok (.tuple #[.int .i64 0, .bool false]) w := fun _ _ => by kernel_rfl
  have ta6 : ∀ v w, (Instr.typeAssert (.iface 37 v) 20 37 true).run Tryz.prog w = .ok (.tuple #[v, .bool true]) w := fun _ _ => by kernel_rfl
  have C := Lib.hid (fun W => indirect_uint (.int .u64 n) W)
  have HN := Lib.hid hn
  clear hn
  go_enter Tryz.func77, Tryz.ntmps77
  go_wp2_with fail
  refine (C.out _).mono ?_
  rintro e w1 ⟨rfl, rfl⟩
  go_wp2_with fail
  have hn := HN.out
  refine bodyPost_ret (v := .tuple #[.int .i64 ((n + 9223372036854775808) % 18446744073709551616 - 9223372036854775808), .bool true]) ?_ rfl ⟨rfl, rfl⟩
  first
    | (simp [results, Tryz.results77, go_sem]; done)
    | (simp [results, Tryz.results77, go_sem, wu8, wu16, wu32, wu64, wi8, wi16, wi32, wi64, wrap64, wrap32]; done)
    | (simp [results, Tryz.results77, go_sem, wu8, wu16, wu32, wu64, wi8, wi16, wi32, wi64, wrap64, wrap32]; omega)
    | (simp [results, Tryz.results77, go_sem]; omega)
theorem num_int_uint8 (n : Int) (hn : (0 ≤ n ∧ n < 256)) (w : World) : Calls Tryz.prog 77 #[.iface 5 (.int .u8 n)] w fun e w' => e = .returned (.tuple #[.int .i64 ((n + 9223372036854775808) % 18446744073709551616 - 9223372036854775808), .bool true]) ∧ w' = w := by
  have ta0 : ∀ v w, (Instr.typeAssert (.iface 5 v) 20 3 true).run Tryz.prog w = .ok (.tuple #[.int .i64 0, .bool false]) w := fun _ _ => by kernel_rfl
  have ta1 : ∀ v w, (Instr.typeAssert (.iface 5 v) 20 3 true).run Tryz.prog w = .ok (.tuple #[.int .i64 0, .bool false]) w := fun _ _ => by kernel_rfl
  have ta2 : ∀ v w, (Instr.typeAssert (.iface 5 v) 20 38 true).run Tryz.prog w = .ok (.tuple #[.int .i8 0, .bool false]) w := fun _ _ => by kernel_rfl
  have ta3 : ∀ v w, (Instr.typeAssert (.iface 5 v) 20 39 true).run Tryz.prog w = .ok (.tuple #[.int .i16 0, .bool false]) w := fun _ _ => by kernel_rfl
  have ta4 : ∀ v w, (Instr.typeAssert (.iface 5 v) 20 21 true).run Tryz.prog w = .ok (.tuple #[.int .i32 0, .bool false]) w := fun _ _ => by kernel_rfl
  have ta5 : ∀ v w, (Instr.typeAssert (.iface 5 v) 20 2 true).run Tryz.prog w = .ok (.tuple #[.int .i64 0, .bool false]) w := fun _ _ => by kernel_rfl
  have ta6 : ∀ v w, (Instr.typeAssert (.iface 5 v) 20 37 true).run Tryz.prog w = .ok (.tuple #[.int .u64 0, .bool false]) w := fun _ _ => by kernel_rfl
  have ta7 : ∀ v w, (Instr.typeAssert (.iface 5 v) 20 5 true).run Tryz.prog w = .ok (.tuple #[v, .bool true]) w := fun _ _ => by kernel_rfl
  have C := Lib.hid (fun W => indirect_uint8 (.int .u8 n) W)
  have HN := Lib.hid hn
  clear hn
  go_enter Tryz.func77, Tryz.ntmps77
  go_wp2_with fail
  refine (C.out _).mono ?_
  rintro e w1 ⟨rfl, rfl⟩
  go_wp2_with fail
  have hn := HN.out
  refine bodyPost_ret (v := .tuple #[.int .i64 ((n + 9223372036854775808) % 18446744073709551616 - 9223372036854775808), .bool true]) ?_ rfl ⟨rfl, rfl⟩
  first
    | (simp [results, Tryz.results77, go_sem]; done)
    | (simp [results, Tryz.results77, go_sem, wu8, wu16, wu32, wu64, wi8, wi16, wi32, wi64, wrap64, wrap32]; done)
    | (simp [results, Tryz.results77, go_sem, wu8, wu16, wu32, wu64, wi8, wi16, wi32, wi64, wrap64, wrap32]; omega)
    | (simp [results, Tryz.results77, go_sem]; omega)
theorem num_int_uint16 (n : Int) (hn : (0 ≤ n ∧ n < 65536)) (w : World) : Calls Tryz.prog 77 #[.iface 41 (.int .u16 n)] w fun e w' => e = .returned (.tuple #[.int .i64 ((n + 9223372036854775808) % 18446744073709551616 - 9223372036854775808), .bool true]) ∧ w' = w := by
  have ta0 : ∀ v w, (Instr.typeAssert (.iface 41 v) 20 3 true).run Tryz.prog w = .ok (.tuple #[.int .i64 0, .bool false]) w := fun _ _ => by kernel_rfl
  have ta1 : ∀ v w, (Instr.typeAssert (.iface 41 v) 20 3 true).run Tryz.prog w = .ok (.tuple #[.int .i64 0, .bool false]) w := fun _ _ => by kernel_rfl
  have ta2 : ∀ v w, (Instr.typeAssert (.iface 41 v) 20 38 true).run Tryz.prog w = .ok (.tuple #[.int .i8 0, .bool false]) w := fun _ _ => by kernel_rfl
  have ta3 : ∀ v w, (Instr.typeAssert (.iface 41 v) 20 39 true).run Tryz.prog w = .ok (.tuple #[.int .i16 0, .bool false]) w := fun _ _ => by kernel_rfl
  have ta4 : ∀ v w, (Instr.typeAssert (.iface 41 v) 20 21 true).run Tryz.prog w = .ok (.tuple #[.int .i32 0, .bool false]) w := fun _ _ => by kernel_rfl
  have ta5 : ∀ v w, (Instr.typeAssert (.iface 41 v) 20 2 true).run Tryz.prog w = .ok (.tuple #[.int .i64 0, .bool false]) w := fun _ _ => by kernel_rfl
  have ta6 : ∀ v w, (Instr.typeAssert (.iface 41 v) 20 37 true).run Tryz.prog w = .ok (.tuple #[.int .u64 0, .bool false]) w := fun _ _ => by kernel_rfl
  have ta7 : ∀ v w, (Instr.typeAssert (.iface 41 v) 20 5 true).run Tryz.prog w = .ok (.tuple #[.int .u8 0, .bool false]) w := fun _ _ => by kernel_rfl
  have ta8 : ∀ v w, (Instr.typeAssert (.iface 41 v) 20 41 true).run Tryz.prog w = .ok (.tuple #[v, .bool true]) w := fun _ _ => by kernel_rfl
  have C := Lib.hid (fun W => indirect_uint16 (.int .u16 n) W)
  have HN := Lib.hid hn
  clear hn
  go_enter Tryz.func77, Tryz.ntmps77
  go_wp2_with fail
  refine (C.out _).mono ?_
  rintro e w1 ⟨rfl, rfl⟩
  go_wp2_with fail
  have hn := HN.out
  refine bodyPost_ret (v := .tuple #[.int .i64 ((n + 9223372036854775808) % 18446744073709551616 - 9223372036854775808), .bool true]) ?_ rfl ⟨rfl, rfl⟩
  first
    | (simp [results, Tryz.results77, go_sem]; done)
    | (simp [results, Tryz.results77, go_sem, wu8, wu16, wu32, wu64, wi8, wi16, wi32, wi64, wrap64, wrap32]; done)
    | (simp [results, Tryz.results77, go_sem, wu8, wu16, wu32, wu64, wi8, wi16, wi32, wi64, wrap64, wrap32]; omega)
    | (simp [results, Tryz.results77, go_sem]; omega)
theorem num_int_uint32 (n : Int) (hn : (0 ≤ n ∧ n < 4294967296)) (w : World) : Calls Tryz.prog 77 #[.iface 42 (.int .u32 n)] w fun e w' => e = .returned (.tuple #[.int .i64 ((n + 9223372036854775808) % 18446744073709551616 - 9223372036854775808), .bool true]) ∧ w' = w := by
  have ta0 : ∀ v w, (Instr.typeAssert (.iface 42 v) 20 3 true).run Tryz.prog w = .ok (.tuple #[.int .i64 0, .bool false]) w := fun _ _ => by kernel_rfl
  have ta1 : ∀ v w, (Instr.typeAssert (.iface 42 v) 20 3 true).run Tryz.prog w = .ok (.tuple #[.int .i64 0, .bool false]) w := fun _ _ => by kernel_rfl
  have ta2 : ∀ v w, (Instr.typeAssert (.iface 42 v) 20 38 true).run Tryz.prog w = .ok (.tuple #[.int .i8 0, .bool false]) w := fun _ _ => by kernel_rfl
  have ta3 : ∀ v w, (Instr.typeAssert (.iface 42 v) 20 39 true).run Tryz.prog w = .ok (.tuple #[.int .i16 0, .bool false]) w := fun _ _ => by kernel_rfl
  have ta4 : ∀ v w, (Instr.typeAssert (.iface 42 v) 20 21 true).run Tryz.prog w = .ok (.tuple #[.int .i32 0, .bool false]) w := fun _ _ => by kernel_rfl
  have ta5 : ∀ v w, (Instr.typeAssert (.iface 42 v) 20 2 true).run Tryz.prog w = .ok (.tuple #[.int .i64 0, .bool false]) w := fun _ _ => by kernel_rfl
  have ta6 : ∀ v w, (Instr.typeAssert (.iface 42 v) 20 37 true).run Tryz.prog w = .ok (.tuple #[.int .u64 0, .bool false]) w := fun _ _ => by kernel_rfl
  have ta7 : ∀ v w, (Instr.typeAssert (.iface 42 v) 20 5 true).run Tryz.prog w = .ok (.tuple #[.int .u8 0, .bool false]) w := fun _ _ => by kernel_rfl
  have ta8 : ∀ v w, (Instr.typeAssert (.iface 42 v) 20 41 true).run Tryz.prog w = .ok (.tuple #[.int .u16 0, .bool false]) w := fun _ _ => by kernel_rfl
  have ta9 : ∀ v w, (Instr.typeAssert (.iface 42 v) 20 42 true).run Tryz.prog w = .ok (.tuple #[v, .bool true]) w := fun _ _ => by kernel_rfl
  have C := Lib.hid (fun W => indirect_uint32 (.int .u32 n) W)
  have HN := Lib.hid hn
  clear hn
  go_enter Tryz.func77, Tryz.ntmps77
  go_wp2_with fail
  refine (C.out _).mono ?_
  rintro e w1 ⟨rfl, rfl⟩
  go_wp2_with fail
  have hn := HN.out
  refine bodyPost_ret (v := .tuple #[.int .i64 ((n + 9223372036854775808) % 18446744073709551616 - 9223372036854775808), .bool true]) ?_ rfl ⟨rfl, rfl⟩
  first
    | (simp [results, Tryz.results77, go_sem]; done)
    | (simp [results, Tryz.results77, go_sem, wu8, wu16, wu32, wu64, wi8, wi16, wi32, wi64, wrap64, wrap32]; done)
    | (simp [results, Tryz.results77, go_sem, wu8, wu16, wu32, wu64, wi8, wi16, wi32, wi64, wrap64, wrap32]; omega)
    | (simp [results, Tryz.results77, go_sem]; omega)
theorem num_int_uint64 (n : Int) (hn : (0 ≤ n ∧ n < 18446744073709551616)) (w : World) : Calls Tryz.prog 77 #[.iface 24 (.int .u64 n)] w fun e w' => e = .returned (.tuple #[.int .i64 ((n + 9223372036854775808) % 18446744073709551616 - 9223372036854775808), .bool true]) ∧ w' = w := by
  have ta0 : ∀ v w, (Instr.typeAssert (.iface 24 v) 20 3 true).run Tryz.prog w = .ok (.tuple #[.int .i64 0, .bool false]) w := fun _ _ => by kernel_rfl
  have ta1 : ∀ v w, (Instr.typeAssert (.iface 24 v) 20 3 true).run Tryz.prog w = .ok (.tuple #[.int .i64 0, .bool false]) w := fun _ _ => by kernel_rfl
  have ta2 : ∀ v w, (Instr.typeAssert (.iface 24 v) 20 38 true).run Tryz.prog w = .ok (.tuple #[.int .i8 0, .bool false]) w := fun _ _ => by kernel_rfl
  have ta3 : ∀ v w, (Instr.typeAssert (.iface 24 v) 20 39 true).run Tryz.prog w = .ok (.tuple #[.int .i16 0, .bool false]) w := fun _ _ => by kernel_rfl
  have ta4 : ∀ v w, (Instr.typeAssert (.iface 24 v) 20 21 true).run Tryz.prog w = .ok (.tuple #[.int .i32 0, .bool false]) w := fun _ _ => by kernel_rfl
  have ta5 : ∀ v w, (Instr.typeAssert (.iface 24 v) 20 2 true).run Tryz.prog w = .ok (.tuple #[.int .i64 0, .bool false]) w := fun _ _ => by kernel_rfl
  have ta6 : ∀ v w, (Instr.typeAssert (.iface 24 v) 20 37 true).run Tryz.prog w = .ok (.tuple #[.int .u64 0, .bool false]) w := fun _ _ => by kernel_rfl
  have ta7 : ∀ v w, (Instr.typeAssert (.iface 24 v) 20 5 true).run Tryz.prog w = .ok (.tuple #[.int .u8 0, .bool false]) w := fun _ _ => by kernel_rfl
  have ta8 : ∀ v w, (Instr.typeAssert (.iface 24 v) 20 41 true).run Tryz.prog w = .ok (.tuple #[.int .u16 0, .bool false]) w := fun _ _ => by kernel_rfl
  have ta9 : ∀ v w, (Instr.typeAssert (.iface 24 v) 20 42 true).run Tryz.prog w = .ok (.tuple #[.int .u32 0, .bool false]) w := fun _ _ => by kernel_rfl
  have ta10 : ∀ v w, (Instr.typeAssert (.iface 24 v) 20 24 true).run Tryz.prog w = .ok (.tuple #[v, .bool true]) w := fun _ _ => by kernel_rfl
  have C := Lib.hid (fun W => indirect_uint64 (.int .u64 n) W)
  have HN := Lib.hid hn
  clear hn
  go_enter Tryz.func77, Tryz.ntmps77
  go_wp2_with fail
  refine (C.out _).mono ?_
  rintro e w1 ⟨rfl, rfl⟩
  go_wp2_with fail
  have hn := HN.out
  refine bodyPost_ret (v := .tuple #[.int .i64 ((n + 9223372036854775808) % 18446744073709551616 - 9223372036854775808), .bool true]) ?_ rfl ⟨rfl, rfl⟩
  first
    | (simp [results, Tryz.results77, go_sem]; done)
    | (simp [results, Tryz.results77, go_sem, wu8, wu16, wu32, wu64, wi8, wi16, wi32, wi64, wrap64, wrap32]; done)
    | (simp [results, Tryz.results77, go_sem, wu8, wu16, wu32, wu64, wi8, wi16, wi32, wi64, wrap64, wrap32]; omega)
    | (simp [results, Tryz.results77, go_sem]; omega)
theorem cast_int (vk vi vn vf vs vl vm x : Value) (y : Int) (hy : (-9223372036854775808 ≤ y ∧ y < 9223372036854775808)) (hv : ∀ W, Calls Tryz.prog 22 #[.agg #[vk, vi, vn, vf, vs, vl, vm]] W fun e w' => e = .returned x ∧ Below W.heap.size W w')
    (hu : ∀ W, Calls Tryz.prog 77 #[x] W fun e w' => e = .returned (.tuple #[.int .i64 y, .bool true]) ∧ w' = W) (w : World) :
    Calls Tryz.prog 8 #[.int .i64 2, .agg #[vk, vi, vn, vf, vs, vl, vm]] w fun e w' => e = .returned (.tuple #[.int .i64 y, .bool true]) ∧ Below w.heap.size w w' := by
  have E1 : ∀ f W, Calls Tryz.prog 56 #[x, f] W fun e w' => e = .returned (.tuple #[.int .i64 y, .nilIface]) ∧ w' = W := by
    intro f W
    have HU := Lib.hid hu
    clear hu hv hy
    go_enter Tryz.func56, Tryz.ntmps56
    go_wp2_with fail
    refine (HU.out _).mono ?_
    rintro e w1 ⟨rfl, rfl⟩
    go_wp2_with fail
    exact bodyPost_ret (v := .tuple #[.int .i64 y, .nilIface]) (by simp [results, Tryz.results56, go_sem]) rfl ⟨rfl, rfl⟩
  have E2 : ∀ W, Calls Tryz.prog 26 #[x] W fun e w' => e = .returned (.tuple #[.int .i64 y, .nilIface]) ∧ w' = W := by
    intro W
    have HU := Lib.hid E1
    clear hu hv hy E1
    go_enter Tryz.func26, Tryz.ntmps26
    go_wp2_with fail
    refine (HU.out _ _).mono ?_
    rintro e w1 ⟨rfl, rfl⟩
    go_wp2_with fail
    exact bodyPost_ret (v := .tuple #[.int .i64 y, .nilIface]) (by simp [results, Tryz.results26, go_sem]) rfl ⟨rfl, rfl⟩
  have E3 : ∀ W, Calls Tryz.prog 15 #[.agg #[vk, vi, vn, vf, vs, vl, vm]] W fun e w' => e = .returned (.tuple #[.int .i64 y, .bool true]) ∧ Below W.heap.size W w' := by
    intro W
    have hn0 : ∀ w, Sem.run Tryz.prog (binOp BinOp.eql 45 Value.nilIface Value.nilIface) w = .ok (.bool true) w := fun _ => by kernel_rfl
    have HU := Lib.hid E2
    have HV := Lib.hid hv
    have HY := Lib.hid hy
    clear hu hv hy E1 E2
    go_enter Tryz.func15, Tryz.ntmps15
    go_wp2_with fail
    refine (HV.out _).mono ?_
    rintro e w1 ⟨rfl, hb1⟩
    go_wp2_with fail
    refine (HU.out _).mono ?_
    rintro e w2 ⟨rfl, rfl⟩
    go_wp2_with fail
    go_quiet (fail)
    go_wp2_with fail
    have hy := HY.out
    refine bodyPost_ret (v := .tuple #[.int .i64 y, .bool true]) ?_ rfl ⟨rfl, Below.drewN' (Below.after ((Below.refl _ _).alloc (Nat.le_refl _) _) hb1)⟩
    first
      | (simp [results, Tryz.results15, go_sem]; done)
      | (simp [results, Tryz.results15, go_sem, wu8, wu16, wu32, wu64, wi8, wi16, wi32, wi64, wrap64, wrap32]; omega)
      | (simp [results, Tryz.results15, go_sem]; omega)
  have HU := Lib.hid E3
  clear hu hv hy E1 E2 E3
  go_enter Tryz.func8, Tryz.ntmps8
  go_wp2_with fail
  refine (HU.out _).mono ?_
  rintro e w1 ⟨rfl, hb1⟩
  go_wp2_with fail
  exact bodyPost_ret (v := .tuple #[.int .i64 y, .bool true]) (by simp [results, Tryz.results8, go_sem]) rfl ⟨rfl, Below.after ((Below.refl _ _).alloc (Nat.le_refl _) _) hb1⟩
theorem cut_int (n : Int) (hn : (-9223372036854775808 ≤ n ∧ n < 9223372036854775808)) (w : World) : Calls Tryz.prog 7 #[.int .i64 2, .int .i64 n] w fun e w' => e = .returned (.int .i64 ((n + 9223372036854775808) % 18446744073709551616 - 9223372036854775808)) ∧ w' = w := by
  have HN := Lib.hid hn
  clear hn
  go_enter Tryz.func7, Tryz.ntmps7
  go_wp2_with fail
  have hn := HN.out
  go_ret
  refine ⟨?_, rfl⟩
  first
    | rfl
    | (refine congrArg (fun z => Ending.returned (Value.int IntKind.i64 z)) ?_; first | omega | (simp only [wu8, wu16, wu32, wu64, wi8, wi16, wi32, wi64, wrap64, wrap32]; omega))
theorem num_int8_uint (n : Int) (hn : (0 ≤ n ∧ n < 18446744073709551616)) (w : World) : Calls Tryz.prog 68 #[.iface 37 (.int .u64 n)] w fun e w' => e = .returned (.tuple #[.int .i8 ((n + 128) % 256 - 128), .bool true]) ∧ w' = w := by
  have ta0 : ∀ v w, (Instr.typeAssert (.iface 37 v) 20 38 true).run Tryz.prog w = .ok (.tuple #[.int .i8 0, .bool false]) w := fun _ _ => by kernel_rfl
  have ta1 : ∀ v w, (Instr.typeAssert (.iface 37 v) 20 3 true).run Tryz.prog w = .ok (.tuple #[.int .i64 0, .bool false]) w := fun _ _ => by kernel_rfl
  have ta2 : ∀ v w, (Instr.typeAssert (.iface 37 v) 20 38 true).run Tryz.prog w = .ok (.tuple #[.int .i8 0, .bool false]) w := fun _ _ => by kernel_rfl
  have ta3 : ∀ v w, (Instr.typeAssert (.iface 37 v) 20 39 true).run Tryz.prog w = .ok (.tuple #[.int .i16 0, .bool false]) w := fun _ _ => by kernel_rfl
  have ta4 : ∀ v w, (Instr.typeAssert (.iface 37 v) 20 21 true).run Tryz.prog w = .ok (.tuple #[.int .i32 0, .bool false]) w := fun _ _ => by kernel_rfl
  have ta5 : ∀ v w, (Instr.typeAssert (.iface 37 v) 20 2 true).run Tryz.prog w = .ok (.tuple #[.int .i64 0, .bool false]) w := fun _ _ => by kernel_rfl
  have ta6 : ∀ v w, (Instr.typeAssert (.iface 37 v) 20 37 true).run Tryz.prog w = .ok (.tuple #[v, .bool true]) w := fun _ _ => by kernel_rfl
  have C := Lib.hid (fun W => indirect_uint (.int .u64 n) W)
  have HN := Lib.hid hn
  clear hn
  go_enter Tryz.func68, Tryz.ntmps68
  go_wp2_with fail
  refine (C.out _).mono ?_
  rintro e w1 ⟨rfl, rfl⟩
  go_wp2_with fail
  have hn := HN.out
  refine bodyPost_ret (v := .tuple #[.int .i8 ((n + 128) % 256 - 128), .bool true]) ?_ rfl ⟨rfl, rfl⟩
  first
    | (simp [results, Tryz.results68, go_sem]; done)
    | (simp [results, Tryz.results68, go_sem, wu8, wu16, wu32, wu64, wi8, wi16, wi32, wi64, wrap64, wrap32]; done)
    | (simp [results, Tryz.results68, go_sem, wu8, wu16, wu32, wu64, wi8, wi16, wi32, wi64, wrap64, wrap32]; omega)
    | (simp [results, Tryz.results68, go_sem]; omega)
theorem num_int8_uint8 (n : Int) (hn : (0 ≤ n ∧ n < 256)) (w : World) : Calls Tryz.prog 68 #[.iface 5 (.int .u8 n)] w fun e w' => e = .returned (.tuple #[.int .i8 ((n + 128) % 256 - 128), .bool true]) ∧ w' = w := by
  have ta0 : ∀ v w, (Instr.typeAssert (.iface 5 v) 20 38 true).run Tryz.prog w = .ok (.tuple #[.int .i8 0, .bool false]) w := fun _ _ => by kernel_rfl
  have ta1 : ∀ v w, (Instr.typeAssert (.iface 5 v) 20 3 true).run Tryz.prog w = .ok (.tuple #[.int .i64 0, .bool false]) w := fun _ _ => by kernel_rfl
  have ta2 : ∀ v w, (Instr.typeAssert (.iface 5 v) 20 38 true).run Tryz.prog w = .ok (.tuple #[.int .i8 0, .bool false]) w := fun _ _ => by kernel_rfl
  have ta3 : ∀ v w, (Instr.typeAssert (.iface 5 v) 20 39 true).run Tryz.prog w = .ok (.tuple #[.int .i16 0, .bool false]) w := fun _ _ => by kernel_rfl
  have ta4 : ∀ v w, (Instr.typeAssert (.iface 5 v) 20 21 true).run Tryz.prog w = .ok (.tuple #[.int .i32 0, .bool false]) w := fun _ _ => by kernel_rfl
  have ta5 : ∀ v w, (Instr.typeAssert (.iface 5 v) 20 2 true).run Tryz.prog w = .ok (.tuple #[.int .i64 0, .bool false]) w := fun _ _ => by kernel_rfl
  have ta6 : ∀ v w, (Instr.typeAssert (.iface 5 v) 20 37 true).run Tryz.prog w = .ok (.tuple #[.int .u64 0, .bool false]) w := fun _ _ => by kernel_rfl
  have ta7 : ∀ v w, (Instr.typeAssert (.iface 5 v) 20 5 true).run Tryz.prog w = .ok (.tuple #[v, .bool true]) w := fun _ _ => by kernel_rfl
  have C := Lib.hid (fun W => indirect_uint8 (.int .u8 n) W)
  have HN := Lib.hid hn
  clear hn
  go_enter Tryz.func68, Tryz.ntmps68
  go_wp2_with fail
  refine (C.out _).mono ?_
  rintro e w1 ⟨rfl, rfl⟩
  go_wp2_with fail
  have hn := HN.out
  refine bodyPost_ret (v := .tuple #[.int .i8 ((n + 128) % 256 - 128), .bool true]) ?_ rfl ⟨rfl, rfl⟩
  first
    | (simp [results, Tryz.results68, go_sem]; done)
    | (simp [results, Tryz.results68, go_sem, wu8, wu16, wu32, wu64, wi8, wi16, wi32, wi64, wrap64, wrap32]; done)
    | (simp [results, Tryz.results68, go_sem, wu8, wu16, wu32, wu64, wi8, wi16, wi32, wi64, wrap64, wrap32]; omega)
    | (simp [results, Tryz.results68, go_sem]; omega)
theorem num_int8_uint16 (n : Int) (hn : (0 ≤ n ∧ n < 65536)) (w : World) : Calls Tryz.prog 68 #[.iface 41 (.int .u16 n)] w fun e w' => e = .returned (.tuple #[.int .i8 ((n + 128) % 256 - 128), .bool true]) ∧ w' = w := by
  have ta0 : ∀ v w, (Instr.typeAssert (.iface 41 v) 20 38 true).run Tryz.prog w = .ok (.tuple #[.int .i8 0, .bool false]) w := fun _ _ => by kernel_rfl
  have ta1 : ∀ v w, (Instr.typeAssert (.iface 41 v) 20 3 true).run Tryz.prog w = .ok (.tuple #[.int .i64 0, .bool false]) w := fun _ _ => by kernel_rfl
  have ta2 : ∀ v w, (Instr.typeAssert (.iface 41 v) 20 38 true).run Tryz.prog w = .ok (.tuple #[.int .i8 0, .bool false]) w := fun _ _ => by kernel_rfl
  have ta3 : ∀ v w, (Instr.typeAssert (.iface 41 v) 20 39 true).run Tryz.prog w = .ok (.tuple #[.int .i16 0, .bool false]) w := fun _ _ => by kernel_rfl
  have ta4 : ∀ v w, (Instr.typeAssert (.iface 41 v) 20 21 true).run Tryz.prog w = .ok (.tuple #[.int .i32 0, .bool false]) w := fun _ _ => by kernel_rfl
  have ta5 : ∀ v w, (Instr.typeAssert (.iface 41 v) 20 2 true).run Tryz.prog w = .ok (.tuple #[.int .i64 0, .bool false]) w := fun _ _ => by kernel_rfl
  have ta6 : ∀ v w, (Instr.typeAssert (.iface 41 v) 20 37 true).run Tryz.prog w = .ok (.tuple #[.int .u64 0, .bool false]) w := fun _ _ => by kernel_rfl
  have ta7 : ∀ v w, (Instr.typeAssert (.iface 41 v) 20 5 true).run Tryz.prog w = .ok (.tuple #[.int .u8 0, .bool false]) w := fun _ _ => by kernel_rfl
  have ta8 : ∀ v w, (Instr.typeAssert (.iface 41 v) 20 41 true).run Tryz.prog w = .ok (.tuple #[v, .bool true]) w := fun _ _ => by kernel_rfl
  have C := Lib.hid (fun W => indirect_uint16 (.int .u16 n) W)
  have HN := Lib.hid hn
  clear hn
  go_enter Tryz.func68, Tryz.ntmps68
  go_wp2_with fail
  refine (C.out _).mono ?_
  rintro e w1 ⟨rfl, rfl⟩
  go_wp2_with fail
  have hn := HN.out
  refine bodyPost_ret (v := .tuple #[.int .i8 ((n + 128) % 256 - 128), .bool true]) ?_ rfl ⟨rfl, rfl⟩
  first
    | (simp [results, Tryz.results68, go_sem]; done)
    | (simp [results, Tryz.results68, go_sem, wu8, wu16, wu32, wu64, wi8, wi16, wi32, wi64, wrap64, wrap32]; done)
    | (simp [results, Tryz.results68, go_sem, wu8, wu16, wu32, wu64, wi8, wi16, wi32, wi64, wrap64, wrap32]; omega)
    | (simp [results, Tryz.results68, go_sem]; omega)
theorem num_int8_uint32 (n : Int) (hn : (0 ≤ n ∧ n < 4294967296)) (w : World) : Calls Tryz.prog 68 #[.iface 42 (.int .u32 n)] w fun e w' => e = .returned (.tuple #[.int .i8 ((n + 128) % 256 - 128), .bool true]) ∧ w' = w := by
  have ta0 : ∀ v w, (Instr.typeAssert (.iface 42 v) 20 38 true).run Tryz.prog w = .ok (.tuple #[.int .i8 0, .bool false]) w := fun _ _ => by kernel_rfl
  have ta1 : ∀ v w, (Instr.typeAssert (.iface 42 v) 20 3 true).run Tryz.prog w = .ok (.tuple #[.int .i64 0, .bool false]) w := fun _ _ => by kernel_rfl
  have ta2 : ∀ v w, (Instr.typeAssert (.iface 42 v) 20 38 true).run Tryz.prog w = .ok (.tuple #[.int .i8 0, .bool false]) w := fun _ _ => by kernel_rfl
  have ta3 : ∀ v w, (Instr.typeAssert (.iface 42 v) 20 39 true).run Tryz.prog w = .ok (.tuple #[.int .i16 0, .bool false]) w := fun _ _ => by kernel_rfl
  have ta4 : ∀ v w, (Instr.typeAssert (.iface 42 v) 20 21 true).run Tryz.prog w = .ok (.tuple #[.int .i32 0, .bool false]) w := fun _ _ => by kernel_rfl
  have ta5 : ∀ v w, (Instr.typeAssert (.iface 42 v) 20 2 true).run Tryz.prog w = .ok (.tuple #[.int .i64 0, .bool false]) w := fun _ _ => by kernel_rfl
  have ta6 : ∀ v w, (Instr.typeAssert (.iface 42 v) 20 37 true).run Tryz.prog w = .ok (.tuple #[.int .u64 0, .bool false]) w := fun _ _ => by kernel_rfl
  have ta7 : ∀ v w, (Instr.typeAssert (.iface 42 v) 20 5 true).run Tryz.prog w = .ok (.tuple #[.int .u8 0, .bool false]) w := fun _ _ => by kernel_rfl
  have ta8 : ∀ v w, (Instr.typeAssert (.iface 42 v) 20 41 true).run Tryz.prog w = .ok (.tuple #[.int .u16 0, .bool false]) w := fun _ _ => by kernel_rfl
  have ta9 : ∀ v w, (Instr.typeAssert (.iface 42 v) 20 42 true).run Tryz.prog w = .ok (.tuple #[v, .bool true]) w := fun _ _ => by kernel_rfl
  have C := Lib.hid (fun W => indirect_uint32 (.int .u32 n) W)
  have HN := Lib.hid hn
  clear hn
  go_enter Tryz.func68, Tryz.ntmps68
  go_wp2_with fail
  refine (C.out _).mono ?_
  rintro e w1 ⟨rfl, rfl⟩
  go_wp2_with fail
  have hn := HN.out
  refine bodyPost_ret (v := .tuple #[.int .i8 ((n + 128) % 256 - 128), .bool true]) ?_ rfl ⟨rfl, rfl⟩
  first
    | (simp [results, Tryz.results68, go_sem]; done)
    | (simp [results, Tryz.results68, go_sem, wu8, wu16, wu32, wu64, wi8, wi16, wi32, wi64, wrap64, wrap32]; done)
    | (simp [results, Tryz.results68, go_sem, wu8, wu16, wu32, wu64, wi8, wi16, wi32, wi64, wrap64, wrap32]; omega)
    | (simp [results, Tryz.results68, go_sem]; omega)
theorem num_int8_uint64 (n : Int) (hn : (0 ≤ n ∧ n < 18446744073709551616)) (w : World) : Calls Tryz.prog 68 #[.iface 24 (.int .u64 n)] w fun e w' => e = .returned (.tuple #[.int .i8 ((n + 128) % 256 - 128), .bool true]) ∧ w' = w := by
  have ta0 : ∀ v w, (Instr.typeAssert (.iface 24 v) 20 38 true).run Tryz.prog w = .ok (.tuple #[.int .i8 0, .bool false]) w := fun _ _ => by kernel_rfl
  have ta1 : ∀ v w, (Instr.typeAssert (.iface 24 v) 20 3 true).run Tryz.prog w = .ok (.tuple #[.int .i64 0, .bool false]) w := fun _ _ => by kernel_rfl
  have ta2 : ∀ v w, (Instr.typeAssert (.iface 24 v) 20 38 true).run Tryz.prog w = .ok (.tuple #[.int .i8 0, .bool false]) w := fun _ _ => by kernel_rfl
  have ta3 : ∀ v w, (Instr.typeAssert (.iface 24 v) 20 39 true).run Tryz.prog w = .ok (.tuple #[.int .i16 0, .bool false]) w := fun _ _ => by kernel_rfl
  have ta4 : ∀ v w, (Instr.typeAssert (.iface 24 v) 20 21 true).run Tryz.prog w = .ok (.tuple #[.int .i32 0, .bool false]) w := fun _ _ => by kernel_rfl
  have ta5 : ∀ v w, (Instr.typeAssert (.iface 24 v) 20 2 true).run Tryz.prog w = .ok (.tuple #[.int .i64 0, .bool false]) w := fun _ _ => by kernel_rfl
  have ta6 : ∀ v w, (Instr.typeAssert (.iface 24 v) 20 37 true).run Tryz.prog w = .ok (.tuple #[.int .u64 0, .bool false]) w := fun _ _ => by kernel_rfl
  have ta7 : ∀ v w, (Instr.typeAssert (.iface 24 v) 20 5 true).run Tryz.prog w = .ok (.tuple #[.int .u8 0, .bool false]) w := fun _ _ => by kernel_rfl
  have ta8 : ∀ v w, (Instr.typeAssert (.iface 24 v) 20 41 true).run Tryz.prog w = .ok (.tuple #[.int .u16 0, .bool false]) w := fun _ _ => by kernel_rfl
  have ta9 : ∀ v w, (Instr.typeAssert (.iface 24 v) 20 42 true).run Tryz.prog w = .ok (.tuple #[.int .u32 0, .bool false]) w := fun _ _ => by kernel_rfl
  have ta10 : ∀ v w, (Instr.typeAssert (.iface 24 v) 20 24 true).run Tryz.prog w = .ok (.tuple #[v, .bool true]) w := fun _ _ => by kernel_rfl
  have C := Lib.hid (fun W => indirect_uint64 (.int .u64 n) W)
  have HN := Lib.hid hn
  clear hn
  go_enter Tryz.func68, Tryz.ntmps68
  go_wp2_with fail
  refine (C.out _).mono ?_
  rintro e w1 ⟨rfl, rfl⟩
  go_wp2_with fail
  have hn := HN.out
  refine bodyPost_ret (v := .tuple #[.int .i8 ((n + 128) % 256 - 128), .bool true]) ?_ rfl ⟨rfl, rfl⟩
  first
    | (simp [results, Tryz.results68, go_sem]; done)
    | (simp [results, Tryz.results68, go_sem, wu8, wu16, wu32, wu64, wi8, wi16, wi32, wi64, wrap64, wrap32]; done)
    | (simp [results, Tryz.results68, go_sem, wu8, wu16, wu32, wu64, wi8, wi16, wi32, wi64, wrap64, wrap32]; omega)
    | (simp [results, Tryz.results68, go_sem]; omega)
theorem cast_int8 (vk vi vn vf vs vl vm x : Value) (y : Int) (hy : (-9223372036854775808 ≤ y ∧ y < 9223372036854775808)) (hv : ∀ W, Calls Tryz.prog 22 #[.agg #[vk, vi, vn, vf, vs, vl, vm]] W fun e w' => e = .returned x ∧ Below W.heap.size W w')
    (hu : ∀ W, Calls Tryz.prog 68 #[x] W fun e w' => e = .returned (.tuple #[.int .i8 y, .bool true]) ∧ w' = W) (w : World) :
    Calls Tryz.prog 8 #[.int .i64 3, .agg #[vk, vi, vn, vf, vs, vl, vm]] w fun e w' => e = .returned (.tuple #[.int .i64 y, .bool true]) ∧ Below w.heap.size w w' := by
  have E1 : ∀ f W, Calls Tryz.prog 32 #[x, f] W fun e w' => e = .returned (.tuple #[.int .i8 y, .nilIface]) ∧ w' = W := by
    intro f W
    have HU := Lib.hid hu
    clear hu hv hy
    go_enter Tryz.func32, Tryz.ntmps32
    go_wp2_with fail
    refine (HU.out _).mono ?_
    rintro e w1 ⟨rfl, rfl⟩
    go_wp2_with fail
    exact bodyPost_ret (v := .tuple #[.int .i8 y, .nilIface]) (by simp [results, Tryz.results32, go_sem]) rfl ⟨rfl, rfl⟩
  have E2 : ∀ W, Calls Tryz.prog 21 #[x] W fun e w' => e = .returned (.tuple #[.int .i8 y, .nilIface]) ∧ w' = W := by
    intro W
    have HU := Lib.hid E1
    clear hu hv hy E1
    go_enter Tryz.func21, Tryz.ntmps21
    go_wp2_with fail
    refine (HU.out _ _).mono ?_
    rintro e w1 ⟨rfl, rfl⟩
    go_wp2_with fail
    exact bodyPost_ret (v := .tuple #[.int .i8 y, .nilIface]) (by simp [results, Tryz.results21, go_sem]) rfl ⟨rfl, rfl⟩
  have E3 : ∀ W, Calls Tryz.prog 11 #[.agg #[vk, vi, vn, vf, vs, vl, vm]] W fun e w' => e = .returned (.tuple #[.int .i64 y, .bool true]) ∧ Below W.heap.size W w' := by
    intro W
    have hn0 : ∀ w, Sem.run Tryz.prog (binOp BinOp.eql 45 Value.nilIface Value.nilIface) w = .ok (.bool true) w := fun _ => by kernel_rfl
    have HU := Lib.hid E2
    have HV := Lib.hid hv
    have HY := Lib.hid hy
    clear hu hv hy E1 E2
    go_enter Tryz.func11, Tryz.ntmps11
    go_wp2_with fail
    refine (HV.out _).mono ?_
    rintro e w1 ⟨rfl, hb1⟩
    go_wp2_with fail
    refine (HU.out _).mono ?_
    rintro e w2 ⟨rfl, rfl⟩
    go_wp2_with fail
    go_quiet (fail)
    go_wp2_with fail
    have hy := HY.out
    refine bodyPost_ret (v := .tuple #[.int .i64 y, .bool true]) ?_ rfl ⟨rfl, Below.drewN' (Below.after ((Below.refl _ _).alloc (Nat.le_refl _) _) hb1)⟩
    first
      | (simp [results, Tryz.results11, go_sem]; done)
      | (simp [results, Tryz.results11, go_sem, wu8, wu16, wu32, wu64, wi8, wi16, wi32, wi64, wrap64, wrap32]; omega)
      | (simp [results, Tryz.results11, go_sem]; omega)
  have HU := Lib.hid E3
  clear hu hv hy E1 E2 E3
  go_enter Tryz.func8, Tryz.ntmps8
  go_wp2_with fail
  refine (HU.out _).mono ?_
  rintro e w1 ⟨rfl, hb1⟩
  go_wp2_with fail
  exact bodyPost_ret (v := .tuple #[.int .i64 y, .bool true]) (by simp [results, Tryz.results8, go_sem]) rfl ⟨rfl, Below.after ((Below.refl _ _).alloc (Nat.le_refl _) _) hb1⟩
theorem cut_int8 (n : Int) (hn : (-9223372036854775808 ≤ n ∧ n < 9223372036854775808)) (w : World) : Calls Tryz.prog 7 #[.int .i64 3, .int .i64 n] w fun e w' => e = .returned (.int .i64 ((n + 128) % 256 - 128)) ∧ w' = w := by
  have HN := Lib.hid hn
  clear hn
  go_enter Tryz.func7, Tryz.ntmps7
  go_wp2_with fail
  have hn := HN.out
  go_ret
  refine ⟨?_, rfl⟩
  first
    | rfl
    | (refine congrArg (fun z => Ending.returned (Value.int IntKind.i64 z)) ?_; first | omega | (simp only [wu8, wu16, wu32, wu64, wi8, wi16, wi32, wi64, wrap64, wrap32]; omega))
theorem num_int16_uint (n : Int) (hn : (0 ≤ n ∧ n < 18446744073709551616)) (w : World) : Calls Tryz.prog 74 #[.iface 37 (.int .u64 n)] w fun e w' => e = .returned (.tuple #[.int .i16 ((n + 32768) % 65536 - 32768), .bool true]) ∧ w' = w := by
  have ta0 : ∀ v w, (Instr.typeAssert (.iface 37 v) 20 39 true).run Tryz.prog w = .ok (.tuple #[.int .i16 0, .bool false]) w := fun _ _ => by kernel_rfl
  have ta1 : ∀ v w, (Instr.typeAssert (.iface 37 v) 20 3 true).run Tryz.prog w = .ok (.tuple #[.int .i64 0, .bool false]) w := fun _ _ => by kernel_rfl
  have ta2 : ∀ v w, (Instr.typeAssert (.iface 37 v) 20 38 true).run Tryz.prog w = .ok (.tuple #[.int .i8 0, .bool false]) w := fun _ _ => by kernel_rfl
  have ta3 : ∀ v w, (Instr.typeAssert (.iface 37 v) 20 39 true).run Tryz.prog w = .ok (.tuple #[.int .i16 0, .bool false]) w := fun _ _ => by kernel_rfl
  have ta4 : ∀ v w, (Instr.typeAssert (.iface 37 v) 20 21 true).run Tryz.prog w = .ok (.tuple #[.int .i32 0, .bool false]) w := fun _ _ => by kernel_rfl
  have ta5 : ∀ v w, (Instr.typeAssert (.iface 37 v) 20 2 true).run Tryz.prog w = .ok (.tuple #[.int .i64 0, .bool false]) w := fun _ _ => by kernel_rfl
  have ta6 : ∀ v w, (Instr.typeAssert (.iface 37 v) 20 37 true).run Tryz.prog w = .ok (.tuple #[v, .bool true]) w := fun _ _ => by kernel_rfl
  have C := Lib.hid (fun W => indirect_uint (.int .u64 n) W)
  have HN := Lib.hid hn
  clear hn
  go_enter Tryz.func74, Tryz.ntmps74
  go_wp2_with fail
  refine (C.out _).mono ?_
  rintro e w1 ⟨rfl, rfl⟩
  go_wp2_with fail
  have hn := HN.out
  refine bodyPost_ret (v := .tuple #[.int .i16 ((n + 32768) % 65536 - 32768), .bool true]) ?_ rfl ⟨rfl, rfl⟩
  first
    | (simp [results, Tryz.results74, go_sem]; done)
    | (simp [results, Tryz.results74, go_sem, wu8, wu16, wu32, wu64, wi8, wi16, wi32, wi64, wrap64, wrap32]; done)
    | (simp [results, Tryz.results74, go_sem, wu8, wu16, wu32, wu64, wi8, wi16, wi32, wi64, wrap64, wrap32]; omega)
    | (simp [results, Tryz.results74, go_sem]; omega)
theorem num_int16_uint8 (n : Int) (hn : (0 ≤ n ∧ n < 256)) (w : World) : Calls Tryz.prog 74 #[.iface 5 (.int .u8 n)] w fun e w' => e = .returned (.tuple #[.int .i16 ((n + 32768) % 65536 - 32768), .bool true]) ∧ w' = w := by
  have ta0 : ∀ v w, (Instr.typeAssert (.iface 5 v) 20 39 true).run Tryz.prog w = .ok (.tuple #[.int .i16 0, .bool false]) w := fun _ _ => by kernel_rfl
  have ta1 : ∀ v w, (Instr.typeAssert (.iface 5 v) 20 3 true).run Tryz.prog w = .ok (.tuple #[.int .i64 0, .bool false]) w := fun _ _ => by kernel_rfl
  have ta2 : ∀ v w, (Instr.typeAssert (.iface 5 v) 20 38 true).run Tryz.prog w = .ok (.tuple #[.int .i8 0, .bool false]) w := fun _ _ => by kernel_rfl
  have ta3 : ∀ v w, (Instr.typeAssert (.iface 5 v) 20 39 true).run Tryz.prog w = .ok (.tuple #[.int .i16 0, .bool false]) w := fun _ _ => by kernel_rfl
  have ta4 : ∀ v w, (Instr.typeAssert (.iface 5 v) 20 21 true).run Tryz.prog w = .ok (.tuple #[.int .i32 0, .bool false]) w := fun _ _ => by kernel_rfl
  have ta5 : ∀ v w, (Instr.typeAssert (.iface 5 v) 20 2 true).run Tryz.prog w = .ok (.tuple #[.int .i64 0, .bool false]) w := fun _ _ => by kernel_rfl
  have ta6 : ∀ v w, (Instr.typeAssert (.iface 5 v) 20 37 true).run Tryz.prog w = .ok (.tuple #[.int .u64 0, .bool false]) w := fun _ _ => by kernel_rfl
  have ta7 : ∀ v w, (Instr.typeAssert (.iface 5 v) 20 5 true).run Tryz.prog w = .ok (.tuple #[v, .bool true]) w := fun _ _ => by kernel_rfl
  have C := Lib.hid (fun W => indirect_uint8 (.int .u8 n) W)
  have HN := Lib.hid hn
  clear hn
  go_enter Tryz.func74, Tryz.ntmps74
  go_wp2_with fail
  refine (C.out _).mono ?_
  rintro e w1 ⟨rfl, rfl⟩
  go_wp2_with fail
  have hn := HN.out
  refine bodyPost_ret (v := .tuple #[.int .i16 ((n + 32768) % 65536 - 32768), .bool true]) ?_ rfl ⟨rfl, rfl⟩
  first
    | (simp [results, Tryz.results74, go_sem]; done)
    | (simp [results, Tryz.results74, go_sem, wu8, wu16, wu32, wu64, wi8, wi16, wi32, wi64, wrap64, wrap32]; done)
    | (simp [results, Tryz.results74, go_sem, wu8, wu16, wu32, wu64, wi8, wi16, wi32, wi64, wrap64, wrap32]; omega)
    | (simp [results, Tryz.results74, go_sem]; omega)
theorem num_int16_uint16 (n : Int) (hn : (0 ≤ n ∧ n < 65536)) (w : World) : Calls Tryz.prog 74 #[.iface 41 (.int .u16 n)] w fun e w' => e = .returned (.tuple #[.int .i16 ((n + 32768) % 65536 - 32768), .bool true]) ∧ w' = w := by
  have ta0 : ∀ v w, (Instr.typeAssert (.iface 41 v) 20 39 true).run Tryz.prog w = .ok (.tuple #[.int .i16 0, .bool false]) w := fun _ _ => by kernel_rfl
  have ta1 : ∀ v w, (Instr.typeAssert (.iface 41 v) 20 3 true).run Tryz.prog w = .ok (.tuple #[.int .i64 0, .bool false]) w := fun _ _ => by kernel_rfl
  have ta2 : ∀ v w, (Instr.typeAssert (.iface 41 v) 20 38 true).run Tryz.prog w = .ok (.tuple #[.int .i8 0, .bool false]) w := fun _ _ => by kernel_rfl
  have ta3 : ∀ v w, (Instr.typeAssert (.iface 41 v) 20 39 true).run Tryz.prog w = .ok (.tuple #[.int .i16 0, .bool false]) w := fun _ _ => by kernel_rfl
  have ta4 : ∀ v w, (Instr.typeAssert (.iface 41 v) 20 21 true).run Tryz.prog w = .ok (.tuple #[.int .i32 0, .bool false]) w := fun _ _ => by kernel_rfl
  have ta5 : ∀ v w, (Instr.typeAssert (.iface 41 v) 20 2 true).run Tryz.prog w = .ok (.tuple #[.int .i64 0, .bool false]) w := fun _ _ => by kernel_rfl
  have ta6 : ∀ v w, (Instr.typeAssert (.iface 41 v) 20 37 true).run Tryz.prog w = .ok (.tuple #[.int .u64 0, .bool false]) w := fun _ _ => by kernel_rfl
  have ta7 : ∀ v w, (Instr.typeAssert (.iface 41 v) 20 5 true).run Tryz.prog w = .ok (.tuple #[.int .u8 0, .bool false]) w := fun _ _ => by kernel_rfl
  have ta8 : ∀ v w, (Instr.typeAssert (.iface 41 v) 20 41 true).run Tryz.prog w = .ok (.tuple #[v, .bool true]) w := fun _ _ => by kernel_rfl
  have C := Lib.hid (fun W => indirect_uint16 (.int .u16 n) W)
  have HN := Lib.hid hn
  clear hn
  go_enter Tryz.func74, Tryz.ntmps74
  go_wp2_with fail
  refine (C.out _).mono ?_
  rintro e w1 ⟨rfl, rfl⟩
  go_wp2_with fail
  have hn := HN.out
  refine bodyPost_ret (v := .tuple #[.int .i16 ((n + 32768) % 65536 - 32768), .bool true]) ?_ rfl ⟨rfl, rfl⟩
  first
    | (simp [results, Tryz.results74, go_sem]; done)
    | (simp [results, Tryz.results74, go_sem, wu8, wu16, wu32, wu64, wi8, wi16, wi32, wi64, wrap64, wrap32]; done)
    | (simp [results, Tryz.results74, go_sem, wu8, wu16, wu32, wu64, wi8, wi16, wi32, wi64, wrap64, wrap32]; omega)
    | (simp [results, Tryz.results74, go_sem]; omega)
theorem num_int16_uint32 (n : Int) (hn : (0 ≤ n ∧ n < 4294967296)) (w : World) : Calls Tryz.prog 74 #[.iface 42 (.int .u32 n)] w fun e w' => e = .returned (.tuple #[.int .i16 ((n + 32768) % 65536 - 32768), .bool true]) ∧ w' = w := by
  have ta0 : ∀ v w, (Instr.typeAssert (.iface 42 v) 20 39 true).run Tryz.prog w = .ok (.tuple #[.int .i16 0, .bool false]) w := fun _ _ => by kernel_rfl
  have ta1 : ∀ v w, (Instr.typeAssert (.iface 42 v) 20 3 true).run Tryz.prog w = .ok (.tuple #[.int .i64 0, .bool false]) w := fun _ _ => by kernel_rfl
  have ta2 : ∀ v w, (Instr.typeAssert (.iface 42 v) 20 38 true).run Tryz.prog w = .ok (.tuple #[.int .i8 0, .bool false]) w := fun _ _ => by kernel_rfl
  have ta3 : ∀ v w, (Instr.typeAssert (.iface 42 v) 20 39 true).run Tryz.prog w = .ok (.tuple #[.int .i16 0, .bool false]) w := fun _ _ => by kernel_rfl
  have ta4 : ∀ v w, (Instr.typeAssert (.iface 42 v) 20 21 true).run Tryz.prog w = .ok (.tuple #[.int .i32 0, .bool false]) w := fun _ _ => by kernel_rfl
  have ta5 : ∀ v w, (Instr.typeAssert (.iface 42 v) 20 2 true).run Tryz.prog w = .ok (.tuple #[.int .i64 0, .bool false]) w := fun _ _ => by kernel_rfl
  have ta6 : ∀ v w, (Instr.typeAssert (.iface 42 v) 20 37 true).run Tryz.prog w = .ok (.tuple #[.int .u64 0, .bool false]) w := fun _ _ => by kernel_rfl
  have ta7 : ∀ v w, (Instr.typeAssert (.iface 42 v) 20 5 true).run Tryz.prog w = .ok (.tuple #[.int .u8 0, .bool false]) w := fun _ _ => by kernel_rfl
  have ta8 : ∀ v w, (Instr.typeAssert (.iface 42 v) 20 41 true).run Tryz.prog w = .ok (.tuple #[.int .u16 0, .bool false]) w := fun _ _ => by kernel_rfl
  have ta9 : ∀ v w, (Instr.typeAssert (.iface 42 v) 20 42 true).run Tryz.prog w = .ok (.tuple #[v, .bool true]) w := fun _ _ => by kernel_rfl
  have C := Lib.hid (fun W => indirect_uint32 (.int .u32 n) W)
  have HN := Lib.hid hn
  clear hn
  go_enter Tryz.func74, Tryz.ntmps74
  go_wp2_with fail
  refine (C.out _).mono ?_
  rintro e w1 ⟨rfl, rfl⟩
  go_wp2_with fail
  have hn := HN.out
  refine bodyPost_ret (v := .tuple #[.int .i16 ((n + 32768) % 65536 - 32768), .bool true]) ?_ rfl ⟨rfl, rfl⟩
  first
    | (simp [results, Tryz.results74, go_sem]; done)
    | (simp [results, Tryz.results74, go_sem, wu8, wu16, wu32, wu64, wi8, wi16, wi32, wi64, wrap64, wrap32]; done)
    | (simp [results, Tryz.results74, go_sem, wu8, wu16, wu32, wu64, wi8, wi16, wi32, wi64, wrap64, wrap32]; omega)
    | (simp [results, Tryz.results74, go_sem]; omega)
theorem num_int16_uint64 (n : Int) (hn : (0 ≤ n ∧ n < 18446744073709551616)) (w : World) : Calls Tryz.prog 74 #[.iface 24 (.int .u64 n)] w fun e w' => e = .returned (.tuple #[.int .i16 ((n + 32768) % 65536 - 32768), .bool true]) ∧ w' = w := by
  have ta0 : ∀ v w, (Instr.typeAssert (.iface 24 v) 20 39 true).run Tryz.prog w = .ok (.tuple #[.int .i16 0, .bool false]) w := fun _ _ => by kernel_rfl
  have ta1 : ∀ v w, (Instr.typeAssert (.iface 24 v) 20 3 true).run Tryz.prog w = .ok (.tuple #[.int .i64 0, .bool false]) w := fun _ _ => by kernel_rfl
  have ta2 : ∀ v w, (Instr.typeAssert (.iface 24 v) 20 38 true).run Tryz.prog w = .ok (.tuple #[.int .i8 0, .bool false]) w := fun _ _ => by kernel_rfl
  have ta3 : ∀ v w, (Instr.typeAssert (.iface 24 v) 20 39 true).run Tryz.prog w = .ok (.tuple #[.int .i16 0, .bool false]) w := fun _ _ => by kernel_rfl
  have ta4 : ∀ v w, (Instr.typeAssert (.iface 24 v) 20 21 true).run Tryz.prog w = .ok (.tuple #[.int .i32 0, .bool false]) w := fun _ _ => by kernel_rfl
  have ta5 : ∀ v w, (Instr.typeAssert (.iface 24 v) 20 2 true).run Tryz.prog w = .ok (.tuple #[.int .i64 0, .bool false]) w := fun _ _ => by kernel_rfl
  have ta6 : ∀ v w, (Instr.typeAssert (.iface 24 v) 20 37 true).run Tryz.prog w = .ok (.tuple #[.int .u64 0, .bool false]) w := fun _ _ => by kernel_rfl
  have ta7 : ∀ v w, (Instr.typeAssert (.iface 24 v) 20 5 true).run Tryz.prog w = .ok (.tuple #[.int .u8 0, .bool false]) w := fun _ _ => by kernel_rfl
  have ta8 : ∀ v w, (Instr.typeAssert (.iface 24 v) 20 41 true).run Tryz.prog w = .ok (.tuple #[.int .u16 0, .bool false]) w := fun _ _ => by kernel_rfl
  have ta9 : ∀ v w, (Instr.typeAssert (.iface 24 v) 20 42 true).run Tryz.prog w = .ok (.tuple #[.int .u32 0, .bool false]) w := fun _ _ => by kernel_rfl
  have ta10 : ∀ v w, (Instr.typeAssert (.iface 24 v) 20 24 true).run Tryz.prog w = .ok (.tuple #[v, .bool true]) w := fun _ _ => by kernel_rfl
  have C := Lib.hid (fun W => indirect_uint64 (.int .u64 n) W)
  have HN := Lib.hid hn
  clear hn
  go_enter Tryz.func74, Tryz.ntmps74
  go_wp2_with fail
  refine (C.out _).mono ?_
  rintro e w1 ⟨rfl, rfl⟩
  go_wp2_with fail
  have hn := HN.out
  refine bodyPost_ret (v := .tuple #[.int .i16 ((n + 32768) % 65536 - 32768), .bool true]) ?_ rfl ⟨rfl, rfl⟩
  first
    | (simp [results, Tryz.results74, go_sem]; done)
    | (simp [results, Tryz.results74, go_sem, wu8, wu16, wu32, wu64, wi8, wi16, wi32, wi64, wrap64, wrap32]; done)
    | (simp [results, Tryz.results74, go_sem, wu8, wu16, wu32, wu64, wi8, wi16, wi32, wi64, wrap64, wrap32]; omega)
    | (simp [results, Tryz.results74, go_sem]; omega)
theorem cast_int16 (vk vi vn vf vs vl vm x : Value) (y : Int) (hy : (-9223372036854775808 ≤ y ∧ y < 9223372036854775808)) (hv : ∀ W, Calls Tryz.prog 22 #[.agg #[vk, vi, vn, vf, vs, vl, vm]] W fun e w' => e = .returned x ∧ Below W.heap.size W w')
    (hu : ∀ W, Calls Tryz.prog 74 #[x] W fun e w' => e = .returned (.tuple #[.int .i16 y, .bool true]) ∧ w' = W) (w : World) :
    Calls Tryz.prog 8 #[.int .i64 4, .agg #[vk, vi, vn, vf, vs, vl, vm]] w fun e w' => e = .returned (.tuple #[.int .i64 y, .bool true]) ∧ Below w.heap.size w w' := by
  have E1 : ∀ f W, Calls Tryz.prog 50 #[x, f] W fun e w' => e = .returned (.tuple #[.int .i16 y, .nilIface]) ∧ w' = W := by
    intro f W
    have HU := Lib.hid hu
    clear hu hv hy
    go_enter Tryz.func50, Tryz.ntmps50
    go_wp2_with fail
    refine (HU.out _).mono ?_
    rintro e w1 ⟨rfl, rfl⟩
    go_wp2_with fail
    exact bodyPost_ret (v := .tuple #[.int .i16 y, .nilIface]) (by simp [results, Tryz.results50, go_sem]) rfl ⟨rfl, rfl⟩
  have E2 : ∀ W, Calls Tryz.prog 23 #[x] W fun e w' => e = .returned (.tuple #[.int .i16 y, .nilIface]) ∧ w' = W := by
    intro W
    have HU := Lib.hid E1
    clear hu hv hy E1
    go_enter Tryz.func23, Tryz.ntmps23
    go_wp2_with fail
    refine (HU.out _ _).mono ?_
    rintro e w1 ⟨rfl, rfl⟩
    go_wp2_with fail
    exact bodyPost_ret (v := .tuple #[.int .i16 y, .nilIface]) (by simp [results, Tryz.results23, go_sem]) rfl ⟨rfl, rfl⟩
  have E3 : ∀ W, Calls Tryz.prog 12 #[.agg #[vk, vi, vn, vf, vs, vl, vm]] W fun e w' => e = .returned (.tuple #[.int .i64 y, .bool true]) ∧ Below W.heap.size W w' := by
    intro W
    have hn0 : ∀ w, Sem.run Tryz.prog (binOp BinOp.eql 45 Value.nilIface Value.nilIface) w = .ok (.bool true) w := fun _ => by kernel_rfl
    have HU := Lib.hid E2
    have HV := Lib.hid hv
    have HY := Lib.hid hy
    clear hu hv hy E1 E2
    go_enter Tryz.func12, Tryz.ntmps12
    go_wp2_with fail
    refine (HV.out _).mono ?_
    rintro e w1 ⟨rfl, hb1⟩
    go_wp2_with fail
    refine (HU.out _).mono ?_
    rintro e w2 ⟨rfl, rfl⟩
    go_wp2_with fail
    go_quiet (fail)
    go_wp2_with fail
    have hy := HY.out
    refine bodyPost_ret (v := .tuple #[.int .i64 y, .bool true]) ?_ rfl ⟨rfl, Below.drewN' (Below.after ((Below.refl _ _).alloc (Nat.le_refl _) _) hb1)⟩
    first
      | (simp [results, Tryz.results12, go_sem]; done)
      | (simp [results, Tryz.results12, go_sem, wu8, wu16, wu32, wu64, wi8, wi16, wi32, wi64, wrap64, wrap32]; omega)
      | (simp [results, Tryz.results12, go_sem]; omega)
  have HU := Lib.hid E3
  clear hu hv hy E1 E2 E3
  go_enter Tryz.func8, Tryz.ntmps8
  go_wp2_with fail
  refine (HU.out _).mono ?_
  rintro e w1 ⟨rfl, hb1⟩
  go_wp2_with fail
  exact bodyPost_ret (v := .tuple #[.int .i64 y, .bool true]) (by simp [results, Tryz.results8, go_sem]) rfl ⟨rfl, Below.after ((Below.refl _ _).alloc (Nat.le_refl _) _) hb1⟩
theorem cut_int16 (n : Int) (hn : (-9223372036854775808 ≤ n ∧ n < 9223372036854775808)) (w : World) : Calls Tryz.prog 7 #[.int .i64 4, .int .i64 n] w fun e w' => e = .returned (.int .i64 ((n + 32768) % 65536 - 32768)) ∧ w' = w := by
  have HN := Lib.hid hn
  clear hn
  go_enter Tryz.func7, Tryz.ntmps7
  go_wp2_with fail
  have hn := HN.out
  go_ret
  refine ⟨?_, rfl⟩
  first
    | rfl
    | (refine congrArg (fun z => Ending.returned (Value.int IntKind.i64 z)) ?_; first | omega | (simp only [wu8, wu16, wu32, wu64, wi8, wi16, wi32, wi64, wrap64, wrap32]; omega))
theorem num_int32_uint (n : Int) (hn : (0 ≤ n ∧ n < 18446744073709551616)) (w : World) : Calls Tryz.prog 75 #[.iface 37 (.int .u64 n)] w fun e w' => e = .returned (.tuple #[.int .i32 ((n + 2147483648) % 4294967296 - 2147483648), .bool true]) ∧ w' = w := by
  have ta0 : ∀ v w, (Instr.typeAssert (.iface 37 v) 20 21 true).run Tryz.prog w = .ok (.tuple #[.int .i32 0, .bool false]) w := fun _ _ => by kernel_rfl
  have ta1 : ∀ v w, (Instr.typeAssert (.iface 37 v) 20 3 true).run Tryz.prog w = .ok (.tuple #[.int .i64 0, .bool false]) w := fun _ _ => by kernel_rfl
  have ta2 : ∀ v w, (Instr.typeAssert (.iface 37 v) 20 38 true).run Tryz.prog w = .ok (.tuple #[.int .i8 0, .bool false]) w := fun _ _ => by kernel_rfl
  have ta3 : ∀ v w, (Instr.typeAssert (.iface 37 v) 20 39 true).run Tryz.prog w = .ok (.tuple #[.int .i16 0, .bool false]) w := fun _ _ => by kernel_rfl
  have ta4 : ∀ v w, (Instr.typeAssert (.iface 37 v) 20 21 true).run Tryz.prog w = .ok (.tuple #[.int .i32 0, .bool false]) w := fun _ _ => by kernel_rfl
  have ta5 : ∀ v w, (Instr.typeAssert (.iface 37 v) 20 2 true).run Tryz.prog w = .ok (.tuple #[.int .i64 0, .bool false]) w := fun _ _ => by kernel_rfl
  have ta6 : ∀ v w, (Instr.typeAssert (.iface 37 v) 20 37 true).run Tryz.prog w = .ok (.tuple #[v, .bool true]) w := fun _ _ => by kernel_rfl
  have C := Lib.hid (fun W => indirect_uint (.int .u64 n) W)
  have HN := Lib.hid hn
  clear hn
  go_enter Tryz.func75, Tryz.ntmps75
  go_wp2_with fail
  refine (C.out _).mono ?_
  rintro e w1 ⟨rfl, rfl⟩
  go_wp2_with fail
  have hn := HN.out
  refine bodyPost_ret (v := .tuple #[.int .i32 ((n + 2147483648) % 4294967296 - 2147483648), .bool true]) ?_ rfl ⟨rfl, rfl⟩
  first
    | (simp [results, Tryz.results75, go_sem]; done)
    | (simp [results, Tryz.results75, go_sem, wu8, wu16, wu32, wu64, wi8, wi16, wi32, wi64, wrap64, wrap32]; done)
    | (simp [results, Tryz.results75, go_sem, wu8, wu16, wu32, wu64, wi8, wi16, wi32, wi64, wrap64, wrap32]; omega)
    | (simp [results, Tryz.results75, go_sem]; omega)
theorem num_int32_uint8 (n : Int) (hn : (0 ≤ n ∧ n < 256)) (w : World) : Calls Tryz.prog 75 #[.iface 5 (.int .u8 n)] w fun e w' => e = .returned (.tuple #[.int .i32 ((n + 2147483648) % 4294967296 - 2147483648), .bool true]) ∧ w' = w := by
  have ta0 : ∀ v w, (Instr.typeAssert (.iface 5 v) 20 21 true).run Tryz.prog w = .ok (.tuple #[.int .i32 0, .bool false]) w := fun _ _ => by kernel_rfl
  have ta1 : ∀ v w, (Instr.typeAssert (.iface 5 v) 20 3 true).run Tryz.prog w = .ok (.tuple #[.int .i64 0, .bool false]) w := fun _ _ => by kernel_rfl
  have ta2 : ∀ v w, (Instr.typeAssert (.iface 5 v) 20 38 true).run Tryz.prog w = .ok (.tuple #[.int .i8 0, .bool false]) w := fun _ _ => by kernel_rfl
  have ta3 : ∀ v w, (Instr.typeAssert (.iface 5 v) 20 39 true).run Tryz.prog w = .ok (.tuple #[.int .i16 0, .bool false]) w := fun _ _ => by kernel_rfl
  have ta4 : ∀ v w, (Instr.typeAssert (.iface 5 v) 20 21 true).run Tryz.prog w = .ok (.tuple #[.int .i32 0, .bool false]) w := fun _ _ => by kernel_rfl
  have ta5 : ∀ v w, (Instr.typeAssert (.iface 5 v) 20 2 true).run Tryz.prog w = .ok (.tuple #[.int .i64 0, .bool false]) w := fun _ _ => by kernel_rfl
  have ta6 : ∀ v w, (Instr.typeAssert (.iface 5 v) 20 37 true).run Tryz.prog w = .ok (.tuple #[.int .u64 0, .bool false]) w := fun _ _ => by kernel_rfl
  have ta7 : ∀ v w, (Instr.typeAssert (.iface 5 v) 20 5 true).run Tryz.prog w = .ok (.tuple #[v, .bool true]) w := fun _ _ => by kernel_rfl
  have C := Lib.hid (fun W => indirect_uint8 (.int .u8 n) W)
  have HN := Lib.hid hn
  clear hn
  go_enter Tryz.func75, Tryz.ntmps75
  go_wp2_with fail
  refine (C.out _).mono ?_
  rintro e w1 ⟨rfl, rfl⟩
  go_wp2_with fail
  have hn := HN.out
  refine bodyPost_ret (v := .tuple #[.int .i32 ((n + 2147483648) % 4294967296 - 2147483648), .bool true]) ?_ rfl ⟨rfl, rfl⟩
  first
    | (simp [results, Tryz.results75, go_sem]; done)
    | (simp [results, Tryz.results75, go_sem, wu8, wu16, wu32, wu64, wi8, wi16, wi32, wi64, wrap64, wrap32]; done)
    | (simp [results, Tryz.results75, go_sem, wu8, wu16, wu32, wu64, wi8, wi16, wi32, wi64, wrap64, wrap32]; omega)
    | (simp [results, Tryz.results75, go_sem]; omega)
theorem num_int32_uint16 (n : Int) (hn : (0 ≤ n ∧ n < 65536)) (w : World) : Calls Tryz.prog 75 #[.iface 41 (.int .u16 n)] w fun e w' => e = .returned (.tuple #[.int .i32 ((n + 2147483648) % 4294967296 - 2147483648), .bool true]) ∧ w' = w := by
  have ta0 : ∀ v w, (Instr.typeAssert (.iface 41 v) 20 21 true).run Tryz.prog w = .ok (.tuple #[.int .i32 0, .bool false]) w := fun _ _ => by kernel_rfl
  have ta1 : ∀ v w, (Instr.typeAssert (.iface 41 v) 20 3 true).run Tryz.prog w = .ok (.tuple #[.int .i64 0, .bool false]) w := fun _ _ => by kernel_rfl
  have ta2 : ∀ v w, (Instr.typeAssert (.iface 41 v) 20 38 true).run Tryz.prog w = .ok (.tuple #[.int .i8 0, .bool false]) w := fun _ _ => by kernel_rfl
  have ta3 : ∀ v w, (Instr.typeAssert (.iface 41 v) 20 39 true).run Tryz.prog w = .ok (.tuple #[.int .i16 0, .bool false]) w := fun _ _ => by kernel_rfl
  have ta4 : ∀ v w, (Instr.typeAssert (.iface 41 v) 20 21 true).run Tryz.prog w = .ok (.tuple #[.int .i32 0, .bool false]) w := fun _ _ => by kernel_rfl
  have ta5 : ∀ v w, (Instr.typeAssert (.iface 41 v) 20 2 true).run Tryz.prog w = .ok (.tuple #[.int .i64 0, .bool false]) w := fun _ _ => by kernel_rfl
  have ta6 : ∀ v w, (Instr.typeAssert (.iface 41 v) 20 37 true).run Tryz.prog w = .ok (.tuple #[.int .u64 0, .bool false]) w := fun _ _ => by kernel_rfl
  have ta7 : ∀ v w, (Instr.typeAssert (.iface 41 v) 20 5 true).run Tryz.prog w = .ok (.tuple #[.int .u8 0, .bool false]) w := fun _ _ => by kernel_rfl
  have ta8 : ∀ v w, (Instr.typeAssert (.iface 41 v) 20 41 true).run Tryz.prog w = .ok (.tuple #[v, .bool true]) w := fun _ _ => by kernel_rfl
  have C := Lib.hid (fun W => indirect_uint16 (.int .u16 n) W)
  have HN := Lib.hid hn
  clear hn
  go_enter Tryz.func75, Tryz.ntmps75
  go_wp2_with fail
  refine (C.out _).mono ?_
  rintro e w1 ⟨rfl, rfl⟩
  go_wp2_with fail
  have hn := HN.out
  refine bodyPost_ret (v := .tuple #[.int .i32 ((n + 2147483648) % 4294967296 - 2147483648), .bool true]) ?_ rfl ⟨rfl, rfl⟩
  first
    | (simp [results, Tryz.results75, go_sem]; done)
    | (simp [results, Tryz.results75, go_sem, wu8, wu16, wu32, wu64, wi8, wi16, wi32, wi64, wrap64, wrap32]; done)
    | (simp [results, Tryz.results75, go_sem, wu8, wu16, wu32, wu64, wi8, wi16, wi32, wi64, wrap64, wrap32]; omega)
    | (simp [results, Tryz.results75, go_sem]; omega)
theorem num_int32_uint32 (n : Int) (hn : (0 ≤ n ∧ n < 4294967296)) (w : World) : Calls Tryz.prog 75 #[.iface 42 (.int .u32 n)] w fun e w' => e = .returned (.tuple #[.int .i32 ((n + 2147483648) % 4294967296 - 2147483648), .bool true]) ∧ w' = w := by
  have ta0 : ∀ v w, (Instr.typeAssert (.iface 42 v) 20 21 true).run Tryz.prog w = .ok (.tuple #[.int .i32 0, .bool false]) w := fun _ _ => by kernel_rfl
  have ta1 : ∀ v w, (Instr.typeAssert (.iface 42 v) 20 3 true).run Tryz.prog w = .ok (.tuple #[.int .i64 0, .bool false]) w := fun _ _ => by kernel_rfl
  have ta2 : ∀ v w, (Instr.typeAssert (.iface 42 v) 20 38 true).run Tryz.prog w = .ok (.tuple #[.int .i8 0, .bool false]) w := fun _ _ => by kernel_rfl
  have ta3 : ∀ v w, (Instr.typeAssert (.iface 42 v) 20 39 true).run Tryz.prog w = .ok (.tuple #[.int .i16 0, .bool false]) w := fun _ _ => by kernel_rfl
  have ta4 : ∀ v w, (Instr.typeAssert (.iface 42 v) 20 21 true).run Tryz.prog w = .ok (.tuple #[.int .i32 0, .bool false]) w := fun _ _ => by kernel_rfl
  have ta5 : ∀ v w, (Instr.typeAssert (.iface 42 v) 20 2 true).run Tryz.prog w = .ok (.tuple #[.int .i64 0, .bool false]) w := fun _ _ => by kernel_rfl
  have ta6 : ∀ v w, (Instr.typeAssert (.iface 42 v) 20 37 true).run Tryz.prog w = .ok (.tuple #[.int .u64 0, .bool false]) w := fun _ _ => by kernel_rfl
  have ta7 : ∀ v w, (Instr.typeAssert (.iface 42 v) 20 5 true).run Tryz.prog w = .ok (.tuple #[.int .u8 0, .bool false]) w := fun _ _ => by kernel_rfl
  have ta8 : ∀ v w, (Instr.typeAssert (.iface 42 v) 20 41 true).run Tryz.prog w = .ok (.tuple #[.int .u16 0, .bool false]) w := fun _ _ => by kernel_rfl
  have ta9 : ∀ v w, (Instr.typeAssert (.iface 42 v) 20 42 true).run Tryz.prog w = .ok (.tuple #[v, .bool true]) w := fun _ _ => by kernel_rfl
  have C := Lib.hid (fun W => indirect_uint32 (.int .u32 n) W)
  have HN := Lib.hid hn
  clear hn
  go_enter Tryz.func75, Tryz.ntmps75
  go_wp2_with fail
  refine (C.out _).mono ?_
  rintro e w1 ⟨rfl, rfl⟩
  go_wp2_with fail
  have hn := HN.out
  refine bodyPost_ret (v := .tuple #[.int .i32 ((n + 2147483648) % 4294967296 - 2147483648), .bool true]) ?_ rfl ⟨rfl, rfl⟩
  first
    | (simp [results, Tryz.results75, go_sem]; done)
    | (simp [results, Tryz.results75, go_sem, wu8, wu16, wu32, wu64, wi8, wi16, wi32, wi64, wrap64, wrap32]; done)
    | (simp [results, Tryz.results75, go_sem, wu8, wu16, wu32, wu64, wi8, wi16, wi32, wi64, wrap64, wrap32]; omega)
    | (simp [results, Tryz.results75, go_sem]; omega)
theorem num_int32_uint64 (n : Int) (hn : (0 ≤ n ∧ n < 18446744073709551616)) (w : World) : Calls Tryz.prog 75 #[.iface 24 (.int .u64 n)] w fun e w' => e = .returned (.tuple #[.int .i32 ((n + 2147483648) % 4294967296 - 2147483648), .bool true]) ∧ w' = w := by
  have ta0 : ∀ v w, (Instr.typeAssert (.iface 24 v) 20 21 true).run Tryz.prog w = .ok (.tuple #[.int .i32 0, .bool false]) w := fun _ _ => by kernel_rfl
  have ta1 : ∀ v w, (Instr.typeAssert (.iface 24 v) 20 3 true).run Tryz.prog w = .ok (.tuple #[.int .i64 0, .bool false]) w := fun _ _ => by kernel_rfl
  have ta2 : ∀ v w, (Instr.typeAssert (.iface 24 v) 20 38 true).run Tryz.prog w = .ok (.tuple #[.int .i8 0, .bool false]) w := fun _ _ => by kernel_rfl
  have ta3 : ∀ v w, (Instr.typeAssert (.iface 24 v) 20 39 true).run Tryz.prog w = .ok (.tuple #[.int .i16 0, .bool false]) w := fun _ _ => by kernel_rfl
  have ta4 : ∀ v w, (Instr.typeAssert (.iface 24 v) 20 21 true).run Tryz.prog w = .ok (.tuple #[.int .i32 0, .bool false]) w := fun _ _ => by kernel_rfl
  have ta5 : ∀ v w, (Instr.typeAssert (.iface 24 v) 20 2 true).run Tryz.prog w = .ok (.tuple #[.int .i64 0, .bool false]) w := fun _ _ => by kernel_rfl
  have ta6 : ∀ v w, (Instr.typeAssert (.iface 24 v) 20 37 true).run Tryz.prog w = .ok (.tuple #[.int .u64 0, .bool false]) w := fun _ _ => by kernel_rfl
  have ta7 : ∀ v w, (Instr.typeAssert (.iface 24 v) 20 5 true).run Tryz.prog w = .ok (.tuple #[.int .u8 0, .bool false]) w := fun _ _ => by kernel_rfl
  have ta8 : ∀ v w, (Instr.typeAssert (.iface 24 v) 20 41 true).run Tryz.prog w = .ok (.tuple #[.int .u16 0, .bool false]) w := fun _ _ => by kernel_rfl
  have ta9 : ∀ v w, (Instr.typeAssert (.iface 24 v) 20 42 true).run Tryz.prog w = .ok (.tuple #[.int .u32 0, .bool false]) w := fun _ _ => by kernel_rfl
  have ta10 : ∀ v w, (Instr.typeAssert (.iface 24 v) 20 24 true).run Tryz.prog w = .ok (.tuple #[v, .bool true]) w := fun _ _ => by kernel_rfl
  have C := Lib.hid (fun W => indirect_uint64 (.int .u64 n) W)
  have HN := Lib.hid hn
  clear hn
  go_enter Tryz.func75, Tryz.ntmps75
  go_wp2_with fail
  refine (C.out _).mono ?_
  rintro e w1 ⟨rfl, rfl⟩
  go_wp2_with fail
  have hn := HN.out
  refine bodyPost_ret (v := .tuple #[.int .i32 ((n + 2147483648) % 4294967296 - 2147483648), .bool true]) ?_ rfl ⟨rfl, rfl⟩
  first
    | (simp [results, Tryz.results75, go_sem]; done)
    | (simp [results, Tryz.results75, go_sem, wu8, wu16, wu32, wu64, wi8, wi16, wi32, wi64, wrap64, wrap32]; done)
    | (simp [results, Tryz.results75, go_sem, wu8, wu16, wu32, wu64, wi8, wi16, wi32, wi64, wrap64, wrap32]; omega)
    | (simp [results, Tryz.results75, go_sem]; omega)
theorem cast_int32 (vk vi vn vf vs vl vm x : Value) (y : Int) (hy : (-9223372036854775808 ≤ y ∧ y < 9223372036854775808)) (hv : ∀ W, Calls Tryz.prog 22 #[.agg #[vk, vi, vn, vf, vs, vl, vm]] W fun e w' => e = .returned x ∧ Below W.heap.size W w')
    (hu : ∀ W, Calls Tryz.prog 75 #[x] W fun e w' => e = .returned (.tuple #[.int .i32 y, .bool true]) ∧ w' = W) (w : World) :
    Calls Tryz.prog 8 #[.int .i64 5, .agg #[vk, vi, vn, vf, vs, vl, vm]] w fun e w' => e = .returned (.tuple #[.int .i64 y, .bool true]) ∧ Below w.heap.size w w' := by
  have E1 : ∀ f W, Calls Tryz.prog 52 #[x, f] W fun e w' => e = .returned (.tuple #[.int .i32 y, .nilIface]) ∧ w' = W := by
    intro f W
    have HU := Lib.hid hu
    clear hu hv hy
    go_enter Tryz.func52, Tryz.ntmps52
    go_wp2_with fail
    refine (HU.out _).mono ?_
    rintro e w1 ⟨rfl, rfl⟩
    go_wp2_with fail
    exact bodyPost_ret (v := .tuple #[.int .i32 y, .nilIface]) (by simp [results, Tryz.results52, go_sem]) rfl ⟨rfl, rfl⟩
  have E2 : ∀ W, Calls Tryz.prog 24 #[x] W fun e w' => e = .returned (.tuple #[.int .i32 y, .nilIface]) ∧ w' = W := by
    intro W
    have HU := Lib.hid E1
    clear hu hv hy E1
    go_enter Tryz.func24, Tryz.ntmps24
    go_wp2_with fail
    refine (HU.out _ _).mono ?_
    rintro e w1 ⟨rfl, rfl⟩
    go_wp2_with fail
    exact bodyPost_ret (v := .tuple #[.int .i32 y, .nilIface]) (by simp [results, Tryz.results24, go_sem]) rfl ⟨rfl, rfl⟩
  have E3 : ∀ W, Calls Tryz.prog 13 #[.agg #[vk, vi, vn, vf, vs, vl, vm]] W fun e w' => e = .returned (.tuple #[.int .i64 y, .bool true]) ∧ Below W.heap.size W w' := by
    intro W
    have hn0 : ∀ w, Sem.run Tryz.prog (binOp BinOp.eql 45 Value.nilIface Value.nilIface) w = .ok (.bool true) w := fun _ => by kernel_rfl
    have HU := Lib.hid E2
    have HV := Lib.hid hv
    have HY := Lib.hid hy
    clear hu hv hy E1 E2
    go_enter Tryz.func13, Tryz.ntmps13
    go_wp2_with fail
    refine (HV.out _).mono ?_
    rintro e w1 ⟨rfl, hb1⟩
    go_wp2_with fail
    refine (HU.out _).mono ?_
    rintro e w2 ⟨rfl, rfl⟩
    go_wp2_with fail
    go_quiet (fail)
    go_wp2_with fail
    have hy := HY.out
    refine bodyPost_ret (v := .tuple #[.int .i64 y, .bool true]) ?_ rfl ⟨rfl, Below.drewN' (Below.after ((Below.refl _ _).alloc (Nat.le_refl _) _) hb1)⟩
    first
      | (simp [results, Tryz.results13, go_sem]; done)
      | (simp [results, Tryz.results13, go_sem, wu8, wu16, wu32, wu64, wi8, wi16, wi32, wi64, wrap64, wrap32]; omega)
      | (simp [results, Tryz.results13, go_sem]; omega)
  have HU := Lib.hid E3
  clear hu hv hy E1 E2 E3
  go_enter Tryz.func8, Tryz.ntmps8
  go_wp2_with fail
  refine (HU.out _).mono ?_
  rintro e w1 ⟨rfl, hb1⟩
  go_wp2_with fail
  exact bodyPost_ret (v := .tuple #[.int .i64 y, .bool true]) (by simp [results, Tryz.results8, go_sem]) rfl ⟨rfl, Below.after ((Below.refl _ _).alloc (Nat.le_refl _) _) hb1⟩
theorem cut_int32 (n : Int) (hn : (-9223372036854775808 ≤ n ∧ n < 9223372036854775808)) (w : World) : Calls Tryz.prog 7 #[.int .i64 5, .int .i64 n] w fun e w' => e = .returned (.int .i64 ((n + 2147483648) % 4294967296 - 2147483648)) ∧ w' = w := by
  have HN := Lib.hid hn
  clear hn
  go_enter Tryz.func7, Tryz.ntmps7
  go_wp2_with fail
  have hn := HN.out
  go_ret
  refine ⟨?_, rfl⟩
  first
    | rfl
    | (refine congrArg (fun z => Ending.returned (Value.int IntKind.i64 z)) ?_; first | omega | (simp only [wu8, wu16, wu32, wu64, wi8, wi16, wi32, wi64, wrap64, wrap32]; omega))
theorem num_int64_uint (n : Int) (hn : (0 ≤ n ∧ n < 18446744073709551616)) (w : World) : Calls Tryz.prog 76 #[.iface 37 (.int .u64 n)] w fun e w' => e = .returned (.tuple #[.int .i64 ((n + 9223372036854775808) % 18446744073709551616 - 9223372036854775808), .bool true]) ∧ w' = w := by
  have ta0 : ∀ v w, (Instr.typeAssert (.iface 37 v) 20 2 true).run Tryz.prog w = .ok (.tuple #[.int .i64 0, .bool false]) w := fun _ _ => by kernel_rfl
  have ta1 : ∀ v w, (Instr.typeAssert (.iface 37 v) 20 3 true).run Tryz.prog w = .ok (.tuple #[.int .i64 0, .bool false]) w := fun _ _ => by kernel_rfl
  have ta2 : ∀ v w, (Instr.typeAssert (.iface 37 v) 20 38 true).run Tryz.prog w = .ok (.tuple #[.int .i8 0, .bool false]) w := fun _ _ => by kernel_rfl
  have ta3 : ∀ v w, (Instr.typeAssert (.iface 37 v) 20 39 true).run Tryz.prog w = .ok (.tuple #[.int .i16 0, .bool false]) w := fun _ _ => by kernel_rfl
  have ta4 : ∀ v w, (Instr.typeAssert (.iface 37 v) 20 21 true).run Tryz.prog w = .ok (.tuple #[.int .i32 0, .bool false]) w := fun _ _ => by kernel_rfl
  have ta5 : ∀ v w, (Instr.typeAssert (.iface 37 v) 20 2 true).run Tryz.prog w = .ok (.tuple #[.int .i64 0, .bool false]) w := fun _ _ => by kernel_rfl
  have ta6 : ∀ v w, (Instr.typeAssert (.iface 37 v) 20 37 true).run Tryz.prog w = .ok (.tuple #[v, .bool true]) w := fun _ _ => by kernel_rfl
  have C := Lib.hid (fun W => indirect_uint (.int .u64 n) W)
  have HN := Lib.hid hn
  clear hn
  go_enter Tryz.func76, Tryz.ntmps76
  go_wp2_with fail
  refine (C.out _).mono ?_
  rintro e w1 ⟨rfl, rfl⟩
  go_wp2_with fail
  have hn := HN.out
  refine bodyPost_ret (v := .tuple #[.int .i64 ((n + 9223372036854775808) % 18446744073709551616 - 9223372036854775808), .bool true]) ?_ rfl ⟨rfl, rfl⟩
  first
    | (simp [results, Tryz.results76, go_sem]; done)
    | (simp [results, Tryz.results76, go_sem, wu8, wu16, wu32, wu64, wi8, wi16, wi32, wi64, wrap64, wrap32]; done)
    | (simp [results, Tryz.results76, go_sem, wu8, wu16, wu32, wu64, wi8, wi16, wi32, wi64, wrap64, wrap32]; omega)
    | (simp [results, Tryz.results76, go_sem]; omega)
theorem num_int64_uint8 (n : Int) (hn : (0 ≤ n ∧ n < 256)) (w : World) : Calls Tryz.prog 76 #[.iface 5 (.int .u8 n)] w fun e w' => e = .returned (.tuple #[.int .i64 ((n + 9223372036854775808) % 18446744073709551616 - 9223372036854775808), .bool true]) ∧ w' = w := by
  have ta0 : ∀ v w, (Instr.typeAssert (.iface 5 v) 20 2 true).run Tryz.prog w = .ok (.tuple #[.int .i64 0, .bool false]) w := fun _ _ => by kernel_rfl
  have ta1 : ∀ v w, (Instr.typeAssert (.iface 5 v) 20 3 true).run Tryz.prog w = .ok (.tuple #[.int .i64 0, .bool false]) w := fun _ _ => by kernel_rfl
  have ta2 : ∀ v w, (Instr.typeAssert (.iface 5 v) 20 38 true).run Tryz.prog w = .ok (.tuple #[.int .i8 0, .bool false]) w := fun _ _ => by kernel_rfl
  have ta3 : ∀ v w, (Instr.typeAssert (.iface 5 v) 20 39 true).run Tryz.prog w = .ok (.tuple #[.int .i16 0, .bool false]) w := fun _ _ => by kernel_rfl
  have ta4 : ∀ v w, (Instr.typeAssert (.iface 5 v) 20 21 true).run Tryz.prog w = .ok (.tuple #[.int .i32 0, .bool false]) w := fun _ _ => by kernel_rfl
  have ta5 : ∀ v w, (Instr.typeAssert (.iface 5 v) 20 2 true).run Tryz.prog w = .ok (.tuple #[.int .i64 0, .bool false]) w := fun _ _ => by kernel_rfl
  have ta6 : ∀ v w, (Instr.typeAssert (.iface 5 v) 20 37 true).run Tryz.prog w = .ok (.tuple #[.int .u64 0, .bool false]) w := fun _ _ => by kernel_rfl
  have ta7 : ∀ v w, (Instr.typeAssert (.iface 5 v) 20 5 true).run Tryz.prog w = .ok (.tuple #[v, .bool true]) w := fun _ _ => by kernel_rfl
  have C := Lib.hid (fun W => indirect_uint8 (.int .u8 n) W)
  have HN := Lib.hid hn
  clear hn
  go_enter Tryz.func76, Tryz.ntmps76
  go_wp2_with fail
  refine (C.out _).mono ?_
  rintro e w1 ⟨rfl, rfl⟩
  go_wp2_with fail
  have hn := HN.out
  refine bodyPost_ret (v := .tuple #[.int .i64 ((n + 9223372036854775808) % 18446744073709551616 - 9223372036854775808), .bool true]) ?_ rfl ⟨rfl, rfl⟩
  first
    | (simp [results, Tryz.results76, go_sem]; done)
    | (simp [results, Tryz.results76, go_sem, wu8, wu16, wu32, wu64, wi8, wi16, wi32, wi64, wrap64, wrap32]; done)
    | (simp [results, Tryz.results76, go_sem, wu8, wu16, wu32, wu64, wi8, wi16, wi32, wi64, wrap64, wrap32]; omega)
    | (simp [results, Tryz.results76, go_sem]; omega)
theorem num_int64_uint16 (n : Int) (hn : (0 ≤ n ∧ n < 65536)) (w : World) : Calls Tryz.prog 76 #[.iface 41 (.int .u16 n)] w fun e w' => e = .returned (.tuple #[.int .i64 ((n + 9223372036854775808) % 18446744073709551616 - 9223372036854775808), .bool true]) ∧ w' = w := by
  have ta0 : ∀ v w, (Instr.typeAssert (.iface 41 v) 20 2 true).run Tryz.prog w = .ok (.tuple #[.int .i64 0, .bool false]) w := fun _ _ => by kernel_rfl
  have ta1 : ∀ v w, (Instr.typeAssert (.iface 41 v) 20 3 true).run Tryz.prog w = .ok (.tuple #[.int .i64 0, .bool false]) w := fun _ _ => by kernel_rfl
  have ta2 : ∀ v w, (Instr.typeAssert (.iface 41 v) 20 38 true).run Tryz.prog w = .ok (.tuple #[.int .i8 0, .bool false]) w := fun _ _ => by kernel_rfl
  have ta3 : ∀ v w, (Instr.typeAssert (.iface 41 v) 20 39 true).run Tryz.prog w = .ok (.tuple #[.int .i16 0, .bool false]) w := fun _ _ => by kernel_rfl
  have ta4 : ∀ v w, (Instr.typeAssert (.iface 41 v) 20 21 true).run Tryz.prog w = .ok (.tuple #[.int .i32 0, .bool false]) w := fun _ _ => by kernel_rfl
  have ta5 : ∀ v w, (Instr.typeAssert (.iface 41 v) 20 2 true).run Tryz.prog w = .ok (.tuple #[.int .i64 0, .bool false]) w := fun _ _ => by kernel_rfl
  have ta6 : ∀ v w, (Instr.typeAssert (.iface 41 v) 20 37 true).run Tryz.prog w = .ok (.tuple #[.int .u64 0, .bool false]) w := fun _ _ => by kernel_rfl
  have ta7 : ∀ v w, (Instr.typeAssert (.iface 41 v) 20 5 true).run Tryz.prog w = .ok (.tuple #[.int .u8 0, .bool false]) w := fun _ _ => by kernel_rfl
  have ta8 : ∀ v w, (Instr.typeAssert (.iface 41 v) 20 41 true).run Tryz.prog w = .ok (.tuple #[v, .bool true]) w := fun _ _ => by kernel_rfl
  have C := Lib.hid (fun W => indirect_uint16 (.int .u16 n) W)
  have HN := Lib.hid hn
  clear hn
  go_enter Tryz.func76, Tryz.ntmps76
  go_wp2_with fail
  refine (C.out _).mono ?_
  rintro e w1 ⟨rfl, rfl⟩
  go_wp2_with fail
  have hn := HN.out
  refine bodyPost_ret (v := .tuple #[.int .i64 ((n + 9223372036854775808) % 18446744073709551616 - 9223372036854775808), .bool true]) ?_ rfl ⟨rfl, rfl⟩
  first
    | (simp [results, Tryz.results76, go_sem]; done)
    | (simp [results, Tryz.results76, go_sem, wu8, wu16, wu32, wu64, wi8, wi16, wi32, wi64, wrap64, wrap32]; done)
    | (simp [results, Tryz.results76, go_sem, wu8, wu16, wu32, wu64, wi8, wi16, wi32, wi64, wrap64, wrap32]; omega)
    | (simp [results, Tryz.results76, go_sem]; omega)
theorem num_int64_uint32 (n : Int) (hn : (0 ≤ n ∧ n < 4294967296)) (w : World) : Calls Tryz.prog 76 #[.iface 42 (.int .u32 n)] w fun e w' => e = .returned (.tuple #[.int .i64 ((n + 9223372036854775808) % 18446744073709551616 - 9223372036854775808), .bool true]) ∧ w' = w := by
  have ta0 : ∀ v w, (Instr.typeAssert (.iface 42 v) 20 2 true).run Tryz.prog w = .ok (.tuple #[.int .i64 0, .bool false]) w := fun _ _ => by kernel_rfl
  have ta1 : ∀ v w, (Instr.typeAssert (.iface 42 v) 20 3 true).run Tryz.prog w = .ok (.tuple #[.int .i64 0, .bool false]) w := fun _ _ => by kernel_rfl
  have ta2 : ∀ v w, (Instr.typeAssert (.iface 42 v) 20 38 true).run Tryz.prog w = .ok (.tuple #[.int .i8 0, .bool false]) w := fun _ _ => by kernel_rfl
  have ta3 : ∀ v w, (Instr.typeAssert (.iface 42 v) 20 39 true).run Tryz.prog w = .ok (.tuple #[.int .i16 0, .bool false]) w := fun _ _ => by kernel_rfl
  have ta4 : ∀ v w, (Instr.typeAssert (.iface 42 v) 20 21 true).run Tryz.prog w = .ok (.tuple #[.int .i32 0, .bool false]) w := fun _ _ => by kernel_rfl
  have ta5 : ∀ v w, (Instr.typeAssert (.iface 42 v) 20 2 true).run Tryz.prog w = .ok (.tuple #[.int .i64 0, .bool false]) w := fun _ _ => by kernel_rfl
  have ta6 : ∀ v w, (Instr.typeAssert (.iface 42 v) 20 37 true).run Tryz.prog w = .ok (.tuple #[.int .u64 0, .bool false]) w := fun _ _ => by kernel_rfl
  have ta7 : ∀ v w, (Instr.typeAssert (.iface 42 v) 20 5 true).run Tryz.prog w = .ok (.tuple #[.int .u8 0, .bool false]) w := fun _ _ => by kernel_rfl
  have ta8 : ∀ v w, (Instr.typeAssert (.iface 42 v) 20 41 true).run Tryz.prog w = .ok (.tuple #[.int .u16 0, .bool false]) w := fun _ _ => by kernel_rfl
  have ta9 : ∀ v w, (Instr.typeAssert (.iface 42 v) 20 42 true).run Tryz.prog w = .ok (.tuple #[v, .bool true]) w := fun _ _ => by kernel_rfl
  have C := Lib.hid (fun W => indirect_uint32 (.int .u32 n) W)
  have HN := Lib.hid hn
  clear hn
  go_enter Tryz.func76, Tryz.ntmps76
  go_wp2_with fail
  refine (C.out _).mono ?_
  rintro e w1 ⟨rfl, rfl⟩
  go_wp2_with fail
  have hn := HN.out
  refine bodyPost_ret (v := .tuple #[.int .i64 ((n + 9223372036854775808) % 18446744073709551616 - 9223372036854775808), .bool true]) ?_ rfl ⟨rfl, rfl⟩
  first
    | (simp [results, Tryz.results76, go_sem]; done)
    | (simp [results, Tryz.results76, go_sem, wu8, wu16, wu32, wu64, wi8, wi16, wi32, wi64, wrap64, wrap32]; done)
    | (simp [results, Tryz.results76, go_sem, wu8, wu16, wu32, wu64, wi8, wi16, wi32, wi64, wrap64, wrap32]; omega)
    | (simp [results, Tryz.results76, go_sem]; omega)
theorem num_int64_uint64 (n : Int) (hn : (0 ≤ n ∧ n < 18446744073709551616)) (w : World) : Calls Tryz.prog 76 #[.iface 24 (.int .u64 n)] w fun e w' => e = .returned (.tuple #[.int .i64 ((n + 9223372036854775808) % 18446744073709551616 - 9223372036854775808), .bool true]) ∧ w' = w := by
  have ta0 : ∀ v w, (Instr.typeAssert (.iface 24 v) 20 2 true).run Tryz.prog w = .ok (.tuple #[.int .i64 0, .bool false]) w := fun _ _ => by kernel_rfl
  have ta1 : ∀ v w, (Instr.typeAssert (.iface 24 v) 20 3 true).run Tryz.prog w = .ok (.tuple #[.int .i64 0, .bool false]) w := fun _ _ => by kernel_rfl
  have ta2 : ∀ v w, (Instr.typeAssert (.iface 24 v) 20 38 true).run Tryz.prog w = .ok (.tuple #[.int .i8 0, .bool false]) w := fun _ _ => by kernel_rfl
  have ta3 : ∀ v w, (Instr.typeAssert (.iface 24 v) 20 39 true).run Tryz.prog w = .ok (.tuple #[.int .i16 0, .bool false]) w := fun _ _ => by kernel_rfl
  have ta4 : ∀ v w, (Instr.typeAssert (.iface 24 v) 20 21 true).run Tryz.prog w = .ok (.tuple #[.int .i32 0, .bool false]) w := fun _ _ => by kernel_rfl
  have ta5 : ∀ v w, (Instr.typeAssert (.iface 24 v) 20 2 true).run Tryz.prog w = .ok (.tuple #[.int .i64 0, .bool false]) w := fun _ _ => by kernel_rfl
  have ta6 : ∀ v w, (Instr.typeAssert (.iface 24 v) 20 37 true).run Tryz.prog w = .ok (.tuple #[.int .u64 0, .bool false]) w := fun _ _ => by kernel_rfl
  have ta7 : ∀ v w, (Instr.typeAssert (.iface 24 v) 20 5 true).run Tryz.prog w = .ok (.tuple #[.int .u8 0, .bool false]) w := fun _ _ => by kernel_rfl
  have ta8 : ∀ v w, (Instr.typeAssert (.iface 24 v) 20 41 true).run Tryz.prog w = .ok (.tuple #[.int .u16 0, .bool false]) w := fun _ _ => by kernel_rfl
  have ta9 : ∀ v w, (Instr.typeAssert (.iface 24 v) 20 42 true).run Tryz.prog w = .ok (.tuple #[.int .u32 0, .bool false]) w := fun _ _ => by kernel_rfl
  have ta10 : ∀ v w, (Instr.typeAssert (.iface 24 v) 20 24 true).run Tryz.prog w = .ok (.tuple #[v, .bool true]) w := fun _ _ => by kernel_rfl
  have C := Lib.hid (fun W => indirect_uint64 (.int .u64 n) W)
  have HN := Lib.hid hn
  clear hn
  go_enter Tryz.func76, Tryz.ntmps76
  go_wp2_with fail
  refine (C.out _).mono ?_
  rintro e w1 ⟨rfl, rfl⟩
  go_wp2_with fail
  have hn := HN.out
  refine bodyPost_ret (v := .tuple #[.int .i64 ((n + 9223372036854775808) % 18446744073709551616 - 9223372036854775808), .bool true]) ?_ rfl ⟨rfl, rfl⟩
  first
    | (simp [results, Tryz.results76, go_sem]; done)
    | (simp [results, Tryz.results76, go_sem, wu8, wu16, wu32, wu64, wi8, wi16, wi32, wi64, wrap64, wrap32]; done)
    | (simp [results, Tryz.results76, go_sem, wu8, wu16, wu32, wu64, wi8, wi16, wi32, wi64, wrap64, wrap32]; omega)
    | (simp [results, Tryz.results76, go_sem]; omega)
theorem cast_int64 (vk vi vn vf vs vl vm x : Value) (y : Int) (hy : (-9223372036854775808 ≤ y ∧ y < 9223372036854775808)) (hv : ∀ W, Calls Tryz.prog 22 #[.agg #[vk, vi, vn, vf, vs, vl, vm]] W fun e w' => e = .returned x ∧ Below W.heap.size W w')
    (hu : ∀ W, Calls Tryz.prog 76 #[x] W fun e w' => e = .returned (.tuple #[.int .i64 y, .bool true]) ∧ w' = W) (w : World) :
    Calls Tryz.prog 8 #[.int .i64 6, .agg #[vk, vi, vn, vf, vs, vl, vm]] w fun e w' => e = .returned (.tuple #[.int .i64 y, .bool true]) ∧ Below w.heap.size w w' := by
  have E1 : ∀ f W, Calls Tryz.prog 54 #[x, f] W fun e w' => e = .returned (.tuple #[.int .i64 y, .nilIface]) ∧ w' = W := by
    intro f W
    have HU := Lib.hid hu
    clear hu hv hy
    go_enter Tryz.func54, Tryz.ntmps54
    go_wp2_with fail
    refine (HU.out _).mono ?_
    rintro e w1 ⟨rfl, rfl⟩
    go_wp2_with fail
    exact bodyPost_ret (v := .tuple #[.int .i64 y, .nilIface]) (by simp [results, Tryz.results54, go_sem]) rfl ⟨rfl, rfl⟩
  have E2 : ∀ W, Calls Tryz.prog 25 #[x] W fun e w' => e = .returned (.tuple #[.int .i64 y, .nilIface]) ∧ w' = W := by
    intro W
    have HU := Lib.hid E1
    clear hu hv hy E1
    go_enter Tryz.func25, Tryz.ntmps25
    go_wp2_with fail
    refine (HU.out _ _).mono ?_
    rintro e w1 ⟨rfl, rfl⟩
    go_wp2_with fail
    exact bodyPost_ret (v := .tuple #[.int .i64 y, .nilIface]) (by simp [results, Tryz.results25, go_sem]) rfl ⟨rfl, rfl⟩
  have E3 : ∀ W, Calls Tryz.prog 14 #[.agg #[vk, vi, vn, vf, vs, vl, vm]] W fun e w' => e = .returned (.tuple #[.int .i64 y, .bool true]) ∧ Below W.heap.size W w' := by
    intro W
    have hn0 : ∀ w, Sem.run Tryz.prog (binOp BinOp.eql 45 Value.nilIface Value.nilIface) w = .ok (.bool true) w := fun _ => by kernel_rfl
    have HU := Lib.hid E2
    have HV := Lib.hid hv
    have HY := Lib.hid hy
    clear hu hv hy E1 E2
    go_enter Tryz.func14, Tryz.ntmps14
    go_wp2_with fail
    refine (HV.out _).mono ?_
    rintro e w1 ⟨rfl, hb1⟩
    go_wp2_with fail
    refine (HU.out _).mono ?_
    rintro e w2 ⟨rfl, rfl⟩
    go_wp2_with fail
    go_quiet (fail)
    go_wp2_with fail
    have hy := HY.out
    refine bodyPost_ret (v := .tuple #[.int .i64 y, .bool true]) ?_ rfl ⟨rfl, Below.drewN' (Below.after ((Below.refl _ _).alloc (Nat.le_refl _) _) hb1)⟩
    first
      | (simp [results, Tryz.results14, go_sem]; done)
      | (simp [results, Tryz.results14, go_sem, wu8, wu16, wu32, wu64, wi8, wi16, wi32, wi64, wrap64, wrap32]; omega)
      | (simp [results, Tryz.results14, go_sem]; omega)
  have HU := Lib.hid E3
  clear hu hv hy E1 E2 E3
  go_enter Tryz.func8, Tryz.ntmps8
  go_wp2_with fail
  refine (HU.out _).mono ?_
  rintro e w1 ⟨rfl, hb1⟩
  go_wp2_with fail
  exact bodyPost_ret (v := .tuple #[.int .i64 y, .bool true]) (by simp [results, Tryz.results8, go_sem]) rfl ⟨rfl, Below.after ((Below.refl _ _).alloc (Nat.le_refl _) _) hb1⟩
theorem cut_int64 (n : Int) (hn : (-9223372036854775808 ≤ n ∧ n < 9223372036854775808)) (w : World) : Calls Tryz.prog 7 #[.int .i64 6, .int .i64 n] w fun e w' => e = .returned (.int .i64 ((n + 9223372036854775808) % 18446744073709551616 - 9223372036854775808)) ∧ w' = w := by
  have HN := Lib.hid hn
  clear hn
  go_enter Tryz.func7, Tryz.ntmps7
  go_wp2_with fail
  have hn := HN.out
  go_ret
  refine ⟨?_, rfl⟩
  first
    | rfl
    | (refine congrArg (fun z => Ending.returned (Value.int IntKind.i64 z)) ?_; first | omega | (simp only [wu8, wu16, wu32, wu64, wi8, wi16, wi32, wi64, wrap64, wrap32]; omega))
end Go.Proofs.YtnnfdlhedggkmaaGreatDoor
