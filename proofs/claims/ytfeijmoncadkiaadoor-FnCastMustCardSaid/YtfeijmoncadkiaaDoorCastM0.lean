/- Values of plain kinds, cast to int. (Printed by gen_plain.py.) -/
import Derived.Test.YtfeijmoncadkiaaDoorCastK
import Derived.WalkKit
import Derived.KernelRfl
import Derived.RowKit3
import Derived.Deep.QuietTactic
import Derived.BigQuiet
import Derived.Lib.Hide
import Derived.Deep.DeepFit
import Derived.WalkSpells
import Derived.WalkLawsBesides
import Derived.Laws.FloatArith
import Derived.Laws.Cover2
namespace Go.Proofs.YtfeijmoncadkiaaDoor
open Go.RowKit
set_option linter.unusedVariables false
set_option linter.unusedSimpArgs false

theorem num_int_nil    (w : World) : Calls Tryd.prog 47 #[.nilIface] w fun e w' => e = .returned (.tuple #[.int .i64 (0), .bool true]) ∧ w' = w := by
  have ta0 : ∀ w, (Instr.typeAssert .nilIface 20 3 true).run Tryd.prog w = .ok (.tuple #[.int .i64 0, .bool false]) w := fun _ => by kernel_rfl
  have ta1 : ∀ w, (Instr.typeAssert .nilIface 20 52 true).run Tryd.prog w = .ok (.tuple #[.int .i8 0, .bool false]) w := fun _ => by kernel_rfl
  have ta2 : ∀ w, (Instr.typeAssert .nilIface 20 53 true).run Tryd.prog w = .ok (.tuple #[.int .i16 0, .bool false]) w := fun _ => by kernel_rfl
  have ta3 : ∀ w, (Instr.typeAssert .nilIface 20 21 true).run Tryd.prog w = .ok (.tuple #[.int .i32 0, .bool false]) w := fun _ => by kernel_rfl
  have ta4 : ∀ w, (Instr.typeAssert .nilIface 20 2 true).run Tryd.prog w = .ok (.tuple #[.int .i64 0, .bool false]) w := fun _ => by kernel_rfl
  have ta5 : ∀ w, (Instr.typeAssert .nilIface 20 43 true).run Tryd.prog w = .ok (.tuple #[.int .u64 0, .bool false]) w := fun _ => by kernel_rfl
  have ta6 : ∀ w, (Instr.typeAssert .nilIface 20 5 true).run Tryd.prog w = .ok (.tuple #[.int .u8 0, .bool false]) w := fun _ => by kernel_rfl
  have ta7 : ∀ w, (Instr.typeAssert .nilIface 20 54 true).run Tryd.prog w = .ok (.tuple #[.int .u16 0, .bool false]) w := fun _ => by kernel_rfl
  have ta8 : ∀ w, (Instr.typeAssert .nilIface 20 55 true).run Tryd.prog w = .ok (.tuple #[.int .u32 0, .bool false]) w := fun _ => by kernel_rfl
  have ta9 : ∀ w, (Instr.typeAssert .nilIface 20 22 true).run Tryd.prog w = .ok (.tuple #[.int .u64 0, .bool false]) w := fun _ => by kernel_rfl
  have ta10 : ∀ w, (Instr.typeAssert .nilIface 20 56 true).run Tryd.prog w = .ok (.tuple #[.float .f32 0, .bool false]) w := fun _ => by kernel_rfl
  have ta11 : ∀ w, (Instr.typeAssert .nilIface 20 23 true).run Tryd.prog w = .ok (.tuple #[.float .f64 0, .bool false]) w := fun _ => by kernel_rfl
  have ta12 : ∀ w, (Instr.typeAssert .nilIface 20 4 true).run Tryd.prog w = .ok (.tuple #[.bool false, .bool false]) w := fun _ => by kernel_rfl
  have C := Lib.hid (fun W => indirect_nil W)
  go_enter Tryd.func47, Tryd.ntmps47
  go_wp2_with fail
  refine (C.out _).mono ?_
  rintro e w1 ⟨rfl, rfl⟩
  go_wp2_with fail
  refine bodyPost_ret (v := .tuple #[.int .i64 (0), .bool true]) ?_ rfl ⟨rfl, rfl⟩
  first
    | (simp [results, Tryd.results47, go_sem]; done)
    | (simp [results, Tryd.results47, go_sem, wu8, wu16, wu32, wu64, wi8, wi16, wi32, wi64, wrap64, wrap32]; done)
    | (simp [results, Tryd.results47, go_sem, wu8, wu16, wu32, wu64, wi8, wi16, wi32, wi64, wrap64, wrap32]; omega)
    | (simp [results, Tryd.results47, go_sem]; omega)
theorem num_int_bool (q : Bool)   (w : World) : Calls Tryd.prog 47 #[.iface 4 (.bool q)] w fun e w' => e = .returned (.tuple #[.int .i64 (if q then 1 else 0), .bool true]) ∧ w' = w := by
  have ta0 : ∀ v w, (Instr.typeAssert (.iface 4 v) 20 3 true).run Tryd.prog w = .ok (.tuple #[.int .i64 0, .bool false]) w := fun _ _ => by kernel_rfl
  have ta1 : ∀ v w, (Instr.typeAssert (.iface 4 v) 20 52 true).run Tryd.prog w = .ok (.tuple #[.int .i8 0, .bool false]) w := fun _ _ => by kernel_rfl
  have ta2 : ∀ v w, (Instr.typeAssert (.iface 4 v) 20 53 true).run Tryd.prog w = .ok (.tuple #[.int .i16 0, .bool false]) w := fun _ _ => by kernel_rfl
  have ta3 : ∀ v w, (Instr.typeAssert (.iface 4 v) 20 21 true).run Tryd.prog w = .ok (.tuple #[.int .i32 0, .bool false]) w := fun _ _ => by kernel_rfl
  have ta4 : ∀ v w, (Instr.typeAssert (.iface 4 v) 20 2 true).run Tryd.prog w = .ok (.tuple #[.int .i64 0, .bool false]) w := fun _ _ => by kernel_rfl
  have ta5 : ∀ v w, (Instr.typeAssert (.iface 4 v) 20 43 true).run Tryd.prog w = .ok (.tuple #[.int .u64 0, .bool false]) w := fun _ _ => by kernel_rfl
  have ta6 : ∀ v w, (Instr.typeAssert (.iface 4 v) 20 5 true).run Tryd.prog w = .ok (.tuple #[.int .u8 0, .bool false]) w := fun _ _ => by kernel_rfl
  have ta7 : ∀ v w, (Instr.typeAssert (.iface 4 v) 20 54 true).run Tryd.prog w = .ok (.tuple #[.int .u16 0, .bool false]) w := fun _ _ => by kernel_rfl
  have ta8 : ∀ v w, (Instr.typeAssert (.iface 4 v) 20 55 true).run Tryd.prog w = .ok (.tuple #[.int .u32 0, .bool false]) w := fun _ _ => by kernel_rfl
  have ta9 : ∀ v w, (Instr.typeAssert (.iface 4 v) 20 22 true).run Tryd.prog w = .ok (.tuple #[.int .u64 0, .bool false]) w := fun _ _ => by kernel_rfl
  have ta10 : ∀ v w, (Instr.typeAssert (.iface 4 v) 20 56 true).run Tryd.prog w = .ok (.tuple #[.float .f32 0, .bool false]) w := fun _ _ => by kernel_rfl
  have ta11 : ∀ v w, (Instr.typeAssert (.iface 4 v) 20 23 true).run Tryd.prog w = .ok (.tuple #[.float .f64 0, .bool false]) w := fun _ _ => by kernel_rfl
  have ta12 : ∀ v w, (Instr.typeAssert (.iface 4 v) 20 4 true).run Tryd.prog w = .ok (.tuple #[v, .bool true]) w := fun _ _ => by kernel_rfl
  have C := Lib.hid (fun W => indirect_bool (.bool q) W)
  cases q
  all_goals (
    go_enter Tryd.func47, Tryd.ntmps47
    go_wp2_with fail
    refine (C.out _).mono ?_
    rintro e w1 ⟨rfl, rfl⟩
    go_wp2_with fail
    refine bodyPost_ret (v := _) ?_ rfl ⟨rfl, rfl⟩
    first
      | (simp [results, Tryd.results47, go_sem]; done)
      | (simp [results, Tryd.results47, go_sem, wu8, wu16, wu32, wu64, wi8, wi16, wi32, wi64, wrap64, wrap32]; done)
      | (simp [results, Tryd.results47, go_sem, wu8, wu16, wu32, wu64, wi8, wi16, wi32, wi64, wrap64, wrap32]; omega)
      | (simp [results, Tryd.results47, go_sem]; omega))
theorem num_int_int (n : Int) (hn : (-9223372036854775808 ≤ n ∧ n < 9223372036854775808))  (w : World) : Calls Tryd.prog 47 #[.iface 3 (.int .i64 n)] w fun e w' => e = .returned (.tuple #[.int .i64 (n), .bool true]) ∧ w' = w := by
  have ta0 : ∀ v w, (Instr.typeAssert (.iface 3 v) 20 3 true).run Tryd.prog w = .ok (.tuple #[v, .bool true]) w := fun _ _ => by kernel_rfl
  have ta1 : ∀ v w, (Instr.typeAssert (.iface 3 v) 20 52 true).run Tryd.prog w = .ok (.tuple #[.int .i8 0, .bool false]) w := fun _ _ => by kernel_rfl
  have ta2 : ∀ v w, (Instr.typeAssert (.iface 3 v) 20 53 true).run Tryd.prog w = .ok (.tuple #[.int .i16 0, .bool false]) w := fun _ _ => by kernel_rfl
  have ta3 : ∀ v w, (Instr.typeAssert (.iface 3 v) 20 21 true).run Tryd.prog w = .ok (.tuple #[.int .i32 0, .bool false]) w := fun _ _ => by kernel_rfl
  have ta4 : ∀ v w, (Instr.typeAssert (.iface 3 v) 20 2 true).run Tryd.prog w = .ok (.tuple #[.int .i64 0, .bool false]) w := fun _ _ => by kernel_rfl
  have ta5 : ∀ v w, (Instr.typeAssert (.iface 3 v) 20 43 true).run Tryd.prog w = .ok (.tuple #[.int .u64 0, .bool false]) w := fun _ _ => by kernel_rfl
  have ta6 : ∀ v w, (Instr.typeAssert (.iface 3 v) 20 5 true).run Tryd.prog w = .ok (.tuple #[.int .u8 0, .bool false]) w := fun _ _ => by kernel_rfl
  have ta7 : ∀ v w, (Instr.typeAssert (.iface 3 v) 20 54 true).run Tryd.prog w = .ok (.tuple #[.int .u16 0, .bool false]) w := fun _ _ => by kernel_rfl
  have ta8 : ∀ v w, (Instr.typeAssert (.iface 3 v) 20 55 true).run Tryd.prog w = .ok (.tuple #[.int .u32 0, .bool false]) w := fun _ _ => by kernel_rfl
  have ta9 : ∀ v w, (Instr.typeAssert (.iface 3 v) 20 22 true).run Tryd.prog w = .ok (.tuple #[.int .u64 0, .bool false]) w := fun _ _ => by kernel_rfl
  have ta10 : ∀ v w, (Instr.typeAssert (.iface 3 v) 20 56 true).run Tryd.prog w = .ok (.tuple #[.float .f32 0, .bool false]) w := fun _ _ => by kernel_rfl
  have ta11 : ∀ v w, (Instr.typeAssert (.iface 3 v) 20 23 true).run Tryd.prog w = .ok (.tuple #[.float .f64 0, .bool false]) w := fun _ _ => by kernel_rfl
  have ta12 : ∀ v w, (Instr.typeAssert (.iface 3 v) 20 4 true).run Tryd.prog w = .ok (.tuple #[.bool false, .bool false]) w := fun _ _ => by kernel_rfl
  have C := Lib.hid (fun W => indirect_int (.int .i64 n) W)
  have HN := Lib.hid hn
  clear hn
  go_enter Tryd.func47, Tryd.ntmps47
  go_wp2_with fail
  refine (C.out _).mono ?_
  rintro e w1 ⟨rfl, rfl⟩
  go_wp2_with fail
  have hn := HN.out
  refine bodyPost_ret (v := .tuple #[.int .i64 (n), .bool true]) ?_ rfl ⟨rfl, rfl⟩
  first
    | (simp [results, Tryd.results47, go_sem]; done)
    | (simp [results, Tryd.results47, go_sem, wu8, wu16, wu32, wu64, wi8, wi16, wi32, wi64, wrap64, wrap32]; done)
    | (simp [results, Tryd.results47, go_sem, wu8, wu16, wu32, wu64, wi8, wi16, wi32, wi64, wrap64, wrap32]; omega)
    | (simp [results, Tryd.results47, go_sem]; omega)
theorem num_int_int8 (n : Int) (hn : (-128 ≤ n ∧ n < 128))  (w : World) : Calls Tryd.prog 47 #[.iface 52 (.int .i8 n)] w fun e w' => e = .returned (.tuple #[.int .i64 (n), .bool true]) ∧ w' = w := by
  have ta0 : ∀ v w, (Instr.typeAssert (.iface 52 v) 20 3 true).run Tryd.prog w = .ok (.tuple #[.int .i64 0, .bool false]) w := fun _ _ => by kernel_rfl
  have ta1 : ∀ v w, (Instr.typeAssert (.iface 52 v) 20 52 true).run Tryd.prog w = .ok (.tuple #[v, .bool true]) w := fun _ _ => by kernel_rfl
  have ta2 : ∀ v w, (Instr.typeAssert (.iface 52 v) 20 53 true).run Tryd.prog w = .ok (.tuple #[.int .i16 0, .bool false]) w := fun _ _ => by kernel_rfl
  have ta3 : ∀ v w, (Instr.typeAssert (.iface 52 v) 20 21 true).run Tryd.prog w = .ok (.tuple #[.int .i32 0, .bool false]) w := fun _ _ => by kernel_rfl
  have ta4 : ∀ v w, (Instr.typeAssert (.iface 52 v) 20 2 true).run Tryd.prog w = .ok (.tuple #[.int .i64 0, .bool false]) w := fun _ _ => by kernel_rfl
  have ta5 : ∀ v w, (Instr.typeAssert (.iface 52 v) 20 43 true).run Tryd.prog w = .ok (.tuple #[.int .u64 0, .bool false]) w := fun _ _ => by kernel_rfl
  have ta6 : ∀ v w, (Instr.typeAssert (.iface 52 v) 20 5 true).run Tryd.prog w = .ok (.tuple #[.int .u8 0, .bool false]) w := fun _ _ => by kernel_rfl
  have ta7 : ∀ v w, (Instr.typeAssert (.iface 52 v) 20 54 true).run Tryd.prog w = .ok (.tuple #[.int .u16 0, .bool false]) w := fun _ _ => by kernel_rfl
  have ta8 : ∀ v w, (Instr.typeAssert (.iface 52 v) 20 55 true).run Tryd.prog w = .ok (.tuple #[.int .u32 0, .bool false]) w := fun _ _ => by kernel_rfl
  have ta9 : ∀ v w, (Instr.typeAssert (.iface 52 v) 20 22 true).run Tryd.prog w = .ok (.tuple #[.int .u64 0, .bool false]) w := fun _ _ => by kernel_rfl
  have ta10 : ∀ v w, (Instr.typeAssert (.iface 52 v) 20 56 true).run Tryd.prog w = .ok (.tuple #[.float .f32 0, .bool false]) w := fun _ _ => by kernel_rfl
  have ta11 : ∀ v w, (Instr.typeAssert (.iface 52 v) 20 23 true).run Tryd.prog w = .ok (.tuple #[.float .f64 0, .bool false]) w := fun _ _ => by kernel_rfl
  have ta12 : ∀ v w, (Instr.typeAssert (.iface 52 v) 20 4 true).run Tryd.prog w = .ok (.tuple #[.bool false, .bool false]) w := fun _ _ => by kernel_rfl
  have C := Lib.hid (fun W => indirect_int8 (.int .i8 n) W)
  have HN := Lib.hid hn
  clear hn
  go_enter Tryd.func47, Tryd.ntmps47
  go_wp2_with fail
  refine (C.out _).mono ?_
  rintro e w1 ⟨rfl, rfl⟩
  go_wp2_with fail
  have hn := HN.out
  refine bodyPost_ret (v := .tuple #[.int .i64 (n), .bool true]) ?_ rfl ⟨rfl, rfl⟩
  first
    | (simp [results, Tryd.results47, go_sem]; done)
    | (simp [results, Tryd.results47, go_sem, wu8, wu16, wu32, wu64, wi8, wi16, wi32, wi64, wrap64, wrap32]; done)
    | (simp [results, Tryd.results47, go_sem, wu8, wu16, wu32, wu64, wi8, wi16, wi32, wi64, wrap64, wrap32]; omega)
    | (simp [results, Tryd.results47, go_sem]; omega)
theorem num_int_int16 (n : Int) (hn : (-32768 ≤ n ∧ n < 32768))  (w : World) : Calls Tryd.prog 47 #[.iface 53 (.int .i16 n)] w fun e w' => e = .returned (.tuple #[.int .i64 (n), .bool true]) ∧ w' = w := by
  have ta0 : ∀ v w, (Instr.typeAssert (.iface 53 v) 20 3 true).run Tryd.prog w = .ok (.tuple #[.int .i64 0, .bool false]) w := fun _ _ => by kernel_rfl
  have ta1 : ∀ v w, (Instr.typeAssert (.iface 53 v) 20 52 true).run Tryd.prog w = .ok (.tuple #[.int .i8 0, .bool false]) w := fun _ _ => by kernel_rfl
  have ta2 : ∀ v w, (Instr.typeAssert (.iface 53 v) 20 53 true).run Tryd.prog w = .ok (.tuple #[v, .bool true]) w := fun _ _ => by kernel_rfl
  have ta3 : ∀ v w, (Instr.typeAssert (.iface 53 v) 20 21 true).run Tryd.prog w = .ok (.tuple #[.int .i32 0, .bool false]) w := fun _ _ => by kernel_rfl
  have ta4 : ∀ v w, (Instr.typeAssert (.iface 53 v) 20 2 true).run Tryd.prog w = .ok (.tuple #[.int .i64 0, .bool false]) w := fun _ _ => by kernel_rfl
  have ta5 : ∀ v w, (Instr.typeAssert (.iface 53 v) 20 43 true).run Tryd.prog w = .ok (.tuple #[.int .u64 0, .bool false]) w := fun _ _ => by kernel_rfl
  have ta6 : ∀ v w, (Instr.typeAssert (.iface 53 v) 20 5 true).run Tryd.prog w = .ok (.tuple #[.int .u8 0, .bool false]) w := fun _ _ => by kernel_rfl
  have ta7 : ∀ v w, (Instr.typeAssert (.iface 53 v) 20 54 true).run Tryd.prog w = .ok (.tuple #[.int .u16 0, .bool false]) w := fun _ _ => by kernel_rfl
  have ta8 : ∀ v w, (Instr.typeAssert (.iface 53 v) 20 55 true).run Tryd.prog w = .ok (.tuple #[.int .u32 0, .bool false]) w := fun _ _ => by kernel_rfl
  have ta9 : ∀ v w, (Instr.typeAssert (.iface 53 v) 20 22 true).run Tryd.prog w = .ok (.tuple #[.int .u64 0, .bool false]) w := fun _ _ => by kernel_rfl
  have ta10 : ∀ v w, (Instr.typeAssert (.iface 53 v) 20 56 true).run Tryd.prog w = .ok (.tuple #[.float .f32 0, .bool false]) w := fun _ _ => by kernel_rfl
  have ta11 : ∀ v w, (Instr.typeAssert (.iface 53 v) 20 23 true).run Tryd.prog w = .ok (.tuple #[.float .f64 0, .bool false]) w := fun _ _ => by kernel_rfl
  have ta12 : ∀ v w, (Instr.typeAssert (.iface 53 v) 20 4 true).run Tryd.prog w = .ok (.tuple #[.bool false, .bool false]) w := fun _ _ => by kernel_rfl
  have C := Lib.hid (fun W => indirect_int16 (.int .i16 n) W)
  have HN := Lib.hid hn
  clear hn
  go_enter Tryd.func47, Tryd.ntmps47
  go_wp2_with fail
  refine (C.out _).mono ?_
  rintro e w1 ⟨rfl, rfl⟩
  go_wp2_with fail
  have hn := HN.out
  refine bodyPost_ret (v := .tuple #[.int .i64 (n), .bool true]) ?_ rfl ⟨rfl, rfl⟩
  first
    | (simp [results, Tryd.results47, go_sem]; done)
    | (simp [results, Tryd.results47, go_sem, wu8, wu16, wu32, wu64, wi8, wi16, wi32, wi64, wrap64, wrap32]; done)
    | (simp [results, Tryd.results47, go_sem, wu8, wu16, wu32, wu64, wi8, wi16, wi32, wi64, wrap64, wrap32]; omega)
    | (simp [results, Tryd.results47, go_sem]; omega)
theorem num_int_int32 (n : Int) (hn : (-2147483648 ≤ n ∧ n < 2147483648))  (w : World) : Calls Tryd.prog 47 #[.iface 21 (.int .i32 n)] w fun e w' => e = .returned (.tuple #[.int .i64 (n), .bool true]) ∧ w' = w := by
  have ta0 : ∀ v w, (Instr.typeAssert (.iface 21 v) 20 3 true).run Tryd.prog w = .ok (.tuple #[.int .i64 0, .bool false]) w := fun _ _ => by kernel_rfl
  have ta1 : ∀ v w, (Instr.typeAssert (.iface 21 v) 20 52 true).run Tryd.prog w = .ok (.tuple #[.int .i8 0, .bool false]) w := fun _ _ => by kernel_rfl
  have ta2 : ∀ v w, (Instr.typeAssert (.iface 21 v) 20 53 true).run Tryd.prog w = .ok (.tuple #[.int .i16 0, .bool false]) w := fun _ _ => by kernel_rfl
  have ta3 : ∀ v w, (Instr.typeAssert (.iface 21 v) 20 21 true).run Tryd.prog w = .ok (.tuple #[v, .bool true]) w := fun _ _ => by kernel_rfl
  have ta4 : ∀ v w, (Instr.typeAssert (.iface 21 v) 20 2 true).run Tryd.prog w = .ok (.tuple #[.int .i64 0, .bool false]) w := fun _ _ => by kernel_rfl
  have ta5 : ∀ v w, (Instr.typeAssert (.iface 21 v) 20 43 true).run Tryd.prog w = .ok (.tuple #[.int .u64 0, .bool false]) w := fun _ _ => by kernel_rfl
  have ta6 : ∀ v w, (Instr.typeAssert (.iface 21 v) 20 5 true).run Tryd.prog w = .ok (.tuple #[.int .u8 0, .bool false]) w := fun _ _ => by kernel_rfl
  have ta7 : ∀ v w, (Instr.typeAssert (.iface 21 v) 20 54 true).run Tryd.prog w = .ok (.tuple #[.int .u16 0, .bool false]) w := fun _ _ => by kernel_rfl
  have ta8 : ∀ v w, (Instr.typeAssert (.iface 21 v) 20 55 true).run Tryd.prog w = .ok (.tuple #[.int .u32 0, .bool false]) w := fun _ _ => by kernel_rfl
  have ta9 : ∀ v w, (Instr.typeAssert (.iface 21 v) 20 22 true).run Tryd.prog w = .ok (.tuple #[.int .u64 0, .bool false]) w := fun _ _ => by kernel_rfl
  have ta10 : ∀ v w, (Instr.typeAssert (.iface 21 v) 20 56 true).run Tryd.prog w = .ok (.tuple #[.float .f32 0, .bool false]) w := fun _ _ => by kernel_rfl
  have ta11 : ∀ v w, (Instr.typeAssert (.iface 21 v) 20 23 true).run Tryd.prog w = .ok (.tuple #[.float .f64 0, .bool false]) w := fun _ _ => by kernel_rfl
  have ta12 : ∀ v w, (Instr.typeAssert (.iface 21 v) 20 4 true).run Tryd.prog w = .ok (.tuple #[.bool false, .bool false]) w := fun _ _ => by kernel_rfl
  have C := Lib.hid (fun W => indirect_int32 (.int .i32 n) W)
  have HN := Lib.hid hn
  clear hn
  go_enter Tryd.func47, Tryd.ntmps47
  go_wp2_with fail
  refine (C.out _).mono ?_
  rintro e w1 ⟨rfl, rfl⟩
  go_wp2_with fail
  have hn := HN.out
  refine bodyPost_ret (v := .tuple #[.int .i64 (n), .bool true]) ?_ rfl ⟨rfl, rfl⟩
  first
    | (simp [results, Tryd.results47, go_sem]; done)
    | (simp [results, Tryd.results47, go_sem, wu8, wu16, wu32, wu64, wi8, wi16, wi32, wi64, wrap64, wrap32]; done)
    | (simp [results, Tryd.results47, go_sem, wu8, wu16, wu32, wu64, wi8, wi16, wi32, wi64, wrap64, wrap32]; omega)
    | (simp [results, Tryd.results47, go_sem]; omega)
theorem num_int_int64 (n : Int) (hn : (-9223372036854775808 ≤ n ∧ n < 9223372036854775808))  (w : World) : Calls Tryd.prog 47 #[.iface 2 (.int .i64 n)] w fun e w' => e = .returned (.tuple #[.int .i64 (n), .bool true]) ∧ w' = w := by
  have ta0 : ∀ v w, (Instr.typeAssert (.iface 2 v) 20 3 true).run Tryd.prog w = .ok (.tuple #[.int .i64 0, .bool false]) w := fun _ _ => by kernel_rfl
  have ta1 : ∀ v w, (Instr.typeAssert (.iface 2 v) 20 52 true).run Tryd.prog w = .ok (.tuple #[.int .i8 0, .bool false]) w := fun _ _ => by kernel_rfl
  have ta2 : ∀ v w, (Instr.typeAssert (.iface 2 v) 20 53 true).run Tryd.prog w = .ok (.tuple #[.int .i16 0, .bool false]) w := fun _ _ => by kernel_rfl
  have ta3 : ∀ v w, (Instr.typeAssert (.iface 2 v) 20 21 true).run Tryd.prog w = .ok (.tuple #[.int .i32 0, .bool false]) w := fun _ _ => by kernel_rfl
  have ta4 : ∀ v w, (Instr.typeAssert (.iface 2 v) 20 2 true).run Tryd.prog w = .ok (.tuple #[v, .bool true]) w := fun _ _ => by kernel_rfl
  have ta5 : ∀ v w, (Instr.typeAssert (.iface 2 v) 20 43 true).run Tryd.prog w = .ok (.tuple #[.int .u64 0, .bool false]) w := fun _ _ => by kernel_rfl
  have ta6 : ∀ v w, (Instr.typeAssert (.iface 2 v) 20 5 true).run Tryd.prog w = .ok (.tuple #[.int .u8 0, .bool false]) w := fun _ _ => by kernel_rfl
  have ta7 : ∀ v w, (Instr.typeAssert (.iface 2 v) 20 54 true).run Tryd.prog w = .ok (.tuple #[.int .u16 0, .bool false]) w := fun _ _ => by kernel_rfl
  have ta8 : ∀ v w, (Instr.typeAssert (.iface 2 v) 20 55 true).run Tryd.prog w = .ok (.tuple #[.int .u32 0, .bool false]) w := fun _ _ => by kernel_rfl
  have ta9 : ∀ v w, (Instr.typeAssert (.iface 2 v) 20 22 true).run Tryd.prog w = .ok (.tuple #[.int .u64 0, .bool false]) w := fun _ _ => by kernel_rfl
  have ta10 : ∀ v w, (Instr.typeAssert (.iface 2 v) 20 56 true).run Tryd.prog w = .ok (.tuple #[.float .f32 0, .bool false]) w := fun _ _ => by kernel_rfl
  have ta11 : ∀ v w, (Instr.typeAssert (.iface 2 v) 20 23 true).run Tryd.prog w = .ok (.tuple #[.float .f64 0, .bool false]) w := fun _ _ => by kernel_rfl
  have ta12 : ∀ v w, (Instr.typeAssert (.iface 2 v) 20 4 true).run Tryd.prog w = .ok (.tuple #[.bool false, .bool false]) w := fun _ _ => by kernel_rfl
  have C := Lib.hid (fun W => indirect_int64 (.int .i64 n) W)
  have HN := Lib.hid hn
  clear hn
  go_enter Tryd.func47, Tryd.ntmps47
  go_wp2_with fail
  refine (C.out _).mono ?_
  rintro e w1 ⟨rfl, rfl⟩
  go_wp2_with fail
  have hn := HN.out
  refine bodyPost_ret (v := .tuple #[.int .i64 (n), .bool true]) ?_ rfl ⟨rfl, rfl⟩
  first
    | (simp [results, Tryd.results47, go_sem]; done)
    | (simp [results, Tryd.results47, go_sem, wu8, wu16, wu32, wu64, wi8, wi16, wi32, wi64, wrap64, wrap32]; done)
    | (simp [results, Tryd.results47, go_sem, wu8, wu16, wu32, wu64, wi8, wi16, wi32, wi64, wrap64, wrap32]; omega)
    | (simp [results, Tryd.results47, go_sem]; omega)
theorem num_int_uint (n : Int) (hn : (0 ≤ n ∧ n < 18446744073709551616))  (w : World) : Calls Tryd.prog 47 #[.iface 43 (.int .u64 n)] w fun e w' => e = .returned (.tuple #[.int .i64 ((n + 9223372036854775808) % 18446744073709551616 - 9223372036854775808), .bool true]) ∧ w' = w := by
  have ta0 : ∀ v w, (Instr.typeAssert (.iface 43 v) 20 3 true).run Tryd.prog w = .ok (.tuple #[.int .i64 0, .bool false]) w := fun _ _ => by kernel_rfl
  have ta1 : ∀ v w, (Instr.typeAssert (.iface 43 v) 20 52 true).run Tryd.prog w = .ok (.tuple #[.int .i8 0, .bool false]) w := fun _ _ => by kernel_rfl
  have ta2 : ∀ v w, (Instr.typeAssert (.iface 43 v) 20 53 true).run Tryd.prog w = .ok (.tuple #[.int .i16 0, .bool false]) w := fun _ _ => by kernel_rfl
  have ta3 : ∀ v w, (Instr.typeAssert (.iface 43 v) 20 21 true).run Tryd.prog w = .ok (.tuple #[.int .i32 0, .bool false]) w := fun _ _ => by kernel_rfl
  have ta4 : ∀ v w, (Instr.typeAssert (.iface 43 v) 20 2 true).run Tryd.prog w = .ok (.tuple #[.int .i64 0, .bool false]) w := fun _ _ => by kernel_rfl
  have ta5 : ∀ v w, (Instr.typeAssert (.iface 43 v) 20 43 true).run Tryd.prog w = .ok (.tuple #[v, .bool true]) w := fun _ _ => by kernel_rfl
  have ta6 : ∀ v w, (Instr.typeAssert (.iface 43 v) 20 5 true).run Tryd.prog w = .ok (.tuple #[.int .u8 0, .bool false]) w := fun _ _ => by kernel_rfl
  have ta7 : ∀ v w, (Instr.typeAssert (.iface 43 v) 20 54 true).run Tryd.prog w = .ok (.tuple #[.int .u16 0, .bool false]) w := fun _ _ => by kernel_rfl
  have ta8 : ∀ v w, (Instr.typeAssert (.iface 43 v) 20 55 true).run Tryd.prog w = .ok (.tuple #[.int .u32 0, .bool false]) w := fun _ _ => by kernel_rfl
  have ta9 : ∀ v w, (Instr.typeAssert (.iface 43 v) 20 22 true).run Tryd.prog w = .ok (.tuple #[.int .u64 0, .bool false]) w := fun _ _ => by kernel_rfl
  have ta10 : ∀ v w, (Instr.typeAssert (.iface 43 v) 20 56 true).run Tryd.prog w = .ok (.tuple #[.float .f32 0, .bool false]) w := fun _ _ => by kernel_rfl
  have ta11 : ∀ v w, (Instr.typeAssert (.iface 43 v) 20 23 true).run Tryd.prog w = .ok (.tuple #[.float .f64 0, .bool false]) w := fun _ _ => by kernel_rfl
  have ta12 : ∀ v w, (Instr.typeAssert (.iface 43 v) 20 4 true).run Tryd.prog w = .ok (.tuple #[.bool false, .bool false]) w := fun _ _ => by kernel_rfl
  have C := Lib.hid (fun W => indirect_uint (.int .u64 n) W)
  have HN := Lib.hid hn
  clear hn
  go_enter Tryd.func47, Tryd.ntmps47
  go_wp2_with fail
  refine (C.out _).mono ?_
  rintro e w1 ⟨rfl, rfl⟩
  go_wp2_with fail
  have hn := HN.out
  refine bodyPost_ret (v := .tuple #[.int .i64 ((n + 9223372036854775808) % 18446744073709551616 - 9223372036854775808), .bool true]) ?_ rfl ⟨rfl, rfl⟩
  first
    | (simp [results, Tryd.results47, go_sem]; done)
    | (simp [results, Tryd.results47, go_sem, wu8, wu16, wu32, wu64, wi8, wi16, wi32, wi64, wrap64, wrap32]; done)
    | (simp [results, Tryd.results47, go_sem, wu8, wu16, wu32, wu64, wi8, wi16, wi32, wi64, wrap64, wrap32]; omega)
    | (simp [results, Tryd.results47, go_sem]; omega)
theorem num_int_uint8 (n : Int) (hn : (0 ≤ n ∧ n < 256))  (w : World) : Calls Tryd.prog 47 #[.iface 5 (.int .u8 n)] w fun e w' => e = .returned (.tuple #[.int .i64 ((n + 9223372036854775808) % 18446744073709551616 - 9223372036854775808), .bool true]) ∧ w' = w := by
  have ta0 : ∀ v w, (Instr.typeAssert (.iface 5 v) 20 3 true).run Tryd.prog w = .ok (.tuple #[.int .i64 0, .bool false]) w := fun _ _ => by kernel_rfl
  have ta1 : ∀ v w, (Instr.typeAssert (.iface 5 v) 20 52 true).run Tryd.prog w = .ok (.tuple #[.int .i8 0, .bool false]) w := fun _ _ => by kernel_rfl
  have ta2 : ∀ v w, (Instr.typeAssert (.iface 5 v) 20 53 true).run Tryd.prog w = .ok (.tuple #[.int .i16 0, .bool false]) w := fun _ _ => by kernel_rfl
  have ta3 : ∀ v w, (Instr.typeAssert (.iface 5 v) 20 21 true).run Tryd.prog w = .ok (.tuple #[.int .i32 0, .bool false]) w := fun _ _ => by kernel_rfl
  have ta4 : ∀ v w, (Instr.typeAssert (.iface 5 v) 20 2 true).run Tryd.prog w = .ok (.tuple #[.int .i64 0, .bool false]) w := fun _ _ => by kernel_rfl
  have ta5 : ∀ v w, (Instr.typeAssert (.iface 5 v) 20 43 true).run Tryd.prog w = .ok (.tuple #[.int .u64 0, .bool false]) w := fun _ _ => by kernel_rfl
  have ta6 : ∀ v w, (Instr.typeAssert (.iface 5 v) 20 5 true).run Tryd.prog w = .ok (.tuple #[v, .bool true]) w := fun _ _ => by kernel_rfl
  have ta7 : ∀ v w, (Instr.typeAssert (.iface 5 v) 20 54 true).run Tryd.prog w = .ok (.tuple #[.int .u16 0, .bool false]) w := fun _ _ => by kernel_rfl
  have ta8 : ∀ v w, (Instr.typeAssert (.iface 5 v) 20 55 true).run Tryd.prog w = .ok (.tuple #[.int .u32 0, .bool false]) w := fun _ _ => by kernel_rfl
  have ta9 : ∀ v w, (Instr.typeAssert (.iface 5 v) 20 22 true).run Tryd.prog w = .ok (.tuple #[.int .u64 0, .bool false]) w := fun _ _ => by kernel_rfl
  have ta10 : ∀ v w, (Instr.typeAssert (.iface 5 v) 20 56 true).run Tryd.prog w = .ok (.tuple #[.float .f32 0, .bool false]) w := fun _ _ => by kernel_rfl
  have ta11 : ∀ v w, (Instr.typeAssert (.iface 5 v) 20 23 true).run Tryd.prog w = .ok (.tuple #[.float .f64 0, .bool false]) w := fun _ _ => by kernel_rfl
  have ta12 : ∀ v w, (Instr.typeAssert (.iface 5 v) 20 4 true).run Tryd.prog w = .ok (.tuple #[.bool false, .bool false]) w := fun _ _ => by kernel_rfl
  have C := Lib.hid (fun W => indirect_uint8 (.int .u8 n) W)
  have HN := Lib.hid hn
  clear hn
  go_enter Tryd.func47, Tryd.ntmps47
  go_wp2_with fail
  refine (C.out _).mono ?_
  rintro e w1 ⟨rfl, rfl⟩
  go_wp2_with fail
  have hn := HN.out
  refine bodyPost_ret (v := .tuple #[.int .i64 ((n + 9223372036854775808) % 18446744073709551616 - 9223372036854775808), .bool true]) ?_ rfl ⟨rfl, rfl⟩
  first
    | (simp [results, Tryd.results47, go_sem]; done)
    | (simp [results, Tryd.results47, go_sem, wu8, wu16, wu32, wu64, wi8, wi16, wi32, wi64, wrap64, wrap32]; done)
    | (simp [results, Tryd.results47, go_sem, wu8, wu16, wu32, wu64, wi8, wi16, wi32, wi64, wrap64, wrap32]; omega)
    | (simp [results, Tryd.results47, go_sem]; omega)
theorem num_int_uint16 (n : Int) (hn : (0 ≤ n ∧ n < 65536))  (w : World) : Calls Tryd.prog 47 #[.iface 54 (.int .u16 n)] w fun e w' => e = .returned (.tuple #[.int .i64 ((n + 9223372036854775808) % 18446744073709551616 - 9223372036854775808), .bool true]) ∧ w' = w := by
  have ta0 : ∀ v w, (Instr.typeAssert (.iface 54 v) 20 3 true).run Tryd.prog w = .ok (.tuple #[.int .i64 0, .bool false]) w := fun _ _ => by kernel_rfl
  have ta1 : ∀ v w, (Instr.typeAssert (.iface 54 v) 20 52 true).run Tryd.prog w = .ok (.tuple #[.int .i8 0, .bool false]) w := fun _ _ => by kernel_rfl
  have ta2 : ∀ v w, (Instr.typeAssert (.iface 54 v) 20 53 true).run Tryd.prog w = .ok (.tuple #[.int .i16 0, .bool false]) w := fun _ _ => by kernel_rfl
  have ta3 : ∀ v w, (Instr.typeAssert (.iface 54 v) 20 21 true).run Tryd.prog w = .ok (.tuple #[.int .i32 0, .bool false]) w := fun _ _ => by kernel_rfl
  have ta4 : ∀ v w, (Instr.typeAssert (.iface 54 v) 20 2 true).run Tryd.prog w = .ok (.tuple #[.int .i64 0, .bool false]) w := fun _ _ => by kernel_rfl
  have ta5 : ∀ v w, (Instr.typeAssert (.iface 54 v) 20 43 true).run Tryd.prog w = .ok (.tuple #[.int .u64 0, .bool false]) w := fun _ _ => by kernel_rfl
  have ta6 : ∀ v w, (Instr.typeAssert (.iface 54 v) 20 5 true).run Tryd.prog w = .ok (.tuple #[.int .u8 0, .bool false]) w := fun _ _ => by kernel_rfl
  have ta7 : ∀ v w, (Instr.typeAssert (.iface 54 v) 20 54 true).run Tryd.prog w = .ok (.tuple #[v, .bool true]) w := fun _ _ => by kernel_rfl
  have ta8 : ∀ v w, (Instr.typeAssert (.iface 54 v) 20 55 true).run Tryd.prog w = .ok (.tuple #[.int .u32 0, .bool false]) w := fun _ _ => by kernel_rfl
  have ta9 : ∀ v w, (Instr.typeAssert (.iface 54 v) 20 22 true).run Tryd.prog w = .ok (.tuple #[.int .u64 0, .bool false]) w := fun _ _ => by kernel_rfl
  have ta10 : ∀ v w, (Instr.typeAssert (.iface 54 v) 20 56 true).run Tryd.prog w = .ok (.tuple #[.float .f32 0, .bool false]) w := fun _ _ => by kernel_rfl
  have ta11 : ∀ v w, (Instr.typeAssert (.iface 54 v) 20 23 true).run Tryd.prog w = .ok (.tuple #[.float .f64 0, .bool false]) w := fun _ _ => by kernel_rfl
  have ta12 : ∀ v w, (Instr.typeAssert (.iface 54 v) 20 4 true).run Tryd.prog w = .ok (.tuple #[.bool false, .bool false]) w := fun _ _ => by kernel_rfl
  have C := Lib.hid (fun W => indirect_uint16 (.int .u16 n) W)
  have HN := Lib.hid hn
  clear hn
  go_enter Tryd.func47, Tryd.ntmps47
  go_wp2_with fail
  refine (C.out _).mono ?_
  rintro e w1 ⟨rfl, rfl⟩
  go_wp2_with fail
  have hn := HN.out
  refine bodyPost_ret (v := .tuple #[.int .i64 ((n + 9223372036854775808) % 18446744073709551616 - 9223372036854775808), .bool true]) ?_ rfl ⟨rfl, rfl⟩
  first
    | (simp [results, Tryd.results47, go_sem]; done)
    | (simp [results, Tryd.results47, go_sem, wu8, wu16, wu32, wu64, wi8, wi16, wi32, wi64, wrap64, wrap32]; done)
    | (simp [results, Tryd.results47, go_sem, wu8, wu16, wu32, wu64, wi8, wi16, wi32, wi64, wrap64, wrap32]; omega)
    | (simp [results, Tryd.results47, go_sem]; omega)
theorem num_int_uint32 (n : Int) (hn : (0 ≤ n ∧ n < 4294967296))  (w : World) : Calls Tryd.prog 47 #[.iface 55 (.int .u32 n)] w fun e w' => e = .returned (.tuple #[.int .i64 ((n + 9223372036854775808) % 18446744073709551616 - 9223372036854775808), .bool true]) ∧ w' = w := by
  have ta0 : ∀ v w, (Instr.typeAssert (.iface 55 v) 20 3 true).run Tryd.prog w = .ok (.tuple #[.int .i64 0, .bool false]) w := fun _ _ => by kernel_rfl
  have ta1 : ∀ v w, (Instr.typeAssert (.iface 55 v) 20 52 true).run Tryd.prog w = .ok (.tuple #[.int .i8 0, .bool false]) w := fun _ _ => by kernel_rfl
  have ta2 : ∀ v w, (Instr.typeAssert (.iface 55 v) 20 53 true).run Tryd.prog w = .ok (.tuple #[.int .i16 0, .bool false]) w := fun _ _ => by kernel_rfl
  have ta3 : ∀ v w, (Instr.typeAssert (.iface 55 v) 20 21 true).run Tryd.prog w = .ok (.tuple #[.int .i32 0, .bool false]) w := fun _ _ => by kernel_rfl
  have ta4 : ∀ v w, (Instr.typeAssert (.iface 55 v) 20 2 true).run Tryd.prog w = .ok (.tuple #[.int .i64 0, .bool false]) w := fun _ _ => by kernel_rfl
  have ta5 : ∀ v w, (Instr.typeAssert (.iface 55 v) 20 43 true).run Tryd.prog w = .ok (.tuple #[.int .u64 0, .bool false]) w := fun _ _ => by kernel_rfl
  have ta6 : ∀ v w, (Instr.typeAssert (.iface 55 v) 20 5 true).run Tryd.prog w = .ok (.tuple #[.int .u8 0, .bool false]) w := fun _ _ => by kernel_rfl
  have ta7 : ∀ v w, (Instr.typeAssert (.iface 55 v) 20 54 true).run Tryd.prog w = .ok (.tuple #[.int .u16 0, .bool false]) w := fun _ _ => by kernel_rfl
  have ta8 : ∀ v w, (Instr.typeAssert (.iface 55 v) 20 55 true).run Tryd.prog w = .ok (.tuple #[v, .bool true]) w := fun _ _ => by kernel_rfl
  have ta9 : ∀ v w, (Instr.typeAssert (.iface 55 v) 20 22 true).run Tryd.prog w = .ok (.tuple #[.int .u64 0, .bool false]) w := fun _ _ => by kernel_rfl
  have ta10 : ∀ v w, (Instr.typeAssert (.iface 55 v) 20 56 true).run Tryd.prog w = .ok (.tuple #[.float .f32 0, .bool false]) w := fun _ _ => by kernel_rfl
  have ta11 : ∀ v w, (Instr.typeAssert (.iface 55 v) 20 23 true).run Tryd.prog w = .ok (.tuple #[.float .f64 0, .bool false]) w := fun _ _ => by kernel_rfl
  have ta12 : ∀ v w, (Instr.typeAssert (.iface 55 v) 20 4 true).run Tryd.prog w = .ok (.tuple #[.bool false, .bool false]) w := fun _ _ => by kernel_rfl
  have C := Lib.hid (fun W => indirect_uint32 (.int .u32 n) W)
  have HN := Lib.hid hn
  clear hn
  go_enter Tryd.func47, Tryd.ntmps47
  go_wp2_with fail
  refine (C.out _).mono ?_
  rintro e w1 ⟨rfl, rfl⟩
  go_wp2_with fail
  have hn := HN.out
  refine bodyPost_ret (v := .tuple #[.int .i64 ((n + 9223372036854775808) % 18446744073709551616 - 9223372036854775808), .bool true]) ?_ rfl ⟨rfl, rfl⟩
  first
    | (simp [results, Tryd.results47, go_sem]; done)
    | (simp [results, Tryd.results47, go_sem, wu8, wu16, wu32, wu64, wi8, wi16, wi32, wi64, wrap64, wrap32]; done)
    | (simp [results, Tryd.results47, go_sem, wu8, wu16, wu32, wu64, wi8, wi16, wi32, wi64, wrap64, wrap32]; omega)
    | (simp [results, Tryd.results47, go_sem]; omega)
theorem num_int_uint64 (n : Int) (hn : (0 ≤ n ∧ n < 18446744073709551616))  (w : World) : Calls Tryd.prog 47 #[.iface 22 (.int .u64 n)] w fun e w' => e = .returned (.tuple #[.int .i64 ((n + 9223372036854775808) % 18446744073709551616 - 9223372036854775808), .bool true]) ∧ w' = w := by
  have ta0 : ∀ v w, (Instr.typeAssert (.iface 22 v) 20 3 true).run Tryd.prog w = .ok (.tuple #[.int .i64 0, .bool false]) w := fun _ _ => by kernel_rfl
  have ta1 : ∀ v w, (Instr.typeAssert (.iface 22 v) 20 52 true).run Tryd.prog w = .ok (.tuple #[.int .i8 0, .bool false]) w := fun _ _ => by kernel_rfl
  have ta2 : ∀ v w, (Instr.typeAssert (.iface 22 v) 20 53 true).run Tryd.prog w = .ok (.tuple #[.int .i16 0, .bool false]) w := fun _ _ => by kernel_rfl
  have ta3 : ∀ v w, (Instr.typeAssert (.iface 22 v) 20 21 true).run Tryd.prog w = .ok (.tuple #[.int .i32 0, .bool false]) w := fun _ _ => by kernel_rfl
  have ta4 : ∀ v w, (Instr.typeAssert (.iface 22 v) 20 2 true).run Tryd.prog w = .ok (.tuple #[.int .i64 0, .bool false]) w := fun _ _ => by kernel_rfl
  have ta5 : ∀ v w, (Instr.typeAssert (.iface 22 v) 20 43 true).run Tryd.prog w = .ok (.tuple #[.int .u64 0, .bool false]) w := fun _ _ => by kernel_rfl
  have ta6 : ∀ v w, (Instr.typeAssert (.iface 22 v) 20 5 true).run Tryd.prog w = .ok (.tuple #[.int .u8 0, .bool false]) w := fun _ _ => by kernel_rfl
  have ta7 : ∀ v w, (Instr.typeAssert (.iface 22 v) 20 54 true).run Tryd.prog w = .ok (.tuple #[.int .u16 0, .bool false]) w := fun _ _ => by kernel_rfl
  have ta8 : ∀ v w, (Instr.typeAssert (.iface 22 v) 20 55 true).run Tryd.prog w = .ok (.tuple #[.int .u32 0, .bool false]) w := fun _ _ => by kernel_rfl
  have ta9 : ∀ v w, (Instr.typeAssert (.iface 22 v) 20 22 true).run Tryd.prog w = .ok (.tuple #[v, .bool true]) w := fun _ _ => by kernel_rfl
  have ta10 : ∀ v w, (Instr.typeAssert (.iface 22 v) 20 56 true).run Tryd.prog w = .ok (.tuple #[.float .f32 0, .bool false]) w := fun _ _ => by kernel_rfl
  have ta11 : ∀ v w, (Instr.typeAssert (.iface 22 v) 20 23 true).run Tryd.prog w = .ok (.tuple #[.float .f64 0, .bool false]) w := fun _ _ => by kernel_rfl
  have ta12 : ∀ v w, (Instr.typeAssert (.iface 22 v) 20 4 true).run Tryd.prog w = .ok (.tuple #[.bool false, .bool false]) w := fun _ _ => by kernel_rfl
  have C := Lib.hid (fun W => indirect_uint64 (.int .u64 n) W)
  have HN := Lib.hid hn
  clear hn
  go_enter Tryd.func47, Tryd.ntmps47
  go_wp2_with fail
  refine (C.out _).mono ?_
  rintro e w1 ⟨rfl, rfl⟩
  go_wp2_with fail
  have hn := HN.out
  refine bodyPost_ret (v := .tuple #[.int .i64 ((n + 9223372036854775808) % 18446744073709551616 - 9223372036854775808), .bool true]) ?_ rfl ⟨rfl, rfl⟩
  first
    | (simp [results, Tryd.results47, go_sem]; done)
    | (simp [results, Tryd.results47, go_sem, wu8, wu16, wu32, wu64, wi8, wi16, wi32, wi64, wrap64, wrap32]; done)
    | (simp [results, Tryd.results47, go_sem, wu8, wu16, wu32, wu64, wi8, wi16, wi32, wi64, wrap64, wrap32]; omega)
    | (simp [results, Tryd.results47, go_sem]; omega)
theorem num_int_float32 (b : Nat)  (n : Int) (hn : floatToIntVal .f32 b .i64 = some n) (w : World) : Calls Tryd.prog 47 #[.iface 56 (.float .f32 b)] w fun e w' => e = .returned (.tuple #[.int .i64 (n), .bool true]) ∧ w' = w := by
  have ta0 : ∀ v w, (Instr.typeAssert (.iface 56 v) 20 3 true).run Tryd.prog w = .ok (.tuple #[.int .i64 0, .bool false]) w := fun _ _ => by kernel_rfl
  have ta1 : ∀ v w, (Instr.typeAssert (.iface 56 v) 20 52 true).run Tryd.prog w = .ok (.tuple #[.int .i8 0, .bool false]) w := fun _ _ => by kernel_rfl
  have ta2 : ∀ v w, (Instr.typeAssert (.iface 56 v) 20 53 true).run Tryd.prog w = .ok (.tuple #[.int .i16 0, .bool false]) w := fun _ _ => by kernel_rfl
  have ta3 : ∀ v w, (Instr.typeAssert (.iface 56 v) 20 21 true).run Tryd.prog w = .ok (.tuple #[.int .i32 0, .bool false]) w := fun _ _ => by kernel_rfl
  have ta4 : ∀ v w, (Instr.typeAssert (.iface 56 v) 20 2 true).run Tryd.prog w = .ok (.tuple #[.int .i64 0, .bool false]) w := fun _ _ => by kernel_rfl
  have ta5 : ∀ v w, (Instr.typeAssert (.iface 56 v) 20 43 true).run Tryd.prog w = .ok (.tuple #[.int .u64 0, .bool false]) w := fun _ _ => by kernel_rfl
  have ta6 : ∀ v w, (Instr.typeAssert (.iface 56 v) 20 5 true).run Tryd.prog w = .ok (.tuple #[.int .u8 0, .bool false]) w := fun _ _ => by kernel_rfl
  have ta7 : ∀ v w, (Instr.typeAssert (.iface 56 v) 20 54 true).run Tryd.prog w = .ok (.tuple #[.int .u16 0, .bool false]) w := fun _ _ => by kernel_rfl
  have ta8 : ∀ v w, (Instr.typeAssert (.iface 56 v) 20 55 true).run Tryd.prog w = .ok (.tuple #[.int .u32 0, .bool false]) w := fun _ _ => by kernel_rfl
  have ta9 : ∀ v w, (Instr.typeAssert (.iface 56 v) 20 22 true).run Tryd.prog w = .ok (.tuple #[.int .u64 0, .bool false]) w := fun _ _ => by kernel_rfl
  have ta10 : ∀ v w, (Instr.typeAssert (.iface 56 v) 20 56 true).run Tryd.prog w = .ok (.tuple #[v, .bool true]) w := fun _ _ => by kernel_rfl
  have ta11 : ∀ v w, (Instr.typeAssert (.iface 56 v) 20 23 true).run Tryd.prog w = .ok (.tuple #[.float .f64 0, .bool false]) w := fun _ _ => by kernel_rfl
  have ta12 : ∀ v w, (Instr.typeAssert (.iface 56 v) 20 4 true).run Tryd.prog w = .ok (.tuple #[.bool false, .bool false]) w := fun _ _ => by kernel_rfl
  have hc : ∀ w, (convert 56 3 (.float .f32 b)).run Tryd.prog w = .ok (.int .i64 n) w := fun w => run_convert_float_int w 56 3 .f32 .i64 b n (by rw [Tryd.underlying56]; rfl) Tryd.underlying3 hn
  clear hn
  have C := Lib.hid (fun W => indirect_float32 (.float .f32 b) W)
  go_enter Tryd.func47, Tryd.ntmps47
  go_wp2_with fail
  refine (C.out _).mono ?_
  rintro e w1 ⟨rfl, rfl⟩
  go_wp2_with fail
  refine bodyPost_ret (v := .tuple #[.int .i64 (n), .bool true]) ?_ rfl ⟨rfl, rfl⟩
  first
    | (simp [results, Tryd.results47, go_sem]; done)
    | (simp [results, Tryd.results47, go_sem, wu8, wu16, wu32, wu64, wi8, wi16, wi32, wi64, wrap64, wrap32]; done)
    | (simp [results, Tryd.results47, go_sem, wu8, wu16, wu32, wu64, wi8, wi16, wi32, wi64, wrap64, wrap32]; omega)
    | (simp [results, Tryd.results47, go_sem]; omega)
theorem num_int_float64 (b : Nat)  (n : Int) (hn : floatToIntVal .f64 b .i64 = some n) (w : World) : Calls Tryd.prog 47 #[.iface 23 (.float .f64 b)] w fun e w' => e = .returned (.tuple #[.int .i64 (n), .bool true]) ∧ w' = w := by
  have ta0 : ∀ v w, (Instr.typeAssert (.iface 23 v) 20 3 true).run Tryd.prog w = .ok (.tuple #[.int .i64 0, .bool false]) w := fun _ _ => by kernel_rfl
  have ta1 : ∀ v w, (Instr.typeAssert (.iface 23 v) 20 52 true).run Tryd.prog w = .ok (.tuple #[.int .i8 0, .bool false]) w := fun _ _ => by kernel_rfl
  have ta2 : ∀ v w, (Instr.typeAssert (.iface 23 v) 20 53 true).run Tryd.prog w = .ok (.tuple #[.int .i16 0, .bool false]) w := fun _ _ => by kernel_rfl
  have ta3 : ∀ v w, (Instr.typeAssert (.iface 23 v) 20 21 true).run Tryd.prog w = .ok (.tuple #[.int .i32 0, .bool false]) w := fun _ _ => by kernel_rfl
  have ta4 : ∀ v w, (Instr.typeAssert (.iface 23 v) 20 2 true).run Tryd.prog w = .ok (.tuple #[.int .i64 0, .bool false]) w := fun _ _ => by kernel_rfl
  have ta5 : ∀ v w, (Instr.typeAssert (.iface 23 v) 20 43 true).run Tryd.prog w = .ok (.tuple #[.int .u64 0, .bool false]) w := fun _ _ => by kernel_rfl
  have ta6 : ∀ v w, (Instr.typeAssert (.iface 23 v) 20 5 true).run Tryd.prog w = .ok (.tuple #[.int .u8 0, .bool false]) w := fun _ _ => by kernel_rfl
  have ta7 : ∀ v w, (Instr.typeAssert (.iface 23 v) 20 54 true).run Tryd.prog w = .ok (.tuple #[.int .u16 0, .bool false]) w := fun _ _ => by kernel_rfl
  have ta8 : ∀ v w, (Instr.typeAssert (.iface 23 v) 20 55 true).run Tryd.prog w = .ok (.tuple #[.int .u32 0, .bool false]) w := fun _ _ => by kernel_rfl
  have ta9 : ∀ v w, (Instr.typeAssert (.iface 23 v) 20 22 true).run Tryd.prog w = .ok (.tuple #[.int .u64 0, .bool false]) w := fun _ _ => by kernel_rfl
  have ta10 : ∀ v w, (Instr.typeAssert (.iface 23 v) 20 56 true).run Tryd.prog w = .ok (.tuple #[.float .f32 0, .bool false]) w := fun _ _ => by kernel_rfl
  have ta11 : ∀ v w, (Instr.typeAssert (.iface 23 v) 20 23 true).run Tryd.prog w = .ok (.tuple #[v, .bool true]) w := fun _ _ => by kernel_rfl
  have ta12 : ∀ v w, (Instr.typeAssert (.iface 23 v) 20 4 true).run Tryd.prog w = .ok (.tuple #[.bool false, .bool false]) w := fun _ _ => by kernel_rfl
  have hc : ∀ w, (convert 23 3 (.float .f64 b)).run Tryd.prog w = .ok (.int .i64 n) w := fun w => run_convert_float_int w 23 3 .f64 .i64 b n (by rw [Tryd.underlying23]; rfl) Tryd.underlying3 hn
  clear hn
  have C := Lib.hid (fun W => indirect_float64 (.float .f64 b) W)
  go_enter Tryd.func47, Tryd.ntmps47
  go_wp2_with fail
  refine (C.out _).mono ?_
  rintro e w1 ⟨rfl, rfl⟩
  go_wp2_with fail
  refine bodyPost_ret (v := .tuple #[.int .i64 (n), .bool true]) ?_ rfl ⟨rfl, rfl⟩
  first
    | (simp [results, Tryd.results47, go_sem]; done)
    | (simp [results, Tryd.results47, go_sem, wu8, wu16, wu32, wu64, wi8, wi16, wi32, wi64, wrap64, wrap32]; done)
    | (simp [results, Tryd.results47, go_sem, wu8, wu16, wu32, wu64, wi8, wi16, wi32, wi64, wrap64, wrap32]; omega)
    | (simp [results, Tryd.results47, go_sem]; omega)
theorem num_int_string (s : ByteArray)   (w : World) : Calls Tryd.prog 47 #[.iface 9 (.string s)] w fun e w' => e = .returned (.tuple #[.int .i64 0, .bool false]) ∧ w' = w := by
  have ta0 : ∀ v w, (Instr.typeAssert (.iface 9 v) 20 3 true).run Tryd.prog w = .ok (.tuple #[.int .i64 0, .bool false]) w := fun _ _ => by kernel_rfl
  have ta1 : ∀ v w, (Instr.typeAssert (.iface 9 v) 20 52 true).run Tryd.prog w = .ok (.tuple #[.int .i8 0, .bool false]) w := fun _ _ => by kernel_rfl
  have ta2 : ∀ v w, (Instr.typeAssert (.iface 9 v) 20 53 true).run Tryd.prog w = .ok (.tuple #[.int .i16 0, .bool false]) w := fun _ _ => by kernel_rfl
  have ta3 : ∀ v w, (Instr.typeAssert (.iface 9 v) 20 21 true).run Tryd.prog w = .ok (.tuple #[.int .i32 0, .bool false]) w := fun _ _ => by kernel_rfl
  have ta4 : ∀ v w, (Instr.typeAssert (.iface 9 v) 20 2 true).run Tryd.prog w = .ok (.tuple #[.int .i64 0, .bool false]) w := fun _ _ => by kernel_rfl
  have ta5 : ∀ v w, (Instr.typeAssert (.iface 9 v) 20 43 true).run Tryd.prog w = .ok (.tuple #[.int .u64 0, .bool false]) w := fun _ _ => by kernel_rfl
  have ta6 : ∀ v w, (Instr.typeAssert (.iface 9 v) 20 5 true).run Tryd.prog w = .ok (.tuple #[.int .u8 0, .bool false]) w := fun _ _ => by kernel_rfl
  have ta7 : ∀ v w, (Instr.typeAssert (.iface 9 v) 20 54 true).run Tryd.prog w = .ok (.tuple #[.int .u16 0, .bool false]) w := fun _ _ => by kernel_rfl
  have ta8 : ∀ v w, (Instr.typeAssert (.iface 9 v) 20 55 true).run Tryd.prog w = .ok (.tuple #[.int .u32 0, .bool false]) w := fun _ _ => by kernel_rfl
  have ta9 : ∀ v w, (Instr.typeAssert (.iface 9 v) 20 22 true).run Tryd.prog w = .ok (.tuple #[.int .u64 0, .bool false]) w := fun _ _ => by kernel_rfl
  have ta10 : ∀ v w, (Instr.typeAssert (.iface 9 v) 20 56 true).run Tryd.prog w = .ok (.tuple #[.float .f32 0, .bool false]) w := fun _ _ => by kernel_rfl
  have ta11 : ∀ v w, (Instr.typeAssert (.iface 9 v) 20 23 true).run Tryd.prog w = .ok (.tuple #[.float .f64 0, .bool false]) w := fun _ _ => by kernel_rfl
  have ta12 : ∀ v w, (Instr.typeAssert (.iface 9 v) 20 4 true).run Tryd.prog w = .ok (.tuple #[.bool false, .bool false]) w := fun _ _ => by kernel_rfl
  have ta13 : ∀ v w, (Instr.typeAssert (.iface 9 v) 20 112 true).run Tryd.prog w = .ok (.tuple #[.int .i64 0, .bool false]) w := fun _ _ => by kernel_rfl
  have ta14 : ∀ v w, (Instr.typeAssert (.iface 9 v) 20 113 true).run Tryd.prog w = .ok (.tuple #[.int .i64 0, .bool false]) w := fun _ _ => by kernel_rfl
  have C := Lib.hid (fun W => indirect_string (.string s) W)
  go_enter Tryd.func47, Tryd.ntmps47
  go_wp2_with fail
  refine (C.out _).mono ?_
  rintro e w1 ⟨rfl, rfl⟩
  go_wp2_with fail
  refine bodyPost_ret (v := .tuple #[.int .i64 0, .bool false]) ?_ rfl ⟨rfl, rfl⟩
  first
    | (simp [results, Tryd.results47, go_sem]; done)
    | (simp [results, Tryd.results47, go_sem, wu8, wu16, wu32, wu64, wi8, wi16, wi32, wi64, wrap64, wrap32]; done)
    | (simp [results, Tryd.results47, go_sem, wu8, wu16, wu32, wu64, wi8, wi16, wi32, wi64, wrap64, wrap32]; omega)
    | (simp [results, Tryd.results47, go_sem]; omega)
end Go.Proofs.YtfeijmoncadkiaaDoor
