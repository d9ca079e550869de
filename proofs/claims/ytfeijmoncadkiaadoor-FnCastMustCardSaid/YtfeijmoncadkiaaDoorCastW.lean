/- A plain value out of any (castWithin, castPlain): its kind, its text cut, its float bounded. -/
import Derived.Test.YtfeijmoncadkiaaDoorH
import Derived.Test.YtfeijmoncadkiaaDoorCastK
import Derived.WalkKit
import Derived.BigRegion
import Derived.BigQuiet
import Derived.Deep.QuietTactic
import Derived.Deep.Cut
import Derived.Laws.FloatArith
import Derived.Laws.Cover2
import Derived.Laws.Rows
namespace Go.Proofs.YtfeijmoncadkiaaDoor
open Go.RowKit
set_option linter.unusedVariables false
set_option linter.unusedSimpArgs false

set_option maxRecDepth 100000 in
set_option maxHeartbeats 2000000 in
theorem within_any (k i u : Int) (b : Nat) (s : ByteArray) (vl vm : Value) (hk : -9223372036854775808 ≤ k ∧ k < 9223372036854775808) (hs : s.size ≤ 2147483647) (w : World) :
    Calls Tryd.prog 13 #[.agg #[.int .i64 k, .int .i64 i, .int .u64 u, .float .f64 b, .string s, vl, vm], .float .f64 4881901996069617664] w fun e w' =>
      (∃ (k' : Int) (b' : Nat), 0 ≤ k' ∧ k' ≤ 14 ∧ (b' = 0 ∨ (FloatKind.f64.format.order b' 14105274032924393472 = some .gt ∧ FloatKind.f64.format.order b' 4881901996069617664 = some .lt)) ∧
        e = .returned (.agg #[.int .i64 k', .int .i64 i, .int .u64 u, .float .f64 b', .string (s.extract 0 (min s.size 400)), .slice none 0 0, .slice none 0 0])) ∧ Below w.heap.size w w' := by
  obtain ⟨n, hn⟩ : ∃ n : Nat, n = min s.size 400 := ⟨_, rfl⟩
  have e4 : (if (400 : Int) < (s.size : Int) then (400 : Int) else (s.size : Int)) = (n : Int) := by split <;> omega
  have l4 : (n : Int) ≤ (s.size : Int) := by omega
  have l0 : (0 : Int) ≤ (n : Int) := by omega
  rw [← hn]
  clear hn hs
  have hsf : ∀ W bb x, Sem.run Tryd.prog (store ⟨bb, 3, none⟩ (.float .f64 x)) W = stored Tryd.prog W ⟨bb, 3, none⟩ (.float .f64 x) .plain := fun W _ _ => run_store _ W _ _ _ rfl
  have hneg : ∀ W, Sem.run Tryd.prog (Op.unary .neg (.float .f64 4881901996069617664)) W = .ok (.float .f64 14105274032924393472) W := fun W => by kernel_rfl
  have hq : ∃ q, wrap64 ((IntKind.u64.wrap k).tmod 15) = q ∧ 0 ≤ q ∧ q ≤ 14 := by
    refine ⟨_, rfl, ?_⟩
    rw [wu64]
    have h1 : 0 ≤ k % 18446744073709551616 := Int.emod_nonneg _ (by omega)
    rw [Int.tmod_eq_emod_of_nonneg h1]
    have h2 : 0 ≤ (k % 18446744073709551616) % 15 := Int.emod_nonneg _ (by omega)
    have h3 : (k % 18446744073709551616) % 15 < 15 := Int.emod_lt_of_pos _ (by omega)
    generalize (k % 18446744073709551616) % 15 = z at *
    simp only [wrap64]
    omega
  clear hk
  have HB : Hid (∀ a b : Obj, Below w.heap.size w ((w.alloc a).alloc b).drew) := Lib.hid (fun a b => Below.drewN' (n := 1) (((Below.refl _ _).alloc (Nat.le_refl _) _).alloc (by show w.heap.size ≤ (w.heap.push a).size; simp) _))
  go_enter Tryd.func13, Tryd.ntmps13
  go_wp2_with fail
  go_region
  obtain ⟨q, hq1, hq2⟩ := hq
  simp only [hq1]
  have HQ := Lib.hid hq2
  clear hq1 hq2 e4 l4 l0
  cases h1 : FloatKind.f64.format.order b 14105274032924393472 == some .gt with
  | false =>
    go_wp2_with fail
    exact bodyPost_ret (v := .agg #[.int .i64 q, .int .i64 i, .int .u64 u, .float .f64 0, .string (s.extract 0 n), .slice none 0 0, .slice none 0 0]) (results_cell_row rfl _ _ (w.heap.size + 1) _ _ (0, 0) _ rfl (heap_alloc2_new w _ _) Tryd.underlying27 rfl (by kernel_rfl)) rfl ⟨⟨q, 0, HQ.out.1, HQ.out.2, .inl rfl, rfl⟩, HB.out _ _⟩
  | true =>
    cases h2 : FloatKind.f64.format.order b 4881901996069617664 == some .lt with
    | false =>
      go_wp2_with fail
      exact bodyPost_ret (v := .agg #[.int .i64 q, .int .i64 i, .int .u64 u, .float .f64 0, .string (s.extract 0 n), .slice none 0 0, .slice none 0 0]) (results_cell_row rfl _ _ (w.heap.size + 1) _ _ (0, 0) _ rfl (heap_alloc2_new w _ _) Tryd.underlying27 rfl (by kernel_rfl)) rfl ⟨⟨q, 0, HQ.out.1, HQ.out.2, .inl rfl, rfl⟩, HB.out _ _⟩
    | true =>
      go_wp2_with fail
      exact bodyPost_ret (v := .agg #[.int .i64 q, .int .i64 i, .int .u64 u, .float .f64 b, .string (s.extract 0 n), .slice none 0 0, .slice none 0 0]) (results_cell_row rfl _ _ (w.heap.size + 1) _ _ (0, 0) _ rfl (heap_alloc2_new w _ _) Tryd.underlying27 rfl (by kernel_rfl)) rfl ⟨⟨q, b, HQ.out.1, HQ.out.2, .inr ⟨by simpa using h1, by simpa using h2⟩, rfl⟩, HB.out _ _⟩
end Go.Proofs.YtfeijmoncadkiaaDoor
