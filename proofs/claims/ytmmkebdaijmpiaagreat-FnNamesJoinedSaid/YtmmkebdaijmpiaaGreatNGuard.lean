/- impl.guarded over a function value that returns, and over one that panics. -/
import Derived.Test.YtmmkebdaijmpiaaGreatH
import Derived.Defers
import Derived.Recover
namespace Go.Proofs.YtmmkebdaijmpiaaGreat
open Go.RowKit
set_option linter.unusedVariables false
set_option linter.unusedSimpArgs false

theorem catch_idle (p : Addr) (w : World) :
    CallsD Tryz.prog 39 #[.pointer (some p)] .returning w fun e u' w' => e = .returned (.tuple #[]) ∧ u' = .returning ∧ w' = w := by
  refine callsD_of_wpS Tryz.func39 rfl fun c₀ cs hu => ?_
  apply wpS_seq
  apply wpS_region
  simp [wpOpsS, go_sem, recoverD, hu, Tryz.ntmps39, Exit.thenS]
  refine wpS_cond (t := false) (by simp [Act.eval, Array.replicate]) ?_
  simp only [Bool.false_eq_true, if_false]
  refine wpS_of_wp (wp_skip ?_)
  cases c₀
  simp_all [bodyPostS, results, Tryz.results39]
theorem catch_panicking (p : Addr) (u : TypeId) (pv : Value) (older : List PanicEntry) (w : World) {x : Bool} (hc : w.cell? p = some (.bool x)) (hz : w.frozen? p = false) :
    CallsD Tryz.prog 39 #[.pointer (some p)] (.panicking ({ v := .iface u pv, recovered := false } :: older)) w fun e u' w' =>
      e = .returned (.tuple #[]) ∧ u' = .panicking ({ v := .iface u pv, recovered := true } :: older) ∧ w' = w.setCell p (.bool true) := by
  have hneq : ∀ w, Sem.run Tryz.prog (binOp BinOp.neq 20 (.iface u pv) Value.nilIface) w = .ok (.bool true) w := fun _ => by kernel_rfl
  refine callsD_of_wpS Tryz.func39 rfl fun c₀ cs hu => ?_
  apply wpS_seq
  apply wpS_region
  simp [wpOpsS, go_sem, recoverD, hu, Tryz.ntmps39, Exit.thenS, hneq]
  refine wpS_cond (t := true) (by simp [Act.eval, Array.replicate]) ?_
  simp only [if_true]
  apply wpS_region
  simp [wpOpsS, go_sem, hc, hz, bodyPostS, results, Tryz.results39]

theorem guarded_ok (cf : FuncId) (cap : Array Value) (w : World) (R : World → Prop) (B : Nat) (hB : w.heap.size = B)
    (hcf : ∀ w, (callFunc cf cap).run Tryz.prog w = .ok (.enter cf cap) w)
    (h : Calls Tryz.prog cf cap (w.alloc (.cells #[.bool false] 4)) fun e w' => e = .returned (.tuple #[]) ∧ R w')
    (hR : ∀ w', R w' → w'.heap[B]? = some (.cells #[.bool false] 4 (0, 0))) :
    Calls Tryz.prog 24 #[.func (.func cf) #[] cap] w fun e w' => e = .returned (.bool false) ∧ R w' := by
  subst hB
  have hmf : ∀ (fn : Fn) (first cap : Array Value) (w : World), (Instr.makeFunc fn first cap).run Tryz.prog w = .ok (.func fn first cap) w := fun _ _ _ _ => rfl
  go_enter_defers Tryz.func24, Tryz.ntmps24
  go_wp2_with fail
  refine h.mono ?_
  rintro e w1 ⟨rfl, hr⟩
  have hcell := hR _ hr
  have h1 := cell_of_one hcell
  have h2 := free_of_one hcell
  have h3 := setCell_same hcell
  go_wp2_with fail
  refine leaves_cons (f := 39) (args := #[.pointer (some ⟨w.heap.size, 0, none⟩)]) (by simp) (by simp [go_sem]) ?_
  refine (catch_idle ⟨w.heap.size, 0, none⟩ _).mono ?_
  rintro e u' w'' ⟨rfl, rfl, rfl⟩
  simp [Leaves, settle, results, Tryz.results24, go_sem, h1, hr]
theorem guarded_bad (cf : FuncId) (cap : Array Value) (w : World) (R : World → Prop) (B : Nat) (hB : w.heap.size = B)
    (hcf : ∀ w, (callFunc cf cap).run Tryz.prog w = .ok (.enter cf cap) w)
    (h : Calls Tryz.prog cf cap (w.alloc (.cells #[.bool false] 4)) fun e w' => (∃ u pv, e = .panicked [{ v := .iface u pv, recovered := false }]) ∧ R w')
    (hR : ∀ w', R w' → w'.heap[B]? = some (.cells #[.bool false] 4 (0, 0))) :
    Calls Tryz.prog 24 #[.func (.func cf) #[] cap] w fun e w' => e = .returned (.bool true) ∧ ∃ w1, R w1 ∧ w' = w1.setCell ⟨B, 0, none⟩ (.bool true) := by
  subst hB
  have hmf : ∀ (fn : Fn) (first cap : Array Value) (w : World), (Instr.makeFunc fn first cap).run Tryz.prog w = .ok (.func fn first cap) w := fun _ _ _ _ => rfl
  go_enter_defers Tryz.func24, Tryz.ntmps24
  go_wp2_with fail
  refine h.mono ?_
  rintro e w1 ⟨⟨u, pv, rfl⟩, hr⟩
  have hcell := hR _ hr
  have h1 := cell_of_one hcell
  have h2 := free_of_one hcell
  have h4 : (w1.setCell ⟨w.heap.size, 0, none⟩ (.bool true)).cell? ⟨w.heap.size, 0, none⟩ = some (.bool true) := cell_of_one (heap_set hcell 0 _)
  go_wp2_with fail
  refine leaves_cons (f := 39) (args := #[.pointer (some ⟨w.heap.size, 0, none⟩)]) (by simp) (by simp [go_sem]) ?_
  refine (catch_panicking ⟨w.heap.size, 0, none⟩ u pv [] _ h1 h2).mono ?_
  rintro e u' w'' ⟨rfl, rfl, rfl⟩
  simp [Leaves, settle, results, Tryz.results24, go_sem, h4]
  exact ⟨_, hr, rfl⟩

end Go.Proofs.YtmmkebdaijmpiaaGreat
