/- impl.guarded: a function value that returns makes it answer false, one that panics makes it answer true; what the function did to the world is kept. -/
import Derived.Test.YtcpjdgbnfjdakaaProg
import Derived.WalkKit
import Derived.KernelRfl
import Derived.RowKit3
import Derived.Deep.QuietTactic
import Derived.BigQuiet
import Derived.Deep.Draws
import Derived.Lib.Hide
import Derived.Deep.DeepFit
import Derived.WalkSpells
import Derived.WalkLawsBesides
namespace Go.Proofs.Ytcpjdgbnfjdakaa
open Go.RowKit

/-- The world but for draws. -/
def Drawn (w w' : World) : Prop := ∃ n, w' = w.drewN n
theorem Drawn.refl (w : World) : Drawn w w := ⟨0, rfl⟩
theorem Drawn.n {w w' : World} (h : Drawn w w') {n : Nat} : Drawn w (w'.drewN n) := by
  obtain ⟨m, rfl⟩ := h
  exact ⟨m + n, World.drewN_drewN _ _ _⟩
theorem Drawn.one {w w' : World} (h : Drawn w w') : Drawn w w'.drew := h.n (n := 1)
theorem Drawn.trans {a b c : World} (h : Drawn a b) (k : Drawn b c) : Drawn a c := by
  obtain ⟨m, rfl⟩ := k
  exact h.n
theorem Drawn.heap {w w' : World} (h : Drawn w w') : w'.heap = w.heap := by obtain ⟨n, rfl⟩ := h; rfl

theorem setCell_same {w : World} {b : Nat} {v : Value} {t : TypeId} (h : w.heap[b]? = some (.cells #[v] t (0, 0))) : w.setCell ⟨b, 0, none⟩ v = w := by
  have hb : (w.setCell ⟨b, 0, none⟩ v).heap = w.heap := by
    simp only [World.setCell]
    apply Array.ext
    · simp
    · intro i h1 h2
      rw [Array.getElem_modify]
      split
      · rename_i e
        subst e
        have h' : w.heap[b] = .cells #[v] t (0, 0) := by simpa [Array.getElem?_eq_getElem h2] using h
        rw [h']
        simp
      · rfl
  have : w.setCell ⟨b, 0, none⟩ v = { w with heap := (w.setCell ⟨b, 0, none⟩ v).heap } := rfl
  rw [this, hb]

/-! What stands in a block behind an allocation, a store, a draw. -/
theorem heap_at (w : World) (o : Obj) (n : Nat) (h : n = w.heap.size) : (w.alloc o).heap[n]? = some o := by
  subst h
  show (w.heap.push o)[w.heap.size]? = _
  simp
theorem heap_past (w : World) (o : Obj) (n : Nat) (h : n < w.heap.size) : (w.alloc o).heap[n]? = w.heap[n]? := Below.heap_alloc w o n h
theorem heap_ne (w : World) (a : Addr) (v : Value) (n : Nat) (h : n ≠ a.block) : (w.setCell a v).heap[n]? = w.heap[n]? := Below.heap_setCell w a v n h
theorem heap_set {w : World} {b : Nat} {c : Array Value} {t : TypeId} {z : Nat × Nat} (h : w.heap[b]? = some (.cells c t z)) (i : Nat) (v : Value) : (w.setCell ⟨b, i, none⟩ v).heap[b]? = some (.cells (c.setIfInBounds i v) t z) := by
  have hlt := lt_of_block h
  have h' : w.heap[b] = .cells c t z := by simpa [Array.getElem?_eq_getElem hlt] using h
  show (w.heap.modify b _)[b]? = _
  rw [Array.getElem?_eq_getElem (by simpa using hlt), Array.getElem_modify_self, h']
  rfl
theorem size_setCell (w : World) (a : Addr) (v : Value) : (w.setCell a v).heap.size = w.heap.size := by simp [World.setCell]

theorem heap_past' {w : World} {o : Obj} {n : Nat} {r : Option Obj} (h : n < w.heap.size) (k : w.heap[n]? = r) : (w.alloc o).heap[n]? = r := (heap_past w o n h).trans k
theorem heap_ne' {w : World} {a : Addr} {v : Value} {n : Nat} {r : Option Obj} (h : n ≠ a.block) (k : w.heap[n]? = r) : (w.setCell a v).heap[n]? = r := (heap_ne w a v n h).trans k
theorem heap_drew' {w : World} {m n : Nat} {r : Option Obj} (k : w.heap[n]? = r) : (w.drewN m).heap[n]? = r := k
theorem Below.drewN' {B : Nat} {a w : World} (h : Below B a w) {n : Nat} : Below B a (w.drewN n) := ⟨h.os, h.tape, h.output, h.size, h.block⟩

theorem catch_idle (p : Addr) (w : World) :
    CallsD Try.prog 76 #[.pointer (some p)] .returning w fun e u' w' => e = .returned (.tuple #[]) ∧ u' = .returning ∧ w' = w := by
  refine callsD_of_wpS Try.func76 rfl fun c₀ cs hu => ?_
  apply wpS_seq
  apply wpS_region
  simp [wpOpsS, go_sem, recoverD, hu, Try.ntmps76, Exit.thenS]
  refine wpS_cond (t := false) (by simp [Act.eval, Array.replicate]) ?_
  simp only [Bool.false_eq_true, if_false]
  refine wpS_of_wp (wp_skip ?_)
  cases c₀
  simp_all [bodyPostS, results, Try.results76]

theorem guarded_ok (cf : FuncId) (cap : Array Value) (w : World) (R : World → Prop) (B : Nat) (hB : w.heap.size = B)
    (hcf : ∀ w, (callFunc cf cap).run Try.prog w = .ok (.enter cf cap) w)
    (h : Calls Try.prog cf cap (w.alloc (.cells #[.bool false] 4)) fun e w' => e = .returned (.tuple #[]) ∧ R w')
    (hR : ∀ w', R w' → w'.heap[B]? = some (.cells #[.bool false] 4 (0, 0))) :
    Calls Try.prog 49 #[.func (.func cf) #[] cap] w fun e w' => e = .returned (.bool false) ∧ R w' := by
  subst hB
  have hmf : ∀ (fn : Fn) (first cap : Array Value) (w : World), (Instr.makeFunc fn first cap).run Try.prog w = .ok (.func fn first cap) w := fun _ _ _ _ => rfl
  go_enter_defers Try.func49, Try.ntmps49
  go_wp2_with fail
  refine h.mono ?_
  rintro e w1 ⟨rfl, hr⟩
  have hcell := hR _ hr
  have h1 := cell_of_one hcell
  have h2 := free_of_one hcell
  have h3 := setCell_same hcell
  go_wp2_with fail
  refine leaves_cons (f := 76) (args := #[.pointer (some ⟨w.heap.size, 0, none⟩)]) (by simp) (by simp [go_sem]) ?_
  refine (catch_idle ⟨w.heap.size, 0, none⟩ _).mono ?_
  rintro e u' w'' ⟨rfl, rfl, rfl⟩
  simp [Leaves, settle, results, Try.results49, go_sem, h1, hr]
end Go.Proofs.Ytcpjdgbnfjdakaa
