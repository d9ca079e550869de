/- How many can be defined; the empty set. -/
import Derived.Test.YtmmkebdaijmpiaaGreatNImpl
namespace Go.Proofs.YtmmkebdaijmpiaaGreat
open Go.RowKit
set_option linter.unusedVariables false
set_option linter.unusedSimpArgs false

/-- All up to n can be defined, and no further one. -/
def Stops (l : List DefD) (n : Nat) : Prop := n ≤ l.length ∧ AllOk (l.take n) ∧ ∀ h : n < l.length, ¬ okP l[n] (l.take n)
theorem Stops.unique {l : List DefD} {n m : Nat} (h : Stops l n) (k : Stops l m) : n = m := by
  have key : ∀ {a b : Nat}, Stops l a → Stops l b → ¬ a < b := fun {a b} h k hlt => by
    have hb := k.1
    have := k.2.1 a (by rw [List.length_take]; omega)
    simp only [List.getElem_take, List.take_take, Nat.min_eq_left (Nat.le_of_lt hlt)] at this
    exact h.2.2 (by omega) this
  have h1 := key h k
  have h2 := key k h
  omega

theorem allOk_take {l : List DefD} (h : AllOk l) (k : Nat) : AllOk (l.take k) := by
  intro i hi
  have hi' : i < l.length ∧ i < k := by rw [List.length_take] at hi; omega
  have := h i hi'.1
  simp only [List.getElem_take, List.take_take, Nat.min_eq_left (Nat.le_of_lt hi'.2)]
  exact this
theorem allOk_at {l : List DefD} (h : AllOk l) (k : Nat) (hk : k < l.length) : okP l[k] (l.take k) := h k hk

/-- The set, empty. -/
theorem many_nil (w0 w : World) (hb : Below w0.heap.size w0 w) : ManyE w0 w.heap.size [] (w.alloc (.cells (fsN none (.slice none 0 0) none) 75)) :=
  ⟨none, none, .slice none 0 0, hb.alloc hb.size _, heap_at _ _ _ rfl, .inl ⟨rfl, rfl⟩, .inl ⟨rfl, rfl⟩, World.ownsRow_nil _ _ _ _, fun x hx => (by simp [flE] at hx), hb.size, fun b e => (by cases e), fun b e => (by cases e)⟩

end Go.Proofs.YtmmkebdaijmpiaaGreat
