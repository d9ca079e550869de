/- Lists in memory: what was given, numbers, texts; read off an owned row. -/
import Derived.Test.YtcpjdgbnfjdakaaParse
namespace Go.Proofs.Ytcpjdgbnfjdakaa
open Go.RowKit
set_option linter.unusedVariables false
set_option linter.unusedSimpArgs false

/-- A slice of what was given. -/
def Givens (w : World) (v : Value) (g : List (Nat × ByteArray)) : Prop :=
  ∃ a cap, v = .slice a g.length cap ∧ g.length ≤ cap ∧ (g = [] ∨ ∃ b off cs ty fz, a = some ⟨b, off, none⟩ ∧ w.heap[b]? = some (.cells cs ty fz) ∧
    ∀ i (h : i < g.length), cs[off + i * 2]? = some (.int .i64 (g[i].1 : Nat)) ∧ cs[off + i * 2 + 1]? = some (.string g[i].2))
/-- A slice of numbers. -/
def Ints (w : World) (v : Value) (l : List Nat) : Prop :=
  ∃ a cap, v = .slice a l.length cap ∧ (l = [] ∨ ∃ b off cs ty fz, a = some ⟨b, off, none⟩ ∧ w.heap[b]? = some (.cells cs ty fz) ∧
    ∀ i (h : i < l.length), cs[off + i]? = some (.int .i64 (l[i] : Nat)))

theorem Givens.later {w w' : World} {v : Value} {g : List (Nat × ByteArray)} (h : Givens w v g) (hk : ∀ b, b < w.heap.size → w'.heap[b]? = w.heap[b]?) : Givens w' v g := by
  obtain ⟨a, cap, e, hc, h⟩ := h
  refine ⟨a, cap, e, hc, ?_⟩
  rcases h with h | ⟨b, off, cs, ty, fz, e, hb, hc⟩
  · exact .inl h
  · exact .inr ⟨b, off, cs, ty, fz, e, (hk b (lt_of_block hb)).trans hb, hc⟩
theorem Ints.later {w w' : World} {v : Value} {g : List Nat} (h : Ints w v g) (hk : ∀ b, b < w.heap.size → w'.heap[b]? = w.heap[b]?) : Ints w' v g := by
  obtain ⟨a, cap, e, h⟩ := h
  refine ⟨a, cap, e, ?_⟩
  rcases h with h | ⟨b, off, cs, ty, fz, e, hb, hc⟩
  · exact .inl h
  · exact .inr ⟨b, off, cs, ty, fz, e, (hk b (lt_of_block hb)).trans hb, hc⟩

theorem flat_get : ∀ (g : List (Nat × ByteArray)) (i : Nat) (h : i < g.length), (flat g)[i * 2]? = some (.int .i64 (g[i].1 : Nat)) ∧ (flat g)[i * 2 + 1]? = some (.string g[i].2)
  | x :: g, 0, h => ⟨rfl, rfl⟩
  | x :: g, i + 1, h => by
    have := flat_get g i (by simpa using h)
    have e : flat (x :: g) = .int .i64 x.1 :: .string x.2 :: flat g := rfl
    rw [e, show (i + 1) * 2 = i * 2 + 2 by omega]
    exact this

theorem Givens.ofRow {w : World} {base : Nat} {e : TypeId} {v : Value} {g : List (Nat × ByteArray)} (h : w.ownsRow base e 2 v g.length (flat g)) : Givens w v g := by
  rcases h.2 with ⟨rfl, hn⟩ | ⟨b, cap, cur, rfl, hb, hh, hnc, hcm, hcs, ht⟩
  · have : g = [] := List.length_eq_zero_iff.1 hn
    subst this
    exact ⟨none, 0, rfl, Nat.le_refl _, .inl rfl⟩
  · refine ⟨_, cap, rfl, by omega, .inr ⟨b, 0, cur, e, (0, 0), rfl, hh, fun i hi => ?_⟩⟩
    obtain ⟨q1, q2⟩ := flat_get g i hi
    rw [← ht, List.getElem?_take, if_pos (by omega), Array.getElem?_toList] at q1 q2
    exact ⟨by rw [Nat.zero_add]; exact q1, by rw [Nat.zero_add]; exact q2⟩
theorem Ints.ofRow {w : World} {base : Nat} {e : TypeId} {v : Value} {l : List Nat} (h : w.ownsRow base e 1 v l.length (l.map fun n : Nat => .int .i64 (n : Int))) : Ints w v l := by
  rcases h.2 with ⟨rfl, hn⟩ | ⟨b, cap, cur, rfl, hb, hh, hnc, hcm, hcs, ht⟩
  · have : l = [] := List.length_eq_zero_iff.1 hn
    subst this
    exact ⟨none, 0, rfl, .inl rfl⟩
  · refine ⟨_, cap, rfl, .inr ⟨b, 0, cur, e, (0, 0), rfl, hh, fun i hi => ?_⟩⟩
    have q1 : (l.map fun n : Nat => Value.int .i64 (n : Int))[i]? = some (.int .i64 (l[i] : Nat)) := by simp [hi]
    rw [← ht, List.getElem?_take, if_pos (by omega), Array.getElem?_toList] at q1
    rw [Nat.zero_add]; exact q1
theorem Texts.ofRow {w : World} {base : Nat} {e : TypeId} {v : Value} {l : List ByteArray} (h : w.ownsRow base e 1 v l.length (l.map .string)) : Texts w v l := by
  rcases h.2 with ⟨rfl, hn⟩ | ⟨b, cap, cur, rfl, hb, hh, hnc, hcm, hcs, ht⟩
  · have : l = [] := List.length_eq_zero_iff.1 hn
    subst this
    exact Texts.nil w
  · refine ⟨⟨_, cap, rfl, .inr ⟨b, 0, cur, e, (0, 0), rfl, hh, fun i hi => ?_⟩⟩, _, _, _, rfl, by omega⟩
    have q1 : (l.map Value.string)[i]? = some (.string l[i]) := by simp [hi]
    rw [← ht, List.getElem?_take, if_pos (by omega), Array.getElem?_toList] at q1
    rw [Nat.zero_add]; exact q1

theorem Givens.len {w : World} {v : Value} {g : List (Nat × ByteArray)} (h : Givens w v g) : ∃ a cap, v = .slice a g.length cap ∧ g.length ≤ cap := by
  obtain ⟨a, cap, e, hc, _⟩ := h
  exact ⟨a, cap, e, hc⟩
theorem Ints.len {w : World} {v : Value} {g : List Nat} (h : Ints w v g) : ∃ a cap, v = .slice a g.length cap := by
  obtain ⟨a, cap, e, _⟩ := h
  exact ⟨a, cap, e⟩
theorem Givens.cell {w : World} {a : Option Addr} {n cap : Nat} {g : List (Nat × ByteArray)} (h : Givens w (.slice a n cap) g) {i : Nat} (hi : i < g.length) : ∃ b off, a = some ⟨b, off, none⟩ ∧ w.cell? ⟨b, off + i * 2, none⟩ = some (.int .i64 (g[i].1 : Nat)) ∧ w.cell? ⟨b, off + i * 2 + 1, none⟩ = some (.string g[i].2) := by
  obtain ⟨a', cap', e, hc, h⟩ := h
  cases e
  rcases h with h | ⟨b, off, cs, ty, fz, e, hb, hc⟩
  · subst h; simp at hi
  · obtain ⟨q1, q2⟩ := hc i hi
    exact ⟨b, off, e, by simp [World.cell?, hb, q1], by simp [World.cell?, hb, q2]⟩
theorem Ints.cell {w : World} {a : Option Addr} {n cap : Nat} {g : List Nat} (h : Ints w (.slice a n cap) g) {i : Nat} (hi : i < g.length) : ∃ b off, a = some ⟨b, off, none⟩ ∧ w.cell? ⟨b, off + i, none⟩ = some (.int .i64 (g[i] : Nat)) := by
  obtain ⟨a', cap', e, h⟩ := h
  cases e
  rcases h with h | ⟨b, off, cs, ty, fz, e, hb, hc⟩
  · subst h; simp at hi
  · exact ⟨b, off, e, by simp [World.cell?, hb, hc i hi]⟩
end Go.Proofs.Ytcpjdgbnfjdakaa
