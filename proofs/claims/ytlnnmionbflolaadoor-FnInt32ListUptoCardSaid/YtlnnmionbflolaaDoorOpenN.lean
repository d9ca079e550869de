/- Lists of numbers as arguments, as they are read. -/
import Derived.Test.YtlnnmionbflolaaDoorOpenU
namespace Go.Proofs.YtlnnmionbflolaaDoor
open Go.RowKit Go.ChangeShapes Go.WideShapes Go.Deep
set_option linter.unusedVariables false
set_option linter.unusedSimpArgs false

variable {H : Type} {enc : TypeId × Value → H} {W : World} {sp : Nat → Bool} {held : Bool}

set_option maxRecDepth 1000000 in
theorem nums_of_trod {t e : TypeId} {k : IntKind} (ht : Tryd.prog.underlying t = some (.slice e)) (he : Tryd.prog.underlying e = some (.int k)) (hc : Program.cellsOf Tryd.prog e = 1) {fuel : Nat} {cs : List Value} {x : DataW H × List MemPlace} (h : DataW.trod enc Tryd.prog W 0 sp held fuel t cs = some x) :
    ∃ (v : Value) (l : List Int), cs = [v] ∧ Vals W v (l.map (.int k)) ∧ l.length ≤ maxLen ∧ (∀ n ∈ l, (Lit.int k n).wf = true) ∧ l.length ≤ Rows.uptoBulk x.1 := by
  rcases open_slice1 ht hc h with ⟨rfl, rfl⟩ | ⟨a, len, cap, m, n, V, D, Pl, rfl, hb, hl, hm, hmm, rfl, hx⟩
  · exact ⟨_, ([] : List Int), rfl, ⟨none, 0, rfl, .inl rfl⟩, Nat.zero_le _, by simp, Nat.zero_le _⟩
  · have hlm : len ≤ m := by rw [hmm]; split <;> omega
    have hbk := bulk_slice (H := H) ((List.range len).map D) ((List.range (m - len)).map fun j => D (len + j))
    have each : ∀ i, i < len → ∃ q : Int, W.cell? (a.add i) = some (.int k q) ∧ (Lit.int k q).wf = true := fun i hi => by
      obtain ⟨h1, h2⟩ := hx i (by omega)
      obtain ⟨q, h3, -, h4⟩ := DataW.trod_int he h2
      have h5 : V i = .int k q := by simpa using h3
      rw [h5] at h1
      exact ⟨q, h1, h4⟩
    obtain ⟨Q, hQ⟩ := choose_lt each
    refine ⟨_, (List.range len).map Q, rfl, ⟨some a, cap, by simp, ?_⟩, by simp; omega, fun s hs => ?_, by simpa using hbk.1⟩
    · by_cases h0 : 0 < len
      · right
        obtain ⟨b, off, cs, ty, fz, rfl, hbk, hc⟩ := slice_block (V := fun i => .int k (Q i)) h0 (fun i hi => (hQ i hi).1)
        refine ⟨b, off, cs, ty, fz, rfl, hbk, fun i hi => ?_⟩
        simp only [List.length_map, List.length_range] at hi
        rw [hc i hi]; simp
      · left
        have : len = 0 := by omega
        subst this; rfl
    · obtain ⟨i, hi, rfl⟩ := List.mem_map.1 hs
      exact (hQ i (List.mem_range.1 hi)).2

set_option maxRecDepth 1000000 in
theorem open_nums {t e : TypeId} {k : IntKind} (ht : Tryd.prog.underlying t = some (.slice e)) (he : Tryd.prog.underlying e = some (.int k)) (hc : Program.cellsOf Tryd.prog e = 1) {b0 : Nat} {v : Value} {d : DataW H} {p : List MemPlace} (hv : Value.okWide Tryd.prog W .any b0 t v) (h : DataW.Trod enc Tryd.prog W 0 sp held t v d p) :
    ∃ l : List Int, Vals W v (l.map (.int k)) ∧ l.length ≤ maxLen ∧ (∀ n ∈ l, (Lit.int k n).wf = true) ∧ l.length ≤ Rows.uptoBulk d := by
  obtain ⟨a, n, c, rfl⟩ := okWide_slice ht hv
  obtain ⟨fuel, hf⟩ := h
  obtain ⟨v, l, e, h1, h2, h3, h4⟩ := nums_of_trod ht he hc hf
  have : v = .slice a n c := by simpa [Value.cells] using e.symm
  subst this
  exact ⟨l, h1, h2, h3, h4⟩
end Go.Proofs.YtlnnmionbflolaaDoor
