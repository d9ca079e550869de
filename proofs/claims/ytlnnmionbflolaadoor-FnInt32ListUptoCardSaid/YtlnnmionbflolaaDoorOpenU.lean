/- Steps as arguments, where the bulk of what is read is bounded: no text and no list is longer. -/
import Derived.Test.YtlnnmionbflolaaDoorOpenP
import Derived.Test.YtlnnmionbflolaaDoorRows
namespace Go.Proofs.YtlnnmionbflolaaDoor
open Go.RowKit Go.ChangeShapes Go.WideShapes Go.Deep
set_option linter.unusedVariables false
set_option linter.unusedSimpArgs false

theorem bulk_one {H : Type} (d : DataW H) : 1 ≤ Rows.uptoBulk d := by
  cases d with
  | lit l => cases l <;> simp [Rows.uptoBulk]
  | nil => simp [Rows.uptoBulk]
  | ptr d => simp [Rows.uptoBulk]
  | slice elems spare => simp [Rows.uptoBulk]
  | agg parts => simp [Rows.uptoBulk]
  | iface t d => simp [Rows.uptoBulk]
  | map entries => simp [Rows.uptoBulk]
  | held h => simp [Rows.uptoBulk]
theorem bulk_part {H : Type} {d : DataW H} {l : List (DataW H)} (h : d ∈ l) : Rows.uptoBulk d ≤ Rows.uptoBulkAll l := by
  induction l with
  | nil => cases h
  | cons x r ih =>
    simp only [Rows.uptoBulkAll]
    cases List.mem_cons.1 h with
    | inl e => subst e; omega
    | inr e => have := ih e; omega
theorem bulk_len {H : Type} (l : List (DataW H)) : l.length ≤ Rows.uptoBulkAll l := by
  induction l with
  | nil => simp
  | cons x r ih => have := bulk_one x; simp only [Rows.uptoBulkAll, List.length_cons]; omega
theorem bulk_slice {H : Type} (elems spare : List (DataW H)) : elems.length ≤ Rows.uptoBulk (.slice elems spare) ∧ ∀ d ∈ elems, Rows.uptoBulk d ≤ Rows.uptoBulk (.slice elems spare) := by
  have h1 := bulk_len elems
  refine ⟨by simp only [Rows.uptoBulk]; omega, fun d hd => ?_⟩
  have := bulk_part hd
  simp only [Rows.uptoBulk]
  omega

variable {H : Type} {enc : TypeId × Value → H} {W : World} {sp : Nat → Bool} {held : Bool}

set_option maxRecDepth 1000000 in
theorem strs_of_trodU {fuel : Nat} {cs : List Value} {x : DataW H × List MemPlace} (h : DataW.trod enc Tryd.prog W 0 sp held fuel 51 cs = some x) :
    ∃ v l, cs = [v] ∧ Strs W v l ∧ l.length ≤ maxLen ∧ (∀ s ∈ l, s.size ≤ maxLen) ∧ l.length ≤ Rows.uptoBulk x.1 ∧ ∀ s ∈ l, s.size ≤ Rows.uptoBulk x.1 := by
  rcases open_strs Tryd.underlying51 Tryd.underlying9 (by kernel_rfl) h with ⟨rfl, rfl⟩ | ⟨a, len, cap, m, Sx, rfl, hb, hl, hm, hmm, rfl, hcell⟩
  · exact ⟨_, [], rfl, Strs.nil W _ _, Nat.zero_le _, by simp, Nat.zero_le _, by simp⟩
  · have hlm : len ≤ m := by rw [hmm]; split <;> omega
    have hbk := bulk_slice (H := H) ((List.range len).map fun i => .lit (.string (Sx i).data.toList)) ((List.range (m - len)).map fun j => .lit (.string (Sx (len + j)).data.toList))
    refine ⟨_, (List.range len).map Sx, rfl, ⟨some a, cap, by simp, ?_⟩, by simp; omega, fun s hs => ?_, by simpa using hbk.1, fun s hs => ?_⟩
    · by_cases h0 : 0 < len
      · right
        obtain ⟨b, off, cs, ty, fz, rfl, hbk, hc⟩ := slice_block (V := fun i => .string (Sx i)) h0 (fun i hi => (hcell i (by omega)).1)
        refine ⟨b, off, cs, ty, fz, rfl, hbk, fun i hi => ?_⟩
        simp only [List.length_map, List.length_range] at hi
        rw [hc i hi]; simp
      · left
        have : len = 0 := by omega
        subst this; rfl
    · obtain ⟨i, hi, rfl⟩ := List.mem_map.1 hs
      exact (hcell i (by have := List.mem_range.1 hi; omega)).2
    · obtain ⟨i, hi, rfl⟩ := List.mem_map.1 hs
      have := hbk.2 (.lit (.string (Sx i).data.toList)) (List.mem_map.2 ⟨i, hi, rfl⟩)
      simp only [Rows.uptoBulk, Array.length_toList] at this ⊢
      have e : (Sx i).size = (Sx i).data.size := rfl
      omega

/-- What a step's bulk is at least. -/
def StepLe (f : StepD) (n : Nat) : Prop := f.s.size ≤ n ∧ f.l.length ≤ n ∧ ∀ s ∈ f.l, s.size ≤ n

set_option maxRecDepth 1000000 in
theorem step_of_trodU {fuel : Nat} {cs : List Value} {x : DataW H × List MemPlace} (h : DataW.trod enc Tryd.prog W 0 sp held fuel 57 cs = some x) :
    ∃ (f : StepD) (a : Option Addr) (n c : Nat), cs = [.int .i64 f.d, .string f.s, .slice a n c] ∧ Strs W (.slice a n c) f.l ∧ f.l.length ≤ maxLen ∧ StepLe f (Rows.uptoBulk x.1) := by
  obtain ⟨f0, f1, f2, ht, hone, e0, e1, e2⟩ := hone3
  obtain ⟨xs, n, -, rfl, hlen, hxl, hf⟩ := DataW.trod_struct ht h
  have hc : Tryd.prog.cellsOf 57 = 3 := by kernel_rfl
  rw [hc] at hlen
  match cs, hlen with
  | [c0, c1, c2], _ =>
    match xs, hxl with
    | [y0, y1, y2], _ =>
      obtain ⟨o0, k0⟩ := hone_of hone 0 f0 rfl
      obtain ⟨o1, k1⟩ := hone_of hone 1 f1 rfl
      obtain ⟨o2, k2⟩ := hone_of hone 2 f2 rfl
      have h0 : DataW.trod enc Tryd.prog W 0 sp held n f0.type [c0] = some y0 := by simpa [o0, k0] using hf 0 f0 rfl
      have h1 : DataW.trod enc Tryd.prog W 0 sp held n f1.type [c1] = some y1 := by simpa [o1, k1] using hf 1 f1 rfl
      have h2 : DataW.trod enc Tryd.prog W 0 sp held n f2.type [c2] = some y2 := by simpa [o2, k2] using hf 2 f2 rfl
      rw [e0] at h0
      rw [e1] at h1
      rw [e2] at h2
      obtain ⟨n0, q0, -, -⟩ := DataW.trod_int Tryd.underlying3 h0
      obtain ⟨s1, q1, g1, -⟩ := DataW.trod_string Tryd.underlying9 h1
      obtain ⟨v, l, q2, k1, k2, k3, k4, k5⟩ := strs_of_trodU h2
      cases q0; cases q1; cases q2
      obtain ⟨a, c, rfl⟩ := k1.len
      have b1 := bulk_one y0.1
      have bs : s1.size ≤ Rows.uptoBulk y1.1 := by
        rw [g1]
        simp only [Rows.uptoBulk, Array.length_toList]
        have e : s1.size = s1.data.size := rfl
        omega
      refine ⟨⟨n0, s1, l⟩, a, _, c, rfl, k1, k2, ?_, ?_, fun s hs => ?_⟩
      · simp only [List.map_cons, List.map_nil, Rows.uptoBulk, Rows.uptoBulkAll]; omega
      · simp only [List.map_cons, List.map_nil, Rows.uptoBulk, Rows.uptoBulkAll]; omega
      · have := k5 s hs
        simp only [List.map_cons, List.map_nil, Rows.uptoBulk, Rows.uptoBulkAll]; omega

set_option maxRecDepth 1000000 in
theorem steps_of_trodU {fuel : Nat} {cs : List Value} {x : DataW H × List MemPlace} (h : DataW.trod enc Tryd.prog W 0 sp held fuel 23 cs = some x) :
    ∃ v fs, cs = [v] ∧ Steps W v fs ∧ fs.length ≤ maxLen ∧ (∀ f ∈ fs, f.l.length ≤ maxLen) ∧ fs.length ≤ Rows.uptoBulk x.1 ∧ ∀ f ∈ fs, StepLe f (Rows.uptoBulk x.1) := by
  rcases open_slice Tryd.underlying23 h with ⟨rfl, rfl⟩ | ⟨a, len, cap, m, n, D, Pl, rfl, hb, hl, hm, hmm, rfl, hx⟩
  · exact ⟨_, [], rfl, ⟨none, 0, rfl, fun i hi => by simp at hi⟩, Nat.zero_le _, by simp, Nat.zero_le _, by simp⟩
  · have hlm : len ≤ m := by rw [hmm]; split <;> omega
    have hc : Tryd.prog.cellsOf 57 = 3 := by kernel_rfl
    rw [hc] at hx
    have hbk := bulk_slice (H := H) ((List.range len).map D) ((List.range (m - len)).map fun j => D (len + j))
    have each : ∀ i, i < len → ∃ q : StepD × (Option Addr × Nat × Nat), (∀ j v, [Value.int .i64 q.1.d, .string q.1.s, .slice q.2.1 q.2.2.1 q.2.2.2][j]? = some v → W.cell? (a.add (i * 3 + j)) = some v) ∧ Strs W (.slice q.2.1 q.2.2.1 q.2.2.2) q.1.l ∧ q.1.l.length ≤ maxLen ∧ StepLe q.1 (Rows.uptoBulk (D i)) := fun i hi => by
      obtain ⟨cs', h1, h2⟩ := hx i (by omega)
      obtain ⟨f, b, bn, bc, rfl, h3, h4, h5⟩ := step_of_trodU h2
      obtain ⟨_, hcl, hat⟩ := World.cells?_some h1
      refine ⟨(f, b, bn, bc), fun j v hj => ?_, h3, h4, h5⟩
      have hj3 : j < 3 := (List.getElem?_eq_some_iff.1 hj).1
      rw [← Go.Deep.add_add, hat j hj3, hj]
    obtain ⟨Q, hQ⟩ := choose_lt each
    refine ⟨_, (List.range len).map fun i => (Q i).1, rfl, ⟨some a, cap, by simp, fun i hi => ?_⟩, by simp; omega, fun f hf => ?_, by simpa using hbk.1, fun f hf => ?_⟩
    · have hi' : i < len := by simpa using hi
      obtain ⟨b, off, cs, ty, fz, rfl, hbk, hcs⟩ := slice_block (w := W) (a := a) (n := len * 3) (V := fun k => ([Value.int .i64 (Q (k / 3)).1.d, .string (Q (k / 3)).1.s, .slice (Q (k / 3)).2.1 (Q (k / 3)).2.2.1 (Q (k / 3)).2.2.2][k % 3]?).getD .nilIface) (by omega) (fun k hk => by
        have h1 : k / 3 < len := by omega
        have h2 : k / 3 * 3 + k % 3 = k := by omega
        have h3 : k % 3 < 3 := Nat.mod_lt _ (by omega)
        have := (hQ (k / 3) h1).1 (k % 3) _ (List.getElem?_eq_getElem (by simpa using h3))
        rw [h2] at this
        rw [this, List.getElem?_eq_getElem (by simpa using h3)]
        rfl)
      refine ⟨b, off, rfl, ?_⟩
      rw [List.getElem_map, List.getElem_range]
      have g0 := hcs (i * 3) (by omega)
      rw [show i * 3 / 3 = i by omega, show i * 3 % 3 = 0 by omega] at g0
      have g1 := hcs (i * 3 + 1) (by omega)
      rw [show (i * 3 + 1) / 3 = i by omega, show (i * 3 + 1) % 3 = 1 by omega] at g1
      have g2 := hcs (i * 3 + 2) (by omega)
      rw [show (i * 3 + 2) / 3 = i by omega, show (i * 3 + 2) % 3 = 2 by omega] at g2
      simp only [← Nat.add_assoc] at g1 g2
      exact ⟨by simpa [World.cell?, hbk] using g0, by simpa [World.cell?, hbk] using g1, _, _, _, by simpa [World.cell?, hbk] using g2, (hQ i hi').2.1⟩
    · obtain ⟨i, hi, rfl⟩ := List.mem_map.1 hf
      exact (hQ i (List.mem_range.1 hi)).2.2.1
    · obtain ⟨i, hi, rfl⟩ := List.mem_map.1 hf
      obtain ⟨a1, a2, a3⟩ := (hQ i (List.mem_range.1 hi)).2.2.2
      have := hbk.2 (D i) (List.mem_map.2 ⟨i, hi, rfl⟩)
      exact ⟨by simp only; omega, by simp only; omega, fun s hs => by have := a3 s hs; simp only; omega⟩

set_option maxRecDepth 1000000 in
theorem open_stepsU {b0 : Nat} {v : Value} {d : DataW H} {p : List MemPlace} (hv : Value.okWide Tryd.prog W .any b0 23 v) (h : DataW.Trod enc Tryd.prog W 0 sp held 23 v d p) :
    ∃ l, Steps W v l ∧ l.length ≤ maxLen ∧ (∀ x ∈ l, x.l.length ≤ maxLen) ∧ l.length ≤ Rows.uptoBulk d ∧ ∀ x ∈ l, StepLe x (Rows.uptoBulk d) := by
  obtain ⟨a, n, c, rfl⟩ := okWide_slice Tryd.underlying23 hv
  obtain ⟨fuel, hf⟩ := h
  obtain ⟨v, l, e, h1, h2, h3, h4, h5⟩ := steps_of_trodU hf
  have : v = .slice a n c := by simpa [Value.cells] using e.symm
  subst this
  exact ⟨l, h1, h2, h3, h4, h5⟩
end Go.Proofs.YtlnnmionbflolaaDoor
