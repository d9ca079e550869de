/- Definitions of flags as an argument, as they are read. -/
import Derived.Test.YtmmkebdaijmpiaaGreatNBase
import Derived.Deep.Strs
import Derived.Deep.Fields
import Derived.OpenShut
import Derived.ChangeSame
namespace Go.Proofs.YtmmkebdaijmpiaaGreat
open Go.RowKit Go.ChangeShapes Go.WideShapes Go.Deep
set_option linter.unusedVariables false
set_option linter.unusedSimpArgs false

variable {H : Type} {enc : TypeId × Value → H} {W : World} {sp : Nat → Bool} {held : Bool}

theorem block_of_cellD {w : World} {a : Addr} {v : Value} (h : w.cell? a = some v) : ∃ cs ty fz, w.heap[a.block]? = some (.cells cs ty fz) ∧ a.spot = none ∧ cs[a.off]? = some v := by
  unfold World.cell? at h
  split at h
  · rename_i c t z hb
    split at h
    · cases h
    · rename_i hs
      exact ⟨c, t, z, hb, by simpa using hs, h⟩
  · cases h

/-- A slice whose cells are known is a row of one block. -/
theorem slice_blockD {w : World} {a : Addr} {n : Nat} {V : Nat → Value} (hn : 0 < n) (h : ∀ i, i < n → w.cell? (a.add i) = some (V i)) : ∃ b off cs ty fz, a = ⟨b, off, none⟩ ∧ w.heap[b]? = some (.cells cs ty fz) ∧ ∀ i, i < n → cs[off + i]? = some (V i) := by
  obtain ⟨cs, ty, fz, hb, hs, hc⟩ := block_of_cellD (by simpa [Addr.add] using h 0 hn)
  obtain ⟨b, off, spot⟩ := a
  simp only at hb hs hc
  subst hs
  refine ⟨b, off, cs, ty, fz, rfl, hb, fun i hi => ?_⟩
  have := h i hi
  by_cases e : i = 0
  · subst e; simpa [Addr.add, World.cell?, hb] using this
  · simpa [Addr.add, e, World.cell?, hb] using this

theorem hone6 : ∃ f0 f1 f2 f3 f4 f5 : Field, Tryz.prog.underlying 50 = some (.struct #[f0, f1, f2, f3, f4, f5]) ∧ oneCellFields Tryz.prog #[f0, f1, f2, f3, f4, f5] = true ∧ f0.type = 9 ∧ f1.type = 9 ∧ f2.type = 3 ∧ f3.type = 4 ∧ f4.type = 3 ∧ f5.type = 9 :=
  ⟨_, _, _, _, _, _, Tryz.underlying50, by kernel_rfl, rfl, rfl, rfl, rfl, rfl, rfl⟩

set_option maxRecDepth 1000000 in
theorem def_of_trod {fuel : Nat} {cs : List Value} {x : DataW H × List MemPlace} (h : DataW.trod enc Tryz.prog W 0 sp held fuel 50 cs = some x) : ∃ f : DefD, cs = f.cells := by
  obtain ⟨f0, f1, f2, f3, f4, f5, ht, hone, e0, e1, e2, e3, e4, e5⟩ := hone6
  obtain ⟨xs, n, -, -, hlen, hxl, hf⟩ := DataW.trod_struct ht h
  rw [show Tryz.prog.cellsOf 50 = 6 by kernel_rfl] at hlen
  match cs, hlen with
  | [c0, c1, c2, c3, c4, c5], _ =>
    match xs, hxl with
    | [y0, y1, y2, y3, y4, y5], _ =>
      obtain ⟨o0, k0⟩ := hone_of hone 0 f0 rfl
      obtain ⟨o1, k1⟩ := hone_of hone 1 f1 rfl
      obtain ⟨o2, k2⟩ := hone_of hone 2 f2 rfl
      obtain ⟨o3, k3⟩ := hone_of hone 3 f3 rfl
      obtain ⟨o4, k4⟩ := hone_of hone 4 f4 rfl
      obtain ⟨o5, k5⟩ := hone_of hone 5 f5 rfl
      have h0 : DataW.trod enc Tryz.prog W 0 sp held n f0.type [c0] = some y0 := by simpa [o0, k0] using hf 0 f0 rfl
      have h1 : DataW.trod enc Tryz.prog W 0 sp held n f1.type [c1] = some y1 := by simpa [o1, k1] using hf 1 f1 rfl
      have h2 : DataW.trod enc Tryz.prog W 0 sp held n f2.type [c2] = some y2 := by simpa [o2, k2] using hf 2 f2 rfl
      have h3 : DataW.trod enc Tryz.prog W 0 sp held n f3.type [c3] = some y3 := by simpa [o3, k3] using hf 3 f3 rfl
      have h4 : DataW.trod enc Tryz.prog W 0 sp held n f4.type [c4] = some y4 := by simpa [o4, k4] using hf 4 f4 rfl
      have h5 : DataW.trod enc Tryz.prog W 0 sp held n f5.type [c5] = some y5 := by simpa [o5, k5] using hf 5 f5 rfl
      rw [e0] at h0
      rw [e1] at h1
      rw [e2] at h2
      rw [e3] at h3
      rw [e4] at h4
      rw [e5] at h5
      obtain ⟨s0, q0, -, -⟩ := DataW.trod_string Tryz.underlying9 h0
      obtain ⟨s1, q1, -, -⟩ := DataW.trod_string Tryz.underlying9 h1
      obtain ⟨n2, q2, -, -⟩ := DataW.trod_int Tryz.underlying3 h2
      obtain ⟨b3, q3, -⟩ := DataW.trod_bool Tryz.underlying4 h3
      obtain ⟨n4, q4, -, -⟩ := DataW.trod_int Tryz.underlying3 h4
      obtain ⟨s5, q5, -, -⟩ := DataW.trod_string Tryz.underlying9 h5
      cases q0; cases q1; cases q2; cases q3; cases q4; cases q5
      exact ⟨⟨s0, s1, n2, b3, n4, s5⟩, rfl⟩

set_option maxRecDepth 1000000 in
theorem defs_of_trod {fuel : Nat} {cs : List Value} {x : DataW H × List MemPlace} (h : DataW.trod enc Tryz.prog W 0 sp held fuel 22 cs = some x) :
    ∃ v fs, cs = [v] ∧ Defs W v fs ∧ fs.length ≤ maxLen := by
  rcases open_slice Tryz.underlying22 h with ⟨rfl, -⟩ | ⟨a, len, cap, m, n, D, Pl, rfl, hb, hl, hm, hmm, -, hx⟩
  · exact ⟨_, [], rfl, ⟨none, 0, rfl, Nat.le_refl _, fun i hi => by simp at hi⟩, Nat.zero_le _⟩
  · have hlm : len ≤ m := by rw [hmm]; split <;> omega
    have hc : Tryz.prog.cellsOf 50 = 6 := by kernel_rfl
    rw [hc] at hx
    have each : ∀ i, i < len → ∃ q : DefD, ∀ j v, q.cells[j]? = some v → W.cell? (a.add (i * 6 + j)) = some v := fun i hi => by
      obtain ⟨cs', h1, h2⟩ := hx i (by omega)
      obtain ⟨f, rfl⟩ := def_of_trod h2
      obtain ⟨_, hcl, hat⟩ := World.cells?_some h1
      refine ⟨f, fun j v hj => ?_⟩
      have hj3 : j < 6 := (List.getElem?_eq_some_iff.1 hj).1
      rw [← Go.Deep.add_add, hat j hj3, hj]
    obtain ⟨Q, hQ⟩ := choose_lt each
    refine ⟨_, (List.range len).map Q, rfl, ⟨some a, cap, by simp, by simp; omega, fun i hi => ?_⟩, by simp; omega⟩
    have hi' : i < len := by simpa using hi
    obtain ⟨b, off, cs, ty, fz, rfl, hbk, hcs⟩ := slice_blockD (w := W) (a := a) (n := len * 6) (V := fun k => ((Q (k / 6)).cells[k % 6]?).getD .nilIface) (by omega) (fun k hk => by
      have h1 : k / 6 < len := by omega
      have h2 : k / 6 * 6 + k % 6 = k := by omega
      have h3 : k % 6 < 6 := Nat.mod_lt _ (by omega)
      have := hQ (k / 6) h1 (k % 6) _ (List.getElem?_eq_getElem (by simpa [DefD.cells] using h3))
      rw [h2] at this
      rw [this, List.getElem?_eq_getElem (by simpa [DefD.cells] using h3)]
      rfl)
    refine ⟨b, off, rfl, ?_⟩
    rw [List.getElem_map, List.getElem_range]
    have g : ∀ j v, j < 6 → (Q i).cells[j]? = some v → W.cell? ⟨b, off + i * 6 + j, none⟩ = some v := fun j v hj hv => by
      have := hcs (i * 6 + j) (by omega)
      rw [show (i * 6 + j) / 6 = i by omega, show (i * 6 + j) % 6 = j by omega, hv, ← Nat.add_assoc] at this
      simpa [World.cell?, hbk] using this
    exact ⟨g 0 _ (by omega) rfl, g 1 _ (by omega) rfl, g 2 _ (by omega) rfl, g 3 _ (by omega) rfl, g 4 _ (by omega) rfl, g 5 _ (by omega) rfl⟩

set_option maxRecDepth 1000000 in
theorem open_defs {b0 : Nat} {v : Value} {d : DataW H} {p : List MemPlace} (hv : Value.okWide Tryz.prog W .any b0 22 v) (h : DataW.Trod enc Tryz.prog W 0 sp held 22 v d p) :
    ∃ l, Defs W v l ∧ l.length ≤ maxLen := by
  obtain ⟨a, n, c, rfl⟩ := okWide_slice Tryz.underlying22 hv
  obtain ⟨fuel, hf⟩ := h
  obtain ⟨v, l, e, h1, h2⟩ := defs_of_trod hf
  have : v = .slice a n c := by simpa [Value.cells] using e.symm
  subst this
  exact ⟨l, h1, h2⟩
end Go.Proofs.YtmmkebdaijmpiaaGreat
