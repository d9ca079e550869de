/- The laws' arguments as they are read: sets of flags, lists of texts. -/
import Derived.Test.YtcpjdgbnfjdakaaSpecB
import Derived.Deep.Strs
import Derived.Deep.Fields
import Derived.OpenShut
import Derived.ChangeSame
namespace Go.Proofs.Ytcpjdgbnfjdakaa
open Go.RowKit Go.ChangeShapes Go.WideShapes Go.Deep
set_option linter.unusedVariables false
set_option linter.unusedSimpArgs false

instance : Inhabited FlagD := ⟨⟨⟨#[]⟩, ⟨#[]⟩, ⟨#[]⟩, []⟩⟩
instance : Inhabited (FlagD × Value) := ⟨(default, .nilIface)⟩

variable {H : Type} {enc : TypeId × Value → H} {W : World} {sp : Nat → Bool} {held : Bool}

theorem block_of_cell {w : World} {a : Addr} {v : Value} (h : w.cell? a = some v) : ∃ cs ty fz, w.heap[a.block]? = some (.cells cs ty fz) ∧ a.spot = none ∧ cs[a.off]? = some v := by
  unfold World.cell? at h
  split at h
  · rename_i c t z hb
    split at h
    · cases h
    · rename_i hs
      exact ⟨c, t, z, hb, by simpa using hs, h⟩
  · cases h

/-- A slice whose cells are known is a row of one block. -/
theorem slice_block {w : World} {a : Addr} {n : Nat} {V : Nat → Value} (hn : 0 < n) (h : ∀ i, i < n → w.cell? (a.add i) = some (V i)) : ∃ b off cs ty fz, a = ⟨b, off, none⟩ ∧ w.heap[b]? = some (.cells cs ty fz) ∧ ∀ i, i < n → cs[off + i]? = some (V i) := by
  obtain ⟨cs, ty, fz, hb, hs, hc⟩ := block_of_cell (by simpa [Addr.add] using h 0 hn)
  obtain ⟨b, off, spot⟩ := a
  simp only at hb hs hc
  subst hs
  refine ⟨b, off, cs, ty, fz, rfl, hb, fun i hi => ?_⟩
  have := h i hi
  by_cases e : i = 0
  · subst e; simpa [Addr.add, World.cell?, hb] using this
  · simpa [Addr.add, e, World.cell?, hb] using this

set_option maxRecDepth 1000000 in
theorem texts_of_trod {fuel : Nat} {cs : List Value} {x : DataW H × List MemPlace} (h : DataW.trod enc Try.prog W 0 sp held fuel 25 cs = some x) :
    ∃ v l, cs = [v] ∧ Texts W v l ∧ l.length ≤ maxLen ∧ ∀ s ∈ l, s.size ≤ maxLen := by
  rcases open_strs Try.underlying25 Try.underlying9 (by kernel_rfl) h with ⟨rfl, -⟩ | ⟨a, len, cap, m, Sx, rfl, hb, hl, hm, hmm, -, hcell⟩
  · exact ⟨_, [], rfl, Texts.nil W, Nat.zero_le _, by simp⟩
  · have hlm : len ≤ m := by rw [hmm]; split <;> omega
    refine ⟨_, (List.range len).map Sx, rfl, ⟨⟨some a, cap, by simp, ?_⟩, _, _, _, rfl, hl⟩, by simp; omega, fun s hs => ?_⟩
    · by_cases h0 : 0 < len
      · right
        obtain ⟨b, off, cs, ty, fz, rfl, hbk, hc⟩ := slice_block (V := fun i => .string (Sx i)) h0 (fun i hi => (hcell i (by omega)).1)
        refine ⟨b, off, cs, ty, fz, rfl, hbk, fun i hi => ?_⟩
        simp only [List.length_map, List.length_range] at hi
        rw [hc i hi]; simp
      · left
        have : len = 0 := by omega
        subst this; rfl
    · obtain ⟨i, hi, rfl⟩ := List.mem_map.1 hs
      exact (hcell i (by have := List.mem_range.1 hi; omega)).2

set_option maxRecDepth 1000000 in
theorem open_texts {b0 : Nat} {v : Value} {d : DataW H} {p : List MemPlace} (hv : Value.okWide Try.prog W .any b0 25 v) (h : DataW.Trod enc Try.prog W 0 sp held 25 v d p) :
    ∃ l, Texts W v l ∧ l.length ≤ maxLen ∧ ∀ s ∈ l, s.size ≤ maxLen := by
  obtain ⟨a, n, c, rfl⟩ := okWide_slice Try.underlying25 hv
  obtain ⟨fuel, hf⟩ := h
  obtain ⟨v, l, e, h1, h2, h3⟩ := texts_of_trod hf
  have : v = .slice a n c := by simpa [Value.cells] using e.symm
  subst this
  exact ⟨l, h1, h2, h3⟩

theorem hone4 : ∃ f0 f1 f2 f3 : Field, Try.prog.underlying 62 = some (.struct #[f0, f1, f2, f3]) ∧ oneCellFields Try.prog #[f0, f1, f2, f3] = true ∧ f0.type = 9 ∧ f1.type = 9 ∧ f2.type = 9 ∧ f3.type = 25 :=
  ⟨_, _, _, _, Try.underlying62, by kernel_rfl, rfl, rfl, rfl, rfl⟩
theorem honeS : ∃ f0 f1 f2 f3 : Field, Try.prog.underlying 24 = some (.struct #[f0, f1, f2, f3]) ∧ oneCellFields Try.prog #[f0, f1, f2, f3] = true ∧ f0.type = 22 ∧ f1.type = 4 ∧ f2.type = 4 ∧ f3.type = 3 :=
  ⟨_, _, _, _, Try.underlying24, by kernel_rfl, rfl, rfl, rfl, rfl⟩

set_option maxRecDepth 1000000 in
/-- A struct of four fields, a cell each. -/
theorem four_of_trod {t : TypeId} {f0 f1 f2 f3 : Field} {fuel : Nat} {cs : List Value} {x : DataW H × List MemPlace} (ht : Try.prog.underlying t = some (.struct #[f0, f1, f2, f3])) (hone : oneCellFields Try.prog #[f0, f1, f2, f3] = true) (hc : Try.prog.cellsOf t = 4)
    (h : DataW.trod enc Try.prog W 0 sp held fuel t cs = some x) :
    ∃ c0 c1 c2 c3 y0 y1 y2 y3 n, cs = [c0, c1, c2, c3] ∧ DataW.trod enc Try.prog W 0 sp held n f0.type [c0] = some y0 ∧ DataW.trod enc Try.prog W 0 sp held n f1.type [c1] = some y1 ∧ DataW.trod enc Try.prog W 0 sp held n f2.type [c2] = some y2 ∧ DataW.trod enc Try.prog W 0 sp held n f3.type [c3] = some y3 := by
  obtain ⟨xs, n, -, -, hlen, hxl, hf⟩ := DataW.trod_struct ht h
  rw [hc] at hlen
  match cs, hlen with
  | [c0, c1, c2, c3], _ =>
    match xs, hxl with
    | [y0, y1, y2, y3], _ =>
      obtain ⟨o0, k0⟩ := hone_of hone 0 f0 rfl
      obtain ⟨o1, k1⟩ := hone_of hone 1 f1 rfl
      obtain ⟨o2, k2⟩ := hone_of hone 2 f2 rfl
      obtain ⟨o3, k3⟩ := hone_of hone 3 f3 rfl
      exact ⟨c0, c1, c2, c3, y0, y1, y2, y3, n, rfl, by simpa [o0, k0] using hf 0 f0 rfl, by simpa [o1, k1] using hf 1 f1 rfl, by simpa [o2, k2] using hf 2 f2 rfl, by simpa [o3, k3] using hf 3 f3 rfl⟩

set_option maxRecDepth 1000000 in
theorem flag_of_trod {fuel : Nat} {cs : List Value} {x : DataW H × List MemPlace} (h : DataW.trod enc Try.prog W 0 sp held fuel 62 cs = some x) :
    ∃ (f : FlagD) (bv : Value), cs = [.string f.name, .string f.short, .string f.noopt, bv] ∧ Strs W bv f.bad ∧ f.bad.length ≤ maxLen := by
  obtain ⟨f0, f1, f2, f3, ht, hone, e0, e1, e2, e3⟩ := hone4
  obtain ⟨c0, c1, c2, c3, y0, y1, y2, y3, n, rfl, h0, h1, h2, h3⟩ := four_of_trod ht hone (by kernel_rfl) h
  rw [e0] at h0
  rw [e1] at h1
  rw [e2] at h2
  rw [e3] at h3
  obtain ⟨s0, q0, -, -⟩ := DataW.trod_string Try.underlying9 h0
  obtain ⟨s1, q1, -, -⟩ := DataW.trod_string Try.underlying9 h1
  obtain ⟨s2, q2, -, -⟩ := DataW.trod_string Try.underlying9 h2
  obtain ⟨v, l, q3, k1, k2, k3⟩ := texts_of_trod h3
  cases q0; cases q1; cases q2; cases q3
  exact ⟨⟨s0, s1, s2, l⟩, c3, rfl, k1.strs, k2⟩

set_option maxRecDepth 1000000 in
theorem flags_of_trod {fuel : Nat} {cs : List Value} {x : DataW H × List MemPlace} (h : DataW.trod enc Try.prog W 0 sp held fuel 22 cs = some x) :
    ∃ v fs, cs = [v] ∧ FlagRows W v fs ∧ fs.length ≤ maxLen ∧ ∀ f ∈ fs, f.bad.length ≤ maxLen := by
  rcases open_slice Try.underlying22 h with ⟨rfl, -⟩ | ⟨a, len, cap, m, n, D, Pl, rfl, hb, hl, hm, hmm, -, hx⟩
  · exact ⟨_, [], rfl, ⟨none, 0, rfl, .inl rfl⟩, Nat.zero_le _, by simp⟩
  · have hlm : len ≤ m := by rw [hmm]; split <;> omega
    have hc : Try.prog.cellsOf 62 = 4 := by kernel_rfl
    rw [hc] at hx
    have each : ∀ i, i < len → ∃ q : FlagD × Value, (∀ j v, [Value.string q.1.name, .string q.1.short, .string q.1.noopt, q.2][j]? = some v → W.cell? (a.add (i * 4 + j)) = some v) ∧ Strs W q.2 q.1.bad ∧ q.1.bad.length ≤ maxLen := fun i hi => by
      obtain ⟨cs', h1, h2⟩ := hx i (by omega)
      obtain ⟨f, bv, rfl, h3, h4⟩ := flag_of_trod h2
      obtain ⟨_, hcl, hat⟩ := World.cells?_some h1
      refine ⟨(f, bv), fun j v hj => ?_, h3, h4⟩
      have hj4 : j < 4 := (List.getElem?_eq_some_iff.1 hj).1
      rw [← Go.Deep.add_add, hat j hj4, hj]
    obtain ⟨Q, hQ⟩ := choose_lt each
    refine ⟨_, (List.range len).map fun i => (Q i).1, rfl, ⟨some a, cap, by simp, ?_⟩, by simp; omega, fun f hf => ?_⟩
    · by_cases h0 : 0 < len
      · right
        obtain ⟨b, off, cs, ty, fz, rfl, hbk, hcs⟩ := slice_block (w := W) (a := a) (n := len * 4) (V := fun k => ([Value.string (Q (k / 4)).1.name, .string (Q (k / 4)).1.short, .string (Q (k / 4)).1.noopt, (Q (k / 4)).2][k % 4]?).getD .nilIface) (by omega) (fun k hk => by
          have h1 : k / 4 < len := by omega
          have h2 : k / 4 * 4 + k % 4 = k := by omega
          have h3 : k % 4 < 4 := Nat.mod_lt _ (by omega)
          have := (hQ (k / 4) h1).1 (k % 4) _ (List.getElem?_eq_getElem (by simpa using h3))
          rw [h2] at this
          rw [this, List.getElem?_eq_getElem (by simpa using h3)]
          rfl)
        refine ⟨b, off, cs, ty, fz, rfl, hbk, fun i f hf => ?_⟩
        have hi : i < len := by
          have := (List.getElem?_eq_some_iff.1 hf).1
          simpa using this
        have hfe : f = (Q i).1 := by
          rw [List.getElem?_map, List.getElem?_range hi] at hf
          exact (Option.some.inj hf).symm
        subst hfe
        refine ⟨(Q i).2, ?_, ?_, ?_, ?_, (hQ i hi).2.1⟩
        · have := hcs (i * 4) (by omega)
          rw [show i * 4 / 4 = i by omega, show i * 4 % 4 = 0 by omega] at this
          exact this
        · have := hcs (i * 4 + 1) (by omega)
          rw [show (i * 4 + 1) / 4 = i by omega, show (i * 4 + 1) % 4 = 1 by omega] at this
          exact this
        · have := hcs (i * 4 + 2) (by omega)
          rw [show (i * 4 + 2) / 4 = i by omega, show (i * 4 + 2) % 4 = 2 by omega] at this
          exact this
        · have := hcs (i * 4 + 3) (by omega)
          rw [show (i * 4 + 3) / 4 = i by omega, show (i * 4 + 3) % 4 = 3 by omega] at this
          exact this
      · left
        have : len = 0 := by omega
        subst this; rfl
    · obtain ⟨i, hi, rfl⟩ := List.mem_map.1 hf
      exact (hQ i (List.mem_range.1 hi)).2.2

set_option maxRecDepth 1000000 in
theorem open_set {b0 : Nat} {v : Value} {d : DataW H} {p : List MemPlace} (hv : Value.okWide Try.prog W .any b0 24 v) (h : DataW.Trod enc Try.prog W 0 sp held 24 v d p) :
    ∃ fv fs plain unk fold, v = .agg #[fv, .bool plain, .bool unk, .int .i64 fold] ∧ FlagRows W fv fs ∧ fs.length ≤ maxLen ∧ (∀ f ∈ fs, f.bad.length ≤ maxLen) := by
  obtain ⟨f0, f1, f2, f3, ht, hone, e0, e1, e2, e3⟩ := honeS
  obtain ⟨cs, rfl, hsz⟩ := okWide_struct ht hv
  obtain ⟨fuel, hf⟩ := h
  obtain ⟨c0, c1, c2, c3, y0, y1, y2, y3, n, hcs, h0, h1, h2, h3⟩ := four_of_trod ht hone (by kernel_rfl) hf
  have hcs : cs = #[c0, c1, c2, c3] := by
    obtain ⟨l⟩ := cs
    simpa [Value.cells] using hcs
  subst hcs
  rw [e0] at h0
  rw [e1] at h1
  rw [e2] at h2
  rw [e3] at h3
  obtain ⟨v, fs, q0, k1, k2, k3⟩ := flags_of_trod h0
  obtain ⟨b1, q1, -⟩ := DataW.trod_bool Try.underlying4 h1
  obtain ⟨b2, q2, -⟩ := DataW.trod_bool Try.underlying4 h2
  obtain ⟨n3, q3, -, -⟩ := DataW.trod_int Try.underlying3 h3
  cases q0; cases q1; cases q2; cases q3
  exact ⟨_, fs, b1, b2, n3, rfl, k1, k2, k3⟩
end Go.Proofs.Ytcpjdgbnfjdakaa
