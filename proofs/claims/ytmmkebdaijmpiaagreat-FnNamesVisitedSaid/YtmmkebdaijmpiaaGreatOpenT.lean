/- Lists of texts as arguments, as they are read; whether they are of the size that the laws speak of. -/
import Derived.Test.YtmmkebdaijmpiaaGreatH
import Derived.Deep.Strs
import Derived.OpenShut
import Derived.ChangeSame
namespace Go.Proofs.YtmmkebdaijmpiaaGreat
open Go.RowKit Go.ChangeShapes Go.WideShapes Go.Deep
set_option linter.unusedVariables false
set_option linter.unusedSimpArgs false

variable {H : Type} {enc : TypeId × Value → H} {W : World} {sp : Nat → Bool} {held : Bool}

theorem block_of_cell {w : World} {a : Addr} {v : Value} (h : w.cell? a = some v) : ∃ cs ty fz, w.heap[a.block]? = some (.cells cs ty fz) ∧ a.spot = none ∧ cs[a.off]? = some v := by
  unfold World.cell? at h
  split at h
  · rename_i c t z hb
    split at h
    · cases h
    · rename_i hs
      exact ⟨c, t, z, hb, by simpa using hs, h⟩
  · cases h

/-- A slice whose cells are known is a row of one block. -/
theorem slice_block {w : World} {a : Addr} {n : Nat} {V : Nat → Value} (hn : 0 < n) (h : ∀ i, i < n → w.cell? (a.add i) = some (V i)) : ∃ b off cs ty fz, a = ⟨b, off, none⟩ ∧ w.heap[b]? = some (.cells cs ty fz) ∧ ∀ i, i < n → cs[off + i]? = some (V i) := by
  obtain ⟨cs, ty, fz, hb, hs, hc⟩ := block_of_cell (by simpa [Addr.add] using h 0 hn)
  obtain ⟨b, off, spot⟩ := a
  simp only at hb hs hc
  subst hs
  refine ⟨b, off, cs, ty, fz, rfl, hb, fun i hi => ?_⟩
  have := h i hi
  by_cases e : i = 0
  · subst e; simpa [Addr.add, World.cell?, hb] using this
  · simpa [Addr.add, e, World.cell?, hb] using this

set_option maxRecDepth 1000000 in
theorem strs_of_trod {fuel : Nat} {cs : List Value} {x : DataW H × List MemPlace} (h : DataW.trod enc Tryz.prog W 0 sp held fuel 23 cs = some x) :
    ∃ v l, cs = [v] ∧ Strs W v l ∧ l.length ≤ maxLen ∧ ∀ s ∈ l, s.size ≤ maxLen := by
  rcases open_strs Tryz.underlying23 Tryz.underlying9 (by kernel_rfl) h with ⟨rfl, -⟩ | ⟨a, len, cap, m, Sx, rfl, hb, hl, hm, hmm, -, hcell⟩
  · exact ⟨_, [], rfl, Strs.nil W _ _, Nat.zero_le _, by simp⟩
  · have hlm : len ≤ m := by rw [hmm]; split <;> omega
    refine ⟨_, (List.range len).map Sx, rfl, ⟨some a, cap, by simp, ?_⟩, by simp; omega, fun s hs => ?_⟩
    · by_cases h0 : 0 < len
      · right
        obtain ⟨b, off, cs, ty, fz, rfl, hbk, hc⟩ := slice_block (V := fun i => .string (Sx i)) h0 (fun i hi => (hcell i (by omega)).1)
        refine ⟨b, off, cs, ty, fz, rfl, hbk, fun i hi => ?_⟩
        simp only [List.length_map, List.length_range] at hi
        rw [hc i hi]; simp
      · left
        have : len = 0 := by omega
        subst this; rfl
    · obtain ⟨i, hi, rfl⟩ := List.mem_map.1 hs
      exact (hcell i (by have := List.mem_range.1 hi; omega)).2

set_option maxRecDepth 1000000 in
theorem open_texts {b0 : Nat} {v : Value} {d : DataW H} {p : List MemPlace} (hv : Value.okWide Tryz.prog W .any b0 23 v) (h : DataW.Trod enc Tryz.prog W 0 sp held 23 v d p) :
    ∃ l, Strs W v l ∧ l.length ≤ maxLen ∧ ∀ s ∈ l, s.size ≤ maxLen := by
  obtain ⟨a, n, c, rfl⟩ := okWide_slice Tryz.underlying23 hv
  obtain ⟨fuel, hf⟩ := h
  obtain ⟨v, l, e, h1, h2, h3⟩ := strs_of_trod hf
  have : v = .slice a n c := by simpa [Value.cells] using e.symm
  subst this
  exact ⟨l, h1, h2, h3⟩

/-- A truth that, where it is true, tells p. -/
def Tells (p : Prop) (e : Ending) : Prop := ∃ b, e = .returned (.bool b) ∧ (b = true → p)
theorem Tells.no {p : Prop} {v : Value} (h : v = .bool false) : Tells p (.returned v) := ⟨false, by rw [h], by simp⟩
theorem Tells.yes {p : Prop} {v : Value} (h : v = .bool true) (hp : p) : Tells p (.returned v) := ⟨true, by rw [h], fun _ => hp⟩

/-- Texts of a size that a law speaks of. -/
def SmallL (l : List ByteArray) : Prop := l.length ≤ 2147483647 ∧ ∀ s ∈ l, s.size ≤ 2147483647

theorem fits2_any (v : Value) (l : List ByteArray) (w : World) (hv : Strs w v l) (hl : l.length ≤ 9223372036854775807) :
    Calls Tryz.prog 6 #[v] w fun e w' => Tells (SmallL l) e ∧ w' = w := by
  obtain ⟨a, cap, rfl⟩ := hv.len
  have hcell : ∀ i (h : i < l.length), ∃ b off, a = some ⟨b, off, none⟩ ∧ w.cell? ⟨b, off + i, none⟩ = some (.string l[i]) := by
    intro i h
    obtain ⟨b, off, e, f⟩ := hv.cell (by omega)
    exact ⟨b, off, e, f i h⟩
  have HC := Lib.hid hcell
  clear hcell hv
  go_enter Tryz.func6, Tryz.ntmps6
  by_cases h0 : (2147483647 : Int) < (l.length : Int)
  · have d0 : decide ((2147483647 : Int) < (l.length : Int)) = true := decide_eq_true h0
    go_wp2_with fail
    go_ret
    exact ⟨Tells.no rfl, rfl⟩
  · have d0 : decide ((2147483647 : Int) < (l.length : Int)) = false := decide_eq_false h0
    go_wp2_with fail
    go_loop [10] (fun i => ∃ k : Nat, k ≤ l.length ∧ i = .int .i64 k ∧ ∀ j (h : j < l.length), j < k → l[j].size ≤ 2147483647) (fun i => l.length - (intOf i).toNat)
    case atStart => exact ⟨0, Nat.zero_le _, rfl, fun j _ h => by omega⟩
    case round =>
      obtain ⟨k, hk, rfl, hh⟩ := hrel
      have HH := Lib.hid hh
      clear hh
      by_cases hlt : k < l.length
      · obtain ⟨b, off, rfl, hc⟩ := HC.out k hlt
        have HN : Hid (l[k].size ≤ 2147483647 → ∀ j (h : j < l.length), j < k + 1 → l[j].size ≤ 2147483647) := Lib.hid (fun hx j h hj => by
          by_cases e : j = k
          · subst e; exact hx
          · exact HH.out j h (by omega))
        generalize l[k] = x at *
        by_cases h1 : (2147483647 : Int) < (x.size : Int)
        · have d1 : decide ((2147483647 : Int) < (x.size : Int)) = true := decide_eq_true h1
          go_wp2_with fail
          go_ret
          exact ⟨Tells.no rfl, rfl⟩
        · have d1 : decide ((2147483647 : Int) < (x.size : Int)) = false := decide_eq_false h1
          go_wp2_with fail
          go_round
          case rel => exact ⟨k + 1, by omega, by go_num, HN.out (by omega)⟩
          case measure => simp [intOf]; omega
      · go_wp2_with fail
        go_ret
        refine ⟨Tells.yes rfl ⟨by omega, fun s hs => ?_⟩, rfl⟩
        obtain ⟨j, hj, rfl⟩ := List.mem_iff_getElem.1 hs
        exact HH.out j hj (by omega)

end Go.Proofs.YtmmkebdaijmpiaaGreat
