/- The law FnNamesVisited at its arguments as they are read. -/
import Derived.Test.YtmmkebdaijmpiaaGreatVLaw
import Derived.Test.YtmmkebdaijmpiaaGreatNOpen
import Derived.Test.YtmmkebdaijmpiaaGreatRows
namespace Go.Proofs.YtmmkebdaijmpiaaGreat
open Go.RowKit Go.ChangeShapes Go.WideShapes Go.Deep
set_option linter.unusedVariables false
set_option linter.unusedSimpArgs false

section
variable {H : Type} {enc : TypeId × Value → H} {W : World} {sp : Nat → Bool} {held : Bool}
set_option maxRecDepth 1000000 in
theorem strs_of_trodC {fuel : Nat} {cs : List Value} {x : DataW H × List MemPlace} (h : DataW.trod enc Tryz.prog W 0 sp held fuel 23 cs = some x) :
    ∃ v l, cs = [v] ∧ Strs W v l ∧ l.length ≤ maxLen ∧ ∀ a n c, v = .slice a n c → n ≤ c := by
  rcases open_strs Tryz.underlying23 Tryz.underlying9 (by kernel_rfl) h with ⟨rfl, -⟩ | ⟨a, len, cap, m, Sx, rfl, hb, hl, hm, hmm, -, hcell⟩
  · exact ⟨_, [], rfl, Strs.nil W _ _, Nat.zero_le _, fun a n c e => by cases e; exact Nat.le_refl _⟩
  · have hlm : len ≤ m := by rw [hmm]; split <;> omega
    refine ⟨_, (List.range len).map Sx, rfl, ⟨some a, cap, by simp, ?_⟩, by simp; omega, fun a' n c e => by cases e; omega⟩
    by_cases h0 : 0 < len
    · right
      obtain ⟨b, off, cs, ty, fz, rfl, hbk, hc⟩ := slice_block (V := fun i => .string (Sx i)) h0 (fun i hi => (hcell i (by omega)).1)
      refine ⟨b, off, cs, ty, fz, rfl, hbk, fun i hi => ?_⟩
      simp only [List.length_map, List.length_range] at hi
      rw [hc i hi]; simp
    · left
      have : len = 0 := by omega
      subst this; rfl
set_option maxRecDepth 1000000 in
theorem open_textsC {b0 : Nat} {v : Value} {d : DataW H} {p : List MemPlace} (hv : Value.okWide Tryz.prog W .any b0 23 v) (h : DataW.Trod enc Tryz.prog W 0 sp held 23 v d p) :
    ∃ l, Strs W v l ∧ l.length ≤ maxLen ∧ ∀ a n c, v = .slice a n c → n ≤ c := by
  obtain ⟨a, n, c, rfl⟩ := okWide_slice Tryz.underlying23 hv
  obtain ⟨fuel, hf⟩ := h
  obtain ⟨v, l, e, h1, h2, h3⟩ := strs_of_trodC hf
  have : v = .slice a n c := by simpa [Value.cells] using e.symm
  subst this
  exact ⟨l, h1, h2, h3⟩
end

set_option maxRecDepth 1000000 in
theorem fnNamesVisited_walk {H : Type} (enc : TypeId × Value → H) (W : World) {sp1 sp2 : Nat → Bool} {held1 held2 : Bool} {b1 b2 : Nat}
    (v1 : Value) (d1 : DataW H) (p1 : List MemPlace) (o1 : Value.okWide Tryz.prog W .any b1 22 v1) (h1 : DataW.Trod enc Tryz.prog W 0 sp1 held1 22 v1 d1 p1)
    (v2 : Value) (d2 : DataW H) (p2 : List MemPlace) (o2 : Value.okWide Tryz.prog W .any b2 23 v2) (h2 : DataW.Trod enc Tryz.prog W 0 sp2 held2 23 v2 d2 p2) (so : Bool) :
    Calls Tryz.prog 3 #[v1, v2, .bool so] W fun e w' => e = .returned (.bool true) ∧ Below W.heap.size W w' := by
  obtain ⟨l, ht, hll⟩ := open_defs o1 h1
  obtain ⟨ss, hs, hsl, hcp⟩ := open_textsC o2 h2
  exact fnNamesVisited_law v1 v2 so l ss W ht hll hs hsl hcp
end Go.Proofs.YtmmkebdaijmpiaaGreat
