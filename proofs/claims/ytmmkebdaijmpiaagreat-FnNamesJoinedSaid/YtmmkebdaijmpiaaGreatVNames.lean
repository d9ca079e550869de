/- The reference's SortNames: texts in rising order, by insertion. -/
import Derived.Test.YtmmkebdaijmpiaaGreatVBelow
import Derived.Test.YtmmkebdaijmpiaaGreatVTold
import Derived.Laws.CopyOwn
namespace Go.Proofs.YtmmkebdaijmpiaaGreat
open Go.RowKit Go.Sort
set_option linter.unusedVariables false
set_option linter.unusedSimpArgs false

/-- x is put at place k. -/
def insAt (x : ByteArray) (k : Nat) (out : List ByteArray) : List ByteArray := out.take k ++ x :: out.drop k
theorem insAt_length (x : ByteArray) (k : Nat) (out : List ByteArray) : (insAt x k out).length = out.length + 1 := by
  simp [insAt]; omega
theorem insAt_perm (x : ByteArray) (k : Nat) (out : List ByteArray) : (insAt x k out).Perm (out ++ [x]) := by
  unfold insAt
  have h1 : (out.take k ++ x :: out.drop k).Perm (x :: (out.take k ++ out.drop k)) := List.perm_middle
  rw [List.take_append_drop] at h1
  exact h1.trans (List.perm_append_singleton x out).symm
theorem insAt_sorted {x : ByteArray} {k : Nat} {out : List ByteArray} (hs : out.Pairwise fun a b => ltB b a = false) (hk : k ≤ out.length) (h1 : ∀ j (hj : j < out.length), j < k → ltB x out[j] = false) (h2 : ∀ h : k < out.length, ltB x out[k] = true) : (insAt x k out).Pairwise fun a b => ltB b a = false := by
  unfold insAt
  have hpw := hs
  rw [← List.take_append_drop k out, List.pairwise_append] at hpw
  obtain ⟨p1, p2, p3⟩ := hpw
  rw [List.pairwise_append, List.pairwise_cons]
  refine ⟨p1, ⟨fun b hb => ?_, p2⟩, fun a ha b hb => ?_⟩
  · have hlt : k < out.length := by
      rcases Nat.lt_or_ge k out.length with h | h
      · exact h
      · rw [List.drop_of_length_le h] at hb; simp at hb
    have hx := h2 hlt
    rw [List.drop_eq_getElem_cons hlt] at hb p2
    rw [List.pairwise_cons] at p2
    rcases List.mem_cons.1 hb with rfl | hb
    · cases hq : ltB out[k] x with
      | false => rfl
      | true => have := ltB_swo.trans _ _ _ hx hq; rw [ltB_swo.irrefl] at this; cases this
    · have h3 := p2.1 b hb
      cases hq : ltB b x with
      | false => rfl
      | true => have := ltB_swo.trans _ _ _ hq hx; rw [h3] at this; cases this
  · rcases List.mem_cons.1 hb with rfl | hb
    · obtain ⟨j, hj, rfl⟩ := List.getElem_of_mem ha
      rw [List.length_take] at hj
      rw [List.getElem_take]
      exact h1 j (by omega) (by omega)
    · exact p3 a ha b hb
/-- What the row holds behind the copy and the store. -/
theorem row_ins (cur : List Value) (out : List ByteArray) (x : ByteArray) (k : Nat) (hk : k ≤ out.length) (hcur : cur.take (out.length + 1) = out.map Value.string ++ [.string ⟨#[]⟩]) :
    ((splice cur (k + 1) ((out.drop k).map Value.string)).set k (.string x)).take (out.length + 1) = (insAt x k out).map Value.string := by
  have hl : out.length + 1 ≤ cur.length := by
    have := congrArg List.length hcur
    simp at this
    omega
  have hat : ∀ j (hj : j < out.length), cur[j]? = some (.string out[j]) := fun j hj => by
    have := congrArg (fun l => l[j]?) hcur
    simp only [List.getElem?_take, if_pos (show j < out.length + 1 by omega)] at this
    rw [this, List.getElem?_append_left (by simpa using hj)]
    simp [hj]
  apply List.ext_getElem?
  intro j
  rw [List.getElem?_take]
  unfold splice insAt
  by_cases h1 : j < out.length + 1
  · rw [if_pos h1, List.getElem?_set]
    by_cases h2 : k = j
    · subst h2
      rw [if_pos rfl, if_pos (by simp; omega)]
      simp [List.getElem?_append_right, Nat.min_eq_left hk]
    · rw [if_neg h2]
      by_cases h3 : j < k
      · rw [List.getElem?_append_left (by simp; omega), List.getElem?_take, if_pos (by omega), hat j (by omega), List.map_append, List.getElem?_append_left (by simp; omega)]
        simp [List.getElem?_take, h3, show j < out.length by omega]
      · rw [List.getElem?_append_right (by simp; omega), List.getElem?_append_left (by simp; omega), List.map_append, List.getElem?_append_right (by simp; omega)]
        have e1 : (cur.take (k + 1)).length = k + 1 := by simp; omega
        have e2 : ((out.take k).map Value.string).length = k := by simp; omega
        rw [e1, e2, List.map_cons, show j - k = (j - (k + 1)) + 1 by omega, List.getElem?_cons_succ]
  · rw [if_neg h1, List.getElem?_eq_none]
    simp
    omega
end Go.Proofs.YtmmkebdaijmpiaaGreat
