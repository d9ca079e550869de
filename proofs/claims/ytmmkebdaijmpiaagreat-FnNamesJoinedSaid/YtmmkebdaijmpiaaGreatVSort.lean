/- sort.StringSlice's Sort over a row of texts of the call's own. -/
import Derived.Test.YtmmkebdaijmpiaaGreatH
import Derived.Test.YtmmkebdaijmpiaaGreatShelfS
import Derived.Sort.LotA
import Derived.Shelf.GgSortMore.SortSort
namespace Go.Proofs.YtmmkebdaijmpiaaGreat
open Go.RowKit Go.Sort
set_option linter.unusedVariables false
set_option linter.unusedSimpArgs false

def ltB (a b : ByteArray) : Bool := Op.bytesLess a.toList b.toList
theorem less_is : ∀ (x y : List UInt8), Op.bytesLess x y = decide (x < y)
  | [], [] => by simp [Op.bytesLess]
  | [], b :: y => by simp [Op.bytesLess]
  | a :: x, [] => by simp [Op.bytesLess]
  | a :: x, b :: y => by
    rw [Op.bytesLess, less_is x y, Bool.eq_iff_iff]
    simp [List.cons_lt_cons_iff]
theorem bytes_ext {a b : ByteArray} (h : a.toList = b.toList) : a = b := by
  rw [ByteArray.toList_eq, ByteArray.toList_eq] at h
  exact ByteArray.ext (Array.toList_inj.1 h)
theorem ltB_swo : SWO ltB where
  irrefl x := by simp [ltB, less_is, List.lt_irrefl]
  trans x y z h1 h2 := by simp only [ltB, less_is, decide_eq_true_eq] at *; exact List.lt_trans h1 h2
  ntrans x y z h1 h2 := by
    simp only [ltB, less_is, decide_eq_false_iff_not, List.not_lt] at *
    exact List.le_trans h2 h1
theorem ltB_eq {x y : ByteArray} (h1 : ltB x y = false) (h2 : ltB y x = false) : x = y := by
  simp only [ltB, less_is, decide_eq_false_iff_not, List.not_lt] at h1 h2
  exact bytes_ext (List.le_antisymm h2 h1)

section
variable (A : Nat) (n : Nat)
def rvS : Value := .slice (some ⟨A, 0, none⟩) n n
theorem reachN : Reaches Tryz.prog 127 (rvS A n) "Len" 123 := ⟨fun _ => by kernel_rfl, fun _ _ => by simp [go_sem]⟩
theorem reachL : Reaches Tryz.prog 127 (rvS A n) "Less" 124 := ⟨fun _ => by kernel_rfl, fun _ _ => by simp [go_sem]⟩
theorem reachS : Reaches Tryz.prog 127 (rvS A n) "Swap" 125 := ⟨fun _ => by kernel_rfl, fun _ _ => by simp [go_sem]⟩
theorem lenS (hn : n ≤ 1048576) (w : World) : LenM Tryz.prog 123 (rvS A n) n w := by
  unfold LenM rvS
  go_enter Tryz.func123, Tryz.ntmps123
  go_wp2_with fail
  go_ret
  exact ⟨rfl, 0, rfl⟩
set_option maxRecDepth 100000 in
theorem lessS (hn : n ≤ 1048576) (w : World) (hA : A < w.heap.size) (d0 : Array ByteArray) (hs : d0.size = n) (h0 : Holds Value.string w A 0 d0) : LessM Tryz.prog 124 (rvS A n) Value.string ltB A 0 n w := by
  intro m os dk hdk i j hi hj
  have hh := holds_sortWorld Value.string w A 0 m d0 dk os hA h0 (by omega)
  generalize sortWorld Value.string w A 0 m dk os = W at *
  have ci := (hh i (by omega)).1
  have cj := (hh j (by omega)).1
  simp only [Nat.zero_add] at ci cj
  generalize dk[i]! = x at *
  generalize dk[j]! = y at *
  clear hh h0 hA hdk hs
  unfold rvS ltB
  go_enter Tryz.func124, Tryz.ntmps124
  go_wp2_with fail
  go_quiet (fail)
  go_wp2_with fail
  go_ret
  exact ⟨rfl, _, rfl⟩
theorem set_cell {W : World} {A i j : Nat} {x y v : Value} (ci : W.cell? ⟨A, i, none⟩ = some x) (cj : W.cell? ⟨A, j, none⟩ = some y) : (W.setCell ⟨A, i, none⟩ v).cell? ⟨A, j, none⟩ = some (if i = j then v else y) := by
  obtain ⟨c, e, fr, hb, hc⟩ := cells_of_cell? ci
  have hs := heap_set hb i v
  simp only [World.cell?, hb, Option.isSome_none, Bool.false_eq_true, if_false] at cj
  simp only [World.cell?, hs, Option.isSome_none, Bool.false_eq_true, if_false, Array.getElem?_setIfInBounds]
  have hi : i < c.size := by
    rcases Nat.lt_or_ge i c.size with h | h
    · exact h
    · rw [Array.getElem?_eq_none h] at hc; cases hc
  by_cases e : i = j
  · simp [e, e ▸ hi]
  · simp [e, cj]
theorem set_froz {W : World} {A i j : Nat} {x v : Value} (ci : W.cell? ⟨A, i, none⟩ = some x) (zj : W.frozen? ⟨A, j, none⟩ = false) : (W.setCell ⟨A, i, none⟩ v).frozen? ⟨A, j, none⟩ = false := by
  obtain ⟨c, e, fr, hb, hc⟩ := cells_of_cell? ci
  have hs := heap_set hb i v
  simp only [World.frozen?, hb] at zj
  simp only [World.frozen?, hs]
  exact zj
set_option maxRecDepth 100000 in
set_option maxHeartbeats 1600000 in
theorem swapS (hn : n ≤ 1048576) : SwapM Tryz.prog 125 (rvS A n) Value.string A 0 n := by
  intro W dk hh hdk i j hi hj
  have ci := (hh i (by omega)).1
  have cj := (hh j (by omega)).1
  have zi := (hh i (by omega)).2
  have zj := (hh j (by omega)).2
  have lA := World.block_lt_of_cell? W _ ci
  simp only [Nat.zero_add] at ci cj zi zj ⊢
  generalize dk[i]! = x at *
  generalize dk[j]! = y at *
  clear hh hdk
  by_cases hij : i = j
  · subst hij
    have hxy : x = y := by rw [ci] at cj; cases cj; rfl
    subst hxy
    have c2 : (W.setCell ⟨A, i, none⟩ (.string x)).cell? ⟨A, i, none⟩ = some (.string x) := by rw [set_cell ci ci, if_pos rfl]
    have z2 : (W.setCell ⟨A, i, none⟩ (.string x)).frozen? ⟨A, i, none⟩ = false := set_froz ci zi
    unfold rvS
    go_enter Tryz.func125, Tryz.ntmps125
    go_region_with (fail)
    all_goals (go_end0; exact ⟨rfl, 1, rfl⟩)
  · have c2 : (W.setCell ⟨A, i, none⟩ (.string y)).cell? ⟨A, j, none⟩ = some (.string y) := by rw [set_cell ci cj, if_neg hij]
    have z2 : (W.setCell ⟨A, i, none⟩ (.string y)).frozen? ⟨A, j, none⟩ = false := set_froz ci zj
    unfold rvS
    go_enter Tryz.func125, Tryz.ntmps125
    go_region_with (fail)
    all_goals (go_end0; exact ⟨rfl, 1, rfl⟩)
end

/-- Texts in rising order. -/
def srt (l : List ByteArray) : List ByteArray := l.mergeSort fun x y => !ltB y x
theorem ltB_trans' (a b c : ByteArray) : (!ltB b a) = true → (!ltB c b) = true → (!ltB c a) = true := fun h1 h2 => by
  rw [Bool.not_eq_true'] at *
  exact ltB_swo.ntrans _ _ _ h2 h1
theorem ltB_total (a b : ByteArray) : ((!ltB b a) || !ltB a b) = true := by
  cases h : ltB b a with
  | false => rfl
  | true =>
    cases h2 : ltB a b with
    | false => rfl
    | true => have := ltB_swo.trans _ _ _ h h2; rw [ltB_swo.irrefl] at this; cases this
theorem srt_perm (l : List ByteArray) : (srt l).Perm l := List.mergeSort_perm l _
theorem srt_length (l : List ByteArray) : (srt l).length = l.length := (srt_perm l).length_eq
theorem srt_of_perm {l m : List ByteArray} (h : l.Perm m) : srt l = srt m := by
  refine List.Perm.eq_of_pairwise (le := fun a b => (!ltB b a) = true) (fun a b _ _ h1 h2 => ?_) (List.pairwise_mergeSort ltB_trans' ltB_total l) (List.pairwise_mergeSort ltB_trans' ltB_total m) (((List.mergeSort_perm l _).trans h).trans (List.mergeSort_perm m _).symm)
  rw [Bool.not_eq_true'] at h1 h2
  exact ltB_eq h2 h1
/-- What is sorted is the sorted one. -/
theorem srt_eq {l m : List ByteArray} (h : m.Perm l) (hs : m.Pairwise fun a b => ltB b a = false) : m = srt l := by
  refine List.Perm.eq_of_pairwise (le := fun a b => (!ltB b a) = true) (fun a b _ _ h1 h2 => ?_) (hs.imp fun {a b} q => by rw [q]; rfl) (List.pairwise_mergeSort ltB_trans' ltB_total l) (h.trans (List.mergeSort_perm l _).symm)
  rw [Bool.not_eq_true'] at h1 h2
  exact ltB_eq h2 h1
theorem holds_list {w : World} {A : Nat} {T : TypeId} (l : List ByteArray) (h : w.heap[A]? = some (.cells (l.map Value.string).toArray T (0, 0))) : Holds Value.string w A 0 l.toArray := by
  intro j hj
  have hj' : j < l.length := by simpa using hj
  refine ⟨?_, frozen_of h _⟩
  refine cell_of h _ _ ?_
  rw [Nat.zero_add]
  simp [hj']
theorem row_sorted {w : World} {A q : Nat} {T : TypeId} {os : Array Obj} (l m : List ByteArray) (hl : m.length = l.length) (h : w.heap[A]? = some (.cells (l.map Value.string).toArray T (0, 0))) :
    (grow (putRow Value.string (Sort.ahead w q) A 0 m.toArray) os).heap[A]? = some (.cells (m.map Value.string).toArray T (0, 0)) ∧ w.grownBy (grow (putRow Value.string (Sort.ahead w q) A 0 m.toArray) os) (some A) := by
  have hA := lt_of_block h
  refine ⟨?_, rfl, rfl, rfl, by simp, fun k hk hne => ?_⟩
  · rw [heap_grow_old _ _ (by simpa using hA)]
    simp only [putRow, mapBlock, Sort.ahead, Array.getElem?_modify, h, if_true, Option.map_some, onCells]
    congr 2
    apply Array.ext_getElem?
    intro k
    simp only [putCells, Array.getElem?_mapIdx, Nat.zero_le, true_and, Nat.zero_add, List.size_toArray, Nat.sub_zero, List.getElem?_toArray, List.getElem?_map]
    by_cases hk : k < l.length
    · have hk' : k < m.length := by omega
      simp [hk, hk']
    · rw [List.getElem?_eq_none (by omega), List.getElem?_eq_none (by omega)]; rfl
  · rw [heap_grow_old _ _ (by simpa using hk)]
    have : A ≠ k := fun e => hne (by rw [e])
    simp [putRow, mapBlock, Sort.ahead, Array.getElem?_modify, this]
theorem strSort_any (A : Nat) (l : List ByteArray) (w : World) {T : TypeId} (h : w.heap[A]? = some (.cells (l.map Value.string).toArray T (0, 0))) (hn : l.length ≤ 1048576) :
    Calls Tryz.prog 67 #[.slice (some ⟨A, 0, none⟩) l.length l.length] w fun e w' => e = .returned (.tuple #[]) ∧ w.grownBy w' (some A) ∧ w'.heap[A]? = some (.cells ((srt l).map Value.string).toArray T (0, 0)) := by
  have C : Calls Tryz.prog 77 #[.iface 127 (rvS A l.length)] w fun e w' => e = .returned (.tuple #[]) ∧ w.grownBy w' (some A) ∧ w'.heap[A]? = some (.cells ((srt l).map Value.string).toArray T (0, 0)) := by
    by_cases h2 : l.length ≤ 1
    · refine (Any.sort_Sort_tiny lays11 127 (rvS A l.length) 123 (reachN A l.length) l.length h2 w (lenS A l.length hn w)).mono ?_
      rintro e w' ⟨rfl, q, rfl⟩
      refine ⟨rfl, ⟨rfl, rfl, rfl, Nat.le_refl _, fun _ _ _ => rfl⟩, ?_⟩
      have : srt l = l := by
        refine (srt_eq (List.Perm.refl _) ?_).symm
        match l, h2 with
        | [], _ => exact List.Pairwise.nil
        | [x], _ => exact List.pairwise_singleton _ _
      rw [this]
      exact h
    · have hsz : l.toArray.size = l.length := by simp
      refine (Any.sort_Sort_sorted lays11 127 (rvS A l.length) 123 124 125 (reachN A l.length) (reachL A l.length) (reachS A l.length) Value.string ltB ltB_swo A 0 l.toArray (by omega) (by omega) w
        (by rw [hsz]; exact lenS A l.length hn w) (by rw [hsz]; exact lessS A l.length hn w (lt_of_block h) l.toArray hsz (holds_list l h)) (by rw [hsz]; exact swapS A l.length hn) (holds_list l h) (lt_of_block h)).mono ?_
      rintro e w' ⟨rfl, d', q, os, hp, hs, rfl⟩
      have hu : d'.toList = srt l := sorted_unique_holds ltB_swo (fun x y h1 h2 => ltB_eq h1 h2) l.toArray d' hp hs
      obtain rfl : d' = (srt l).toArray := by rw [← hu]
      exact ⟨rfl, (row_sorted l (srt l) (srt_length l) h).2, (row_sorted l (srt l) (srt_length l) h).1⟩
  unfold rvS at C
  have C := Lib.hid C
  clear h
  go_enter Tryz.func67, Tryz.ntmps67
  go_wp2_with fail
  refine C.out.mono ?_
  rintro e w1 ⟨rfl, h1, h2⟩
  go_wp2_with fail
  go_end0
  exact ⟨rfl, h1, h2⟩
end Go.Proofs.YtmmkebdaijmpiaaGreat
