/- What the maps of a set of flags hold is what the plain search finds. No program here. -/
import Derived.Test.YtcpjdgbnfjdakaaMaps
import Derived.Test.YtcpjdgbnfjdakaaParsePlain
namespace Go.Proofs.Ytcpjdgbnfjdakaa
set_option linter.unusedVariables false
set_option linter.unusedSimpArgs false

theorem eqB_eq (a b : ByteArray) : eqB a b = decide (a = b) := toList_beq a b
theorem eqB_comm (a b : ByteArray) : eqB a b = eqB b a := by
  rw [eqB_eq, eqB_eq]; congr 1; exact propext eq_comm

theorem findAt_ge {α : Type} (p : α → Bool) : ∀ (l : List α) (k i : Nat), findAt p l k = some i → k ≤ i ∧ i < k + l.length
  | [], k, i, h => by simp [findAt] at h
  | x :: l, k, i, h => by
    rw [findAt] at h
    split at h
    · cases h; simp
    · have := findAt_ge p l (k + 1) i h; simp; omega

theorem findAt_congr {α β : Type} (p : α → Bool) (q : β → Bool) : ∀ (l : List α) (m : List β) (k : Nat), l.map p = m.map q → findAt p l k = findAt q m k
  | [], [], k, _ => rfl
  | [], y :: m, k, h => by simp at h
  | x :: l, [], k, h => by simp at h
  | x :: l, y :: m, k, h => by
    simp only [List.map_cons, List.cons.injEq] at h
    rw [findAt, findAt, h.1, findAt_congr p q l m (k + 1) h.2]

theorem findAt_sat {α : Type} (p : α → Bool) : ∀ (l : List α) (k i : Nat), findAt p l k = some i → ∃ x, l[i - k]? = some x ∧ p x = true
  | [], k, i, h => by simp [findAt] at h
  | x :: l, k, i, h => by
    rw [findAt] at h
    split at h
    · rename_i c; cases h; exact ⟨x, by simp, c⟩
    · have h1 := findAt_ge p l (k + 1) i h
      obtain ⟨y, h2, h3⟩ := findAt_sat p l (k + 1) i h
      exact ⟨y, by rw [show i - k = (i - (k + 1)) + 1 by omega]; simpa using h2, h3⟩

theorem findAt_none {α : Type} (p : α → Bool) : ∀ (l : List α) (k : Nat), findAt p l k = none → ∀ x ∈ l, p x = false
  | [], k, _, x, hx => by simp at hx
  | y :: l, k, h, x, hx => by
    rw [findAt] at h
    split at h
    · cases h
    · rename_i c
      rcases List.mem_cons.1 hx with rfl | hx
      · simpa using c
      · exact findAt_none p l (k + 1) h x hx

/-- A look-up in a map of entries made of a list. -/
theorem mapFind_map {κ α : Type} [DecidableEq κ] (f : α → κ) (g : α → Value) (key : κ) : ∀ (l : List α) (k : Nat),
    mapFind key (l.map fun r => (f r, g r)) k = (findAt (fun r => decide (key = f r)) l k).bind fun i => (l[i - k]?).map fun r => (i, g r)
  | [], k => rfl
  | x :: l, k => by
    rw [List.map_cons, mapFind, findAt]
    by_cases c : key = f x
    · simp [c]
    · simp only [c, if_false, decide_false, Bool.false_eq_true]
      rw [mapFind_map f g key l (k + 1)]
      cases h : findAt (fun r => decide (key = f r)) l (k + 1) with
      | none => rfl
      | some i =>
        have := findAt_ge _ l (k + 1) i h
        simp only [Option.bind_some]
        rw [show i - k = (i - (k + 1)) + 1 by omega, List.getElem?_cons_succ]

/-- A look-up in a map of entries that some of a list have. -/
theorem mapFind_filterMap {κ α : Type} [DecidableEq κ] (f : α → Option κ) (g : α → Value) (key : κ) : ∀ (l : List α) (k j : Nat),
    (mapFind key (l.filterMap fun r => (f r).map fun c => (c, g r)) j).map (·.2) = (findAt (fun r => f r == some key) l k).bind fun i => (l[i - k]?).map g
  | [], k, j => rfl
  | x :: l, k, j => by
    rw [findAt]
    cases hx : f x with
    | none =>
      rw [List.filterMap_cons_none (by simp [hx])]
      simp only [show (none == some key) = false from rfl, Bool.false_eq_true, if_false]
      rw [mapFind_filterMap f g key l (k + 1) j]
      cases h : findAt (fun r => f r == some key) l (k + 1) with
      | none => rfl
      | some i =>
        have := findAt_ge _ l (k + 1) i h
        simp only [Option.bind_some]
        rw [show i - k = (i - (k + 1)) + 1 by omega, List.getElem?_cons_succ]
    | some c =>
      rw [List.filterMap_cons_some (b := (c, g x)) (by simp [hx]), mapFind]
      by_cases e : key = c
      · subst e
        simp
      · have e' : (some c == some key) = false := by simp [Ne.symm e]
        rw [if_neg e, e']
        simp only [Bool.false_eq_true, if_false]
        rw [mapFind_filterMap f g key l (k + 1) (j + 1)]
        cases h : findAt (fun r => f r == some key) l (k + 1) with
        | none => rfl
        | some i =>
          have := findAt_ge _ l (k + 1) i h
          simp only [Option.bind_some]
          rw [show i - k = (i - (k + 1)) + 1 by omega, List.getElem?_cons_succ]

/-- A name that is translated is translated to itself. -/
theorem foldB_idem (lo da : Bool) (b : UInt8) : foldB lo da (foldB lo da b) = foldB lo da b := by
  have h : ∀ n : Fin 256, foldB lo da (foldB lo da (UInt8.ofNat n.val)) = foldB lo da (UInt8.ofNat n.val) := by
    cases lo <;> cases da <;> decide +kernel
  have e : UInt8.ofNat b.toNat = b := by simp
  have := h ⟨b.toNat, b.toNat_lt⟩
  simpa only [e] using this
theorem foldG_idem (lo da : Bool) (s : ByteArray) : foldG lo da (foldG lo da s) = foldG lo da s := by
  unfold foldG
  simp [foldB_idem]
theorem size_foldG (lo da : Bool) (s : ByteArray) : (foldG lo da s).size = s.size := by
  show ((s.data.toList.map (foldB lo da)).toArray).size = s.data.size
  simp
end Go.Proofs.Ytcpjdgbnfjdakaa
