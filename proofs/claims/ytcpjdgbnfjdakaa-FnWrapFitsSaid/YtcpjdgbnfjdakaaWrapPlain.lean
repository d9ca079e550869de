/- Plain words for the wrapping of texts: the last byte of a text, ahead of a place, for which something holds. No program here. -/
import GoSem.Core.Value
namespace Go.Proofs.Ytcpjdgbnfjdakaa

/-- The last place below k whose byte has p; -1: there is none. -/
def lastFrom (p : UInt8 → Bool) (s : ByteArray) : Nat → Int
  | 0 => -1
  | k + 1 => if h : k < s.size then (if p s[k] = true then (k : Int) else lastFrom p s k) else lastFrom p s k

theorem lastFrom_ge (p : UInt8 → Bool) (s : ByteArray) (k : Nat) : -1 ≤ lastFrom p s k := by
  induction k with
  | zero => exact Int.le_refl _
  | succ k ih => unfold lastFrom; split <;> (try split) <;> omega

theorem lastFrom_lt (p : UInt8 → Bool) (s : ByteArray) (k : Nat) : lastFrom p s k < k := by
  induction k with
  | zero => show (-1 : Int) < 0; omega
  | succ k ih => unfold lastFrom; split <;> (try split) <;> omega

theorem lastFrom_yes (p : UInt8 → Bool) (s : ByteArray) (k : Nat) (h : k < s.size) (hp : p s[k] = true) : lastFrom p s (k + 1) = k := by
  rw [lastFrom, dif_pos h, if_pos hp]

theorem lastFrom_no (p : UInt8 → Bool) (s : ByteArray) (k : Nat) (h : k < s.size) (hp : p s[k] = false) : lastFrom p s (k + 1) = lastFrom p s k := by
  rw [lastFrom, dif_pos h, if_neg (by simp [hp])]


theorem lastFrom_congr (p q : UInt8 → Bool) (s t : ByteArray) (k : Nat) (hs : k ≤ s.size) (ht : k ≤ t.size) (h : ∀ i (a : i < s.size) (b : i < t.size), i < k → p s[i] = q t[i]) : lastFrom p s k = lastFrom q t k := by
  induction k with
  | zero => rfl
  | succ k ih =>
    have hk := h k (by omega) (by omega) (by omega)
    have ih' := ih (by omega) (by omega) (fun i a b c => h i a b (by omega))
    rw [lastFrom, lastFrom, dif_pos (show k < s.size by omega), dif_pos (show k < t.size by omega), hk, ih']

theorem lastFrom_extract (p : UInt8 → Bool) (s : ByteArray) (n : Nat) (hn : n ≤ s.size) : lastFrom p (s.extract 0 n) n = lastFrom p s n := by
  have hsz : (s.extract 0 n).size = n := by rw [ByteArray.size_extract]; omega
  refine lastFrom_congr p p _ _ n (by omega) hn fun i a b c => ?_
  rw [ByteArray.getElem_extract]
  simp

theorem lastFrom_mono (p q : UInt8 → Bool) (s : ByteArray) (k : Nat) (h : ∀ b, p b = true → q b = true) : lastFrom p s k ≤ lastFrom q s k := by
  induction k with
  | zero => exact Int.le_refl _
  | succ k ih =>
    rw [lastFrom, lastFrom]
    split
    · rename_i hk
      by_cases hp : p s[k] = true
      · rw [if_pos hp, if_pos (h _ hp)]; exact Int.le_refl _
      · rw [if_neg hp]
        have := lastFrom_lt p s k
        split <;> omega
    · exact ih

/-- The same from the second byte on; 0: there is none. -/
def lastNat (p : UInt8 → Bool) (s : ByteArray) (k : Nat) : Nat := (lastFrom p s k).toNat
theorem lastNat_yes (p : UInt8 → Bool) (s : ByteArray) (k : Nat) (h : k < s.size) (hp : p s[k] = true) : lastNat p s (k + 1) = k := by
  rw [lastNat, lastFrom_yes p s k h hp]; omega
theorem lastNat_no (p : UInt8 → Bool) (s : ByteArray) (k : Nat) (h : k < s.size) (hp : p s[k] = false) : lastNat p s (k + 1) = lastNat p s k := by
  rw [lastNat, lastFrom_no p s k h hp, lastNat]
theorem lastNat_one (p : UInt8 → Bool) (s : ByteArray) : lastNat p s 1 = 0 := by
  have := lastFrom_lt p s 1
  rw [lastNat]; omega
theorem lastNat_le (p : UInt8 → Bool) (s : ByteArray) (k : Nat) : lastNat p s k ≤ k := by
  have := lastFrom_lt p s k
  rw [lastNat]; omega
theorem lastNat_lt (p : UInt8 → Bool) (s : ByteArray) (k : Nat) (h : 0 < lastNat p s k) : lastNat p s k < k := by
  have := lastFrom_lt p s k
  rw [lastNat] at *; omega
theorem lastNat_zero (p : UInt8 → Bool) (s : ByteArray) : lastNat p s 0 = 0 := rfl

/-- The blanks at which a line may be broken. -/
def isBlank (b : UInt8) : Bool := b == 32 || b == 9 || b == 10
def isFeed (b : UInt8) : Bool := b == 10

/-- A text cut at a byte. -/
def cutAt (s : ByteArray) (i : Int) : ByteArray × ByteArray := (s.extract 0 i.toNat, s.extract (i + 1).toNat s.size)

/-- The first line of a text and what is left. -/
def wrapNF (n slop : Nat) (s : ByteArray) : ByteArray × ByteArray :=
  if s.size < n + slop then (s, ⟨#[]⟩) else
  if lastFrom isBlank s n ≤ 0 then (s, ⟨#[]⟩) else
  if 0 < lastFrom isFeed s n then cutAt s (lastFrom isFeed s n) else cutAt s (lastFrom isBlank s n)

theorem cutAt_toNat (s : ByteArray) (x : Int) (h : 0 < x) : cutAt s x = (s.extract 0 x.toNat, s.extract (x.toNat + 1) s.size) := by
  rw [cutAt, show (x + 1).toNat = x.toNat + 1 by omega]

theorem wrapNF_nat (n slop : Nat) (s : ByteArray) (h : ¬ s.size < n + slop) : wrapNF n slop s = if lastNat isBlank s n = 0 then (s, ⟨#[]⟩) else
    if 0 < lastNat isFeed s n then (s.extract 0 (lastNat isFeed s n), s.extract (lastNat isFeed s n + 1) s.size) else (s.extract 0 (lastNat isBlank s n), s.extract (lastNat isBlank s n + 1) s.size) := by
  rw [wrapNF, if_neg h, lastNat, lastNat]
  by_cases c1 : lastFrom isBlank s n ≤ 0
  · rw [if_pos c1, if_pos (show (lastFrom isBlank s n).toNat = 0 by omega)]
  · rw [if_neg c1, if_neg (show ¬ (lastFrom isBlank s n).toNat = 0 by omega)]
    by_cases c2 : 0 < lastFrom isFeed s n
    · rw [if_pos c2, if_pos (show 0 < (lastFrom isFeed s n).toNat by omega), cutAt_toNat _ _ c2]
    · rw [if_neg c2, if_neg (show ¬ 0 < (lastFrom isFeed s n).toNat by omega), cutAt_toNat _ _ (by omega)]

end Go.Proofs.Ytcpjdgbnfjdakaa
