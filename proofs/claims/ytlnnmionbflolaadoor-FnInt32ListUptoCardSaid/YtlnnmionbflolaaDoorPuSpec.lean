/- The reference's numerals, in plain Lean: prefixes, digits; what they come to is what strconv says. -/
import Derived.Test.YtlnnmionbflolaaDoorPu0
namespace Go.Proofs.YtlnnmionbflolaaDoor
set_option linter.unusedVariables false
set_option linter.unusedSimpArgs false

theorem dig0_ways (c : UInt8) : (48 ≤ c.toNat ∧ c.toNat ≤ 57 ∧ dig0 c = c.toNat - 48) ∨ (97 ≤ c.toNat ∧ c.toNat ≤ 122 ∧ dig0 c = c.toNat - 97 + 10) ∨ (65 ≤ c.toNat ∧ c.toNat ≤ 90 ∧ dig0 c = c.toNat - 65 + 10) ∨ ((c.toNat < 48 ∨ 57 < c.toNat) ∧ (c.toNat < 97 ∨ 122 < c.toNat) ∧ (c.toNat < 65 ∨ 90 < c.toNat) ∧ dig0 c = 255) := by
  have hl := lw_eq c
  have hc := c.toNat_lt
  unfold dig0
  rw [hl]
  clear hl
  generalize c.toNat = x at *
  by_cases h1 : 48 ≤ x ∧ x ≤ 57
  · rw [if_pos h1]; omega
  · rw [if_neg h1]
    by_cases h2 : (64 ≤ x ∧ x < 96) ∨ x < 32 ∨ (128 ≤ x ∧ x < 160) ∨ (192 ≤ x ∧ x < 224)
    · rw [if_pos h2]
      split <;> omega
    · rw [if_neg h2]
      split <;> omega
/-- The prefix that the reference takes off. -/
def pre29 : List UInt8 → Nat × List UInt8
  | a :: b :: c :: r => if a.toNat = 48 then (if lw b = 120 then (16, c :: r) else if lw b = 98 then (2, c :: r) else if lw b = 111 then (8, c :: r) else (8, b :: c :: r)) else (10, a :: b :: c :: r)
  | a :: b :: [] => if a.toNat = 48 then (8, [b]) else (10, [a, b])
  | l => (10, l)
/-- The digits that the reference takes; none: a byte is no digit. -/
def dgs (B M : Nat) : Nat → Bool → List UInt8 → Option (Nat × Bool)
  | n, over, [] => some (n, over)
  | n, over, c :: r => if dig0 c < B then (if over || decide (n * B + dig0 c > M) then dgs B M n true r else dgs B M (n * B + dig0 c) over r) else none
def dend : Option (Nat × Bool) → Nat × Nat
  | none => (0, 2)
  | some (n, over) => if over then (0, 2) else (n, 1)
def dres (B M : Nat) (l : List UInt8) : Nat × Nat := if l = [] then (0, 2) else dend (dgs B M 0 false l)
theorem dgs_over {B M : Nat} : ∀ {l : List UInt8} {n m : Nat} {o : Bool}, dgs B M n true l = some (m, o) → o = true
  | [], n, m, o, h => by simp [dgs] at h; exact h.2
  | c :: r, n, m, o, h => by
    simp only [dgs, Bool.true_or, if_true] at h
    split at h
    · exact dgs_over h
    · cases h
theorem go0_of_dgs {B M : Nat} (hB : B ≤ 36) : ∀ {l : List UInt8} {n m : Nat} {us : Bool}, dgs B M n false l = some (m, false) → go0 B M n us l = .ok m us
  | [], n, m, us, h => by simp [dgs] at h; simp [go0, h]
  | c :: r, n, m, us, h => by
    simp only [dgs] at h
    split at h
    · rename_i hd
      have h95 : c.toNat ≠ 95 := fun e => by
        have := dig0_ways c
        omega
      split at h
      · have := dgs_over h
        cases this
      · rename_i hov
        simp only [Bool.false_or, decide_eq_true_eq] at hov
        rw [go0, if_neg h95, if_neg (by omega), if_neg hov]
        exact go0_of_dgs hB h
    · cases h
theorem dres_fits {B M : Nat} {l : List UInt8} {m : Nat} (hB : B ≤ 36) (h : dres B M l = (m, 1)) : l ≠ [] ∧ ∀ us, go0 B M 0 us l = .ok m us := by
  unfold dres at h
  split at h
  · cases h
  · rename_i hl
    refine ⟨hl, fun us => ?_⟩
    cases he : dgs B M 0 false l with
    | none => rw [he] at h; cases h
    | some x =>
      obtain ⟨n, over⟩ := x
      rw [he] at h
      simp only [dend] at h
      split at h
      · cases h
      · rename_i ho
        cases h
        cases over with
        | true => exact absurd rfl ho
        | false => exact go0_of_dgs hB he
theorem dres_two (B M : Nat) (l : List UInt8) : (dres B M l).2 = 1 ∨ (dres B M l).2 = 2 := by
  unfold dres
  split
  · exact .inr rfl
  · cases dgs B M 0 false l with
    | none => exact .inr rfl
    | some x =>
      obtain ⟨n, o⟩ := x
      cases o
      · exact .inl rfl
      · exact .inr rfl
theorem pre29_le (l : List UInt8) : (pre29 l).1 ≤ 36 := by
  unfold pre29
  repeat' split
  all_goals omega
theorem pre_same {l : List UInt8} (h : ∀ a, l = [a] → a.toNat ≠ 48) : pre29 l = pre0 l := by
  match l with
  | [] => rfl
  | [a] => simp [pre29, pre0, h a rfl]
  | [a, b] =>
    simp only [pre29, pre0]
  | a :: b :: c :: r =>
    simp only [pre29, pre0]
    by_cases h1 : a.toNat = 48
    · rw [if_pos h1, if_pos h1]
      by_cases q1 : lw b = 98
      · rw [if_neg (by omega), if_pos q1, if_pos q1]
      · by_cases q2 : lw b = 111
        · rw [if_neg (by omega), if_neg q1, if_pos q2, if_neg q1, if_pos q2]
        · by_cases q3 : lw b = 120
          · rw [if_pos q3, if_neg q1, if_neg q2, if_pos q3]
          · rw [if_neg q3, if_neg q1, if_neg q2, if_neg q1, if_neg q2, if_neg q3]
    · rw [if_neg h1, if_neg h1]
theorem pu0_fits {M : Nat} {l : List UInt8} {m : Nat} (h : dres (pre29 l).1 M (pre29 l).2 = (m, 1)) : pu0 M l = .ok m false := by
  obtain ⟨hne, hg⟩ := dres_fits (pre29_le l) h
  by_cases h1 : ∃ a, l = [a] ∧ a.toNat = 48
  · obtain ⟨a, rfl, ha⟩ := h1
    have hd : dig0 a = 0 := by have := dig0_ways a; omega
    have e : pre29 [a] = (10, [a]) := rfl
    rw [e] at hg
    have := hg false
    simp only [go0, ha, hd] at this
    simp at this
    subst this
    simp [pu0, pre0, ha, go0, fin0]
  · have hs := pre_same (l := l) fun a e ha => h1 ⟨a, e, ha⟩
    have hl : l ≠ [] := fun e => by subst e; exact hne rfl
    rw [hs] at hg
    rw [pu0, if_neg hl, hg false]
    rfl
end Go.Proofs.YtlnnmionbflolaaDoor
