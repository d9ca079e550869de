/- Numerals with underscores: the reference and strconv say the same, in plain Lean. -/
import Derived.Test.YtlnnmionbflolaaDoorWo0
import Derived.Test.YtlnnmionbflolaaDoorPi0
namespace Go.Proofs.YtlnnmionbflolaaDoor
set_option linter.unusedVariables false
set_option linter.unusedSimpArgs false

/-- Digits of a base, and underscores. -/
def DU (B : Nat) (r : List UInt8) : Prop := ∀ c ∈ r, c.toNat = 95 ∨ dig0 c < B
theorem dig95 {c : UInt8} (h : c.toNat = 95) : dig0 c = 255 := by
  have := dig0_ways c
  omega
theorem go0_bare {B M : Nat} (hB : B ≤ 36) : ∀ {r : List UInt8} {n m : Nat} {us v : Bool}, go0 B M n us r = .ok m v → DU B r ∧ dgs B M n false (bare r) = some (m, false) ∧ ((∀ c ∈ r, c.toNat ≠ 95) ∨ v = true)
  | [], n, m, us, v, h => by
    simp only [go0] at h
    cases h
    exact ⟨fun c hc => by simp at hc, rfl, .inl fun c hc => by simp at hc⟩
  | c :: r, n, m, us, v, h => by
    by_cases h95 : c.toNat = 95
    · rw [go0, if_pos h95] at h
      obtain ⟨h1, h2, h3⟩ := go0_bare hB h
      refine ⟨fun x hx => ?_, by rw [bare_cons, if_pos h95]; exact h2, .inr ?_⟩
      · rcases List.mem_cons.1 hx with rfl | hx
        · exact .inl h95
        · exact h1 x hx
      · exact go0_us h
    · rw [go0, if_neg h95] at h
      by_cases hd : dig0 c ≥ B
      · rw [if_pos hd] at h; cases h
      · rw [if_neg hd] at h
        by_cases hov : n * B + dig0 c > M
        · rw [if_pos hov] at h; cases h
        · rw [if_neg hov] at h
          obtain ⟨h1, h2, h3⟩ := go0_bare hB h
          refine ⟨fun x hx => ?_, ?_, ?_⟩
          · rcases List.mem_cons.1 hx with rfl | hx
            · exact .inr (by omega)
            · exact h1 x hx
          · rw [bare_cons, if_neg h95, dgs, if_pos (by omega)]
            simp only [Bool.false_or, decide_eq_true_eq, if_neg hov]
            exact h2
          · rcases h3 with h3 | h3
            · left
              intro x hx
              rcases List.mem_cons.1 hx with rfl | hx
              · exact h95
              · exact h3 x hx
            · exact .inr h3
where
  go0_us {B M : Nat} : ∀ {r : List UInt8} {n m : Nat} {v : Bool}, go0 B M n true r = .ok m v → v = true
    | [], n, m, v, h => by simp only [go0] at h; cases h; rfl
    | c :: r, n, m, v, h => by
      simp only [go0] at h
      split at h
      · exact go0_us h
      · split at h
        · cases h
        · split at h
          · cases h
          · exact go0_us h
theorem go0_of_bare {B M : Nat} (hB : B ≤ 36) : ∀ {r : List UInt8} {n m : Nat} {us : Bool}, dgs B M n false (bare r) = some (m, false) → ∃ v, go0 B M n us r = .ok m v
  | [], n, m, us, h => by
    simp [bare, dgs] at h
    exact ⟨us, by rw [go0, h]⟩
  | c :: r, n, m, us, h => by
    rw [bare_cons] at h
    by_cases h95 : c.toNat = 95
    · rw [if_pos h95] at h
      rw [go0, if_pos h95]
      exact go0_of_bare hB h
    · rw [if_neg h95, dgs] at h
      by_cases hd : dig0 c < B
      · rw [if_pos hd] at h
        by_cases hov : n * B + dig0 c > M
        · simp only [Bool.false_or, hov, decide_true, if_true] at h
          have := dgs_over h
          cases this
        · simp only [Bool.false_or, hov, decide_false, Bool.false_eq_true, if_false] at h
          rw [go0, if_neg h95, if_neg (by omega), if_neg hov]
          exact go0_of_bare hB h
      · rw [if_neg hd] at h; cases h

theorem okDig_of {hx : Bool} {c : UInt8} (h : dig0 c < (if hx then 16 else 10)) : okDig hx c = true ∧ c.toNat ≠ 95 ∧ (isDec c || (hx && isHex c)) = true := by
  have hw := dig0_ways c
  have hl := lw_eq c
  unfold okDig isDec isHex
  rw [hl]
  cases hx
  · simp only [Bool.false_eq_true, if_false] at h
    have h1 : 48 ≤ c.toNat ∧ c.toNat ≤ 57 := by omega
    refine ⟨by simp [h1], by omega, by simp [h1]⟩
  · simp only [if_true] at h
    refine ⟨?_, by omega, by simp [h]⟩
    simp only [Bool.true_and, Bool.or_eq_true, Bool.and_eq_true, decide_eq_true_eq]
    split <;> omega
theorem und_dg {hex : Bool} {saw : Nat} {c : UInt8} {r : List UInt8} (h : okDig hex c = true) : undGo hex saw (c :: r) = undGo hex 48 r := by
  simp only [undGo, h, if_true]
theorem und_usc {hex : Bool} {saw : Nat} {c : UInt8} {r : List UInt8} (h : okDig hex c = false) (hc : c.toNat = 95) : undGo hex saw (c :: r) = if saw = 48 then undGo hex 95 r else false := by
  simp only [undGo, h, Bool.false_eq_true, if_false, hc, if_true]
/-- The two ways of looking at underscores, behind a digit and behind an underscore. -/
theorem wo_und {hx bs : Bool} : ∀ (r : List UInt8) (k : Nat), (hx = true → 2 ≤ k) → DU (if hx then 16 else 10) r →
    (∀ p, aheadB hx bs k (some p) = true → woB hx bs k (some p) r = undGo hx 48 r) ∧ (∀ p : UInt8, (behindB hx r && woB hx bs k (some p) r) = undGo hx 95 r)
  | [], k, hk, hr => ⟨fun p hp => rfl, fun p => rfl⟩
  | c :: r, k, hk, hr => by
    have hr' : DU (if hx then 16 else 10) r := fun x hx => hr x (by simp [hx])
    have ih := wo_und (hx := hx) (bs := bs) r (k + 1) (fun h => by have := hk h; omega) hr'
    rcases hr c (by simp) with h95 | hd
    · have hdg := dig95 h95
      have hok : okDig hx c = false := by
        have := lw_eq c
        unfold okDig
        rw [this, h95]
        cases hx <;> simp
      have hb : (isDec c || (hx && isHex c)) = false := by
        unfold isDec isHex
        rw [h95, hdg]
        cases hx <;> simp
      refine ⟨fun p hp => ?_, fun p => ?_⟩
      · rw [woB, if_pos h95, hp, Bool.true_and, und_usc hok h95, if_pos rfl]
        exact ih.2 c
      · rw [und_usc hok h95, if_neg (by decide)]
        simp only [behindB, hb, Bool.false_and]
    · obtain ⟨h1, h2, h3⟩ := okDig_of hd
      have hA : aheadB hx bs (k + 1) (some c) = true := by
        unfold aheadB
        cases hx
        · simp only [Bool.false_and, Bool.or_false] at h3 ⊢
          rw [h3]; rfl
        · have := hk rfl
          have h4 : decide (2 < k + 1) = true := decide_eq_true (by omega)
          simp only [Bool.true_and] at h3 ⊢
          rw [h4, Bool.true_and, h3]; rfl
      refine ⟨fun p hp => ?_, fun p => ?_⟩
      · rw [woB, if_neg h2, Bool.true_and, und_dg h1]
        exact ih.1 c hA
      · rw [woB, if_neg h2, Bool.true_and, und_dg h1, ← ih.1 c hA]
        simp only [behindB, h3, Bool.true_and]

/-- A text that is taken: how it begins. -/
inductive Shape : List UInt8 → Nat → Bool → Bool → List UInt8 → Prop where
  | one (a : UInt8) (h : a.toNat ≠ 48) : Shape [a] 10 false false [a]
  | dec (a b : UInt8) (r : List UInt8) (h : a.toNat ≠ 48) : Shape (a :: b :: r) 10 false false (a :: b :: r)
  | oct (a b : UInt8) (r : List UInt8) (h : a.toNat = 48) (hb : r = [] ∨ (lw b ≠ 98 ∧ lw b ≠ 111 ∧ lw b ≠ 120)) : Shape (a :: b :: r) 8 (decide (lw b = 120)) (decide (10 ≤ dig0 b) && decide (dig0 b < 36)) (b :: r)
  | pre (a b c : UInt8) (r : List UInt8) (B : Nat) (h : a.toNat = 48) (hb : (lw b = 98 ∧ B = 2) ∨ (lw b = 111 ∧ B = 8) ∨ (lw b = 120 ∧ B = 16)) : Shape (a :: b :: c :: r) B (decide (lw b = 120)) true (c :: r)
theorem let_of {b : UInt8} (h : lw b = 98 ∨ lw b = 111 ∨ lw b = 120) : b.toNat ≠ 95 ∧ 10 ≤ dig0 b ∧ dig0 b < 36 ∧ 48 < b.toNat := by
  have hw := dig0_ways b
  have hl := lw_eq b
  have hb := b.toNat_lt
  rw [hl] at h
  split at h <;> omega
theorem shape_of {l : List UInt8} (h0 : l ≠ []) (h1 : ∀ a, l = [a] → a.toNat ≠ 48) : Shape l (pre0 l).1 (hexB l) (baseB l) (pre0 l).2 := by
  match l with
  | [] => exact absurd rfl h0
  | [a] =>
    have := h1 a rfl
    have e : pre0 [a] = (10, [a]) := by simp [pre0, this]
    rw [e]
    exact .one a this
  | [a, b] =>
    by_cases ha : a.toNat = 48
    · have e : pre0 [a, b] = (8, [b]) := by simp [pre0, ha]
      have e1 : hexB [a, b] = decide (lw b = 120) := by simp [hexB, ha]
      have e2 : baseB [a, b] = (decide (10 ≤ dig0 b) && decide (dig0 b < 36)) := by simp [baseB, ha]
      rw [e, e1, e2]
      exact .oct a b [] ha (.inl rfl)
    · have e : pre0 [a, b] = (10, [a, b]) := by simp [pre0, ha]
      have e1 : hexB [a, b] = false := by simp [hexB, ha]
      have e2 : baseB [a, b] = false := by simp [baseB, ha]
      rw [e, e1, e2]
      exact .dec a b [] ha
  | a :: b :: c :: r =>
    by_cases ha : a.toNat = 48
    · have e1 : hexB (a :: b :: c :: r) = decide (lw b = 120) := by simp [hexB, ha]
      have e2 : baseB (a :: b :: c :: r) = (decide (10 ≤ dig0 b) && decide (dig0 b < 36)) := by simp [baseB, ha]
      by_cases q : lw b = 98 ∨ lw b = 111 ∨ lw b = 120
      · obtain ⟨x1, x2, x3, x4⟩ := let_of q
        have e3 : (decide (10 ≤ dig0 b) && decide (dig0 b < 36)) = true := by simp [x2, x3]
        rw [e1, e2, e3]
        by_cases q1 : lw b = 98
        · have e : pre0 (a :: b :: c :: r) = (2, c :: r) := by simp [pre0, ha, q1]
          rw [e]
          exact .pre a b c r 2 ha (.inl ⟨q1, rfl⟩)
        · by_cases q2 : lw b = 111
          · have e : pre0 (a :: b :: c :: r) = (8, c :: r) := by simp [pre0, ha, q2]
            rw [e]
            exact .pre a b c r 8 ha (.inr (.inl ⟨q2, rfl⟩))
          · have q3 : lw b = 120 := by omega
            have e : pre0 (a :: b :: c :: r) = (16, c :: r) := by simp [pre0, ha, q3]
            rw [e]
            exact .pre a b c r 16 ha (.inr (.inr ⟨q3, rfl⟩))
      · have e : pre0 (a :: b :: c :: r) = (8, b :: c :: r) := by
          have q1 : lw b ≠ 98 := fun h => q (.inl h)
          have q2 : lw b ≠ 111 := fun h => q (.inr (.inl h))
          have q3 : lw b ≠ 120 := fun h => q (.inr (.inr h))
          simp [pre0, ha, q1, q2, q3]
        rw [e, e1, e2]
        exact .oct a b (c :: r) ha (.inr ⟨fun h => q (.inl h), fun h => q (.inr (.inl h)), fun h => q (.inr (.inr h))⟩)
    · have e : pre0 (a :: b :: c :: r) = (10, a :: b :: c :: r) := by simp [pre0, ha]
      have e1 : hexB (a :: b :: c :: r) = false := by simp [hexB, ha]
      have e2 : baseB (a :: b :: c :: r) = false := by simp [baseB, ha]
      rw [e, e1, e2]
      exact .dec a b (c :: r) ha
end Go.Proofs.YtlnnmionbflolaaDoor
