/- Small floats in plain Lean: one whose size is below 2^61 has a whole part below 2^62, and so has what it is as a float of 32 bits. -/
import Derived.Laws.FloatArith
import Derived.Laws.Cover2
namespace Go.Proofs.YtfeijmoncadkiaaDoor
set_option linter.unusedVariables false
set_option linter.unusedSimpArgs false
open Ieee

theorem cut_le (s : Bool) (n drop : Nat) : Toward.zero.cut s n drop * 2 ^ drop ≤ n := by
  unfold Toward.cut
  simp only [Bool.toNat_false, Nat.add_zero]
  by_cases h : drop ≤ n.log2 + 2
  · rw [Nat.min_eq_left h, Nat.one_shiftLeft]
    exact Nat.div_mul_le_self _ _
  · rw [Nat.min_eq_right (by omega), Nat.one_shiftLeft]
    have : n / 2 ^ (n.log2 + 2) = 0 := Nat.div_eq_of_lt (Nat.lt_of_lt_of_le Nat.lt_log2_self (Nat.pow_le_pow_right (by decide) (by omega)))
    rw [this]; simp
theorem cut_le' (s : Bool) (n drop : Nat) : Toward.zero.cut s n drop ≤ n :=
  Nat.le_trans (Nat.le_mul_of_pos_right _ (Nat.two_pow_pos _)) (cut_le s n drop)
theorem cmp_lt {a b : Int} (h : compare a b = .lt) : a < b := by
  simp only [compare, compareOfLessAndEq] at h
  split at h
  · assumption
  · split at h <;> cases h
theorem cmp_gt {a b : Int} (h : compare a b = .gt) : b < a := by
  simp only [compare, compareOfLessAndEq] at h
  split at h
  · cases h
  · split at h
    · cases h
    · omega
theorem lt_cmp {a b : Int} (h : a < b) : compare a b = .lt := by
  simp only [compare, compareOfLessAndEq]
  rw [if_pos h]
theorem size_of {s : Bool} {m : Nat} {i : Int} (h1 : (Datum.number s m i).order (.number true 4503599627370496 9) = some .gt) (h2 : (Datum.number s m i).order (.number false 4503599627370496 9) = some .lt) :
    m * 2 ^ (i - min i 9).toNat < 4503599627370496 * 2 ^ (9 - min i 9).toNat := by
  simp only [Datum.order, Option.some.injEq] at h1 h2
  have a := cmp_gt h1
  have b := cmp_lt h2
  unfold signed at a b
  rw [Nat.shiftLeft_eq, Nat.shiftLeft_eq] at a b
  cases s
  · simp only [Bool.false_eq_true, if_false] at b
    exact_mod_cast b
  · simp only [if_true] at a
    have := Int.neg_lt_neg a
    rw [Int.neg_neg, Int.neg_neg] at this
    exact_mod_cast this
/-- A number's size in digits of two. -/
def Small (B : Int) (m : Nat) (i : Int) : Prop := m = 0 ∨ i + (m.log2 : Nat) < B
theorem small_of {m : Nat} {i : Int} (h : m * 2 ^ (i - min i 9).toNat < 4503599627370496 * 2 ^ (9 - min i 9).toNat) : Small 61 m i := by
  by_cases hm : m = 0
  · exact .inl hm
  · right
    have h1 := Nat.log2_self_le hm
    have h2 : 2 ^ m.log2 * 2 ^ (i - min i 9).toNat < 2 ^ 52 * 2 ^ (9 - min i 9).toNat := Nat.lt_of_le_of_lt (Nat.mul_le_mul_right _ h1) h
    rw [← Nat.pow_add, ← Nat.pow_add] at h2
    have h3 := (Nat.pow_lt_pow_iff_right (by decide : 1 < 2)).1 h2
    omega
/-- A float between -2^61 and 2^61 is a small number. -/
theorem small64 {b : Nat} (h1 : FloatKind.f64.format.order b 14105274032924393472 = some .gt) (h2 : FloatKind.f64.format.order b 4881901996069617664 = some .lt) :
    ∃ s m i, FloatKind.f64.format.read b = .number s m i ∧ Small 61 m i := by
  have r1 : FloatKind.f64.format.read 14105274032924393472 = .number true 4503599627370496 9 := by decide +kernel
  have r2 : FloatKind.f64.format.read 4881901996069617664 = .number false 4503599627370496 9 := by decide +kernel
  unfold Ieee.Format.order at *
  rw [r1] at h1
  rw [r2] at h2
  generalize FloatKind.f64.format.read b = D at *
  cases D with
  | nan s f => simp [Datum.order] at h1
  | infinity s => cases s <;> simp [Datum.order] at h1 h2
  | number s m i => exact ⟨s, m, i, rfl, small_of (size_of h1 h2)⟩
theorem whole_small {s : Bool} {m : Nat} {i : Int} (h : Small 62 m i) : Toward.zero.cut s (m <<< i.toNat) (-i).toNat < 4611686018427387904 := by
  have hc := cut_le s (m <<< i.toNat) (-i).toNat
  rw [Nat.shiftLeft_eq] at hc ⊢
  generalize Toward.zero.cut s (m * 2 ^ i.toNat) (-i).toNat = c at *
  by_cases hm : m = 0
  · subst hm
    rw [Nat.zero_mul] at hc
    have hp : 0 < 2 ^ (-i).toNat := Nat.two_pow_pos _
    have : c = 0 := (Nat.mul_eq_zero.1 (Nat.le_zero.1 hc)).resolve_right (by omega)
    omega
  · have hs := h.resolve_left hm
    have h1 : m < 2 ^ (m.log2 + 1) := Nat.lt_log2_self
    have h2 : m * 2 ^ i.toNat < 2 ^ (m.log2 + 1) * 2 ^ i.toNat := Nat.mul_lt_mul_of_pos_right h1 (Nat.two_pow_pos _)
    rw [← Nat.pow_add] at h2
    have h3 : c * 2 ^ (-i).toNat < 2 ^ (62 + (-i).toNat) := Nat.lt_of_lt_of_le (Nat.lt_of_le_of_lt hc h2) (Nat.pow_le_pow_right (by decide) (by omega))
    rw [Nat.pow_add] at h3
    exact Nat.lt_of_mul_lt_mul_right h3
/-- A small number has a whole part. -/
theorem whole_of {k : FloatKind} {c : Nat} {s : Bool} {m : Nat} {i : Int} (hr : k.format.read c = .number s m i) (h : Small 62 m i) :
    ∃ n : Int, (k.decode c).toInt .zero = some n ∧ -4611686018427387904 < n ∧ n < 4611686018427387904 ∧ ((k.format.order c 0 == some .lt) = false → 0 ≤ n) := by
  have hq := whole_small (s := s) h
  refine ⟨signed s (Toward.zero.cut s (m <<< i.toNat) (-i).toNat) 0, ?_, ?_, ?_, ?_⟩
  · show (k.format.read c).toInt .zero = _
    rw [hr]; rfl
  · unfold signed; rw [Nat.shiftLeft_zero]; split <;> omega
  · unfold signed; rw [Nat.shiftLeft_zero]; split <;> omega
  · intro h0
    cases s with
    | false => unfold signed; simp
    | true =>
      by_cases hm : m = 0
      · subst hm
        have : Toward.zero.cut true (0 <<< i.toNat) (-i).toNat = 0 := by
          have := cut_le' true (0 <<< i.toNat) (-i).toNat
          rw [Nat.zero_shiftLeft] at this ⊢
          omega
        rw [this]; decide
      · exfalso
        have r0 : ∃ j, k.format.read 0 = .number false 0 j := by
          cases k
          · exact ⟨-149, by decide +kernel⟩
          · exact ⟨-1074, by decide +kernel⟩
        obtain ⟨j, r0⟩ := r0
        unfold Ieee.Format.order at h0
        rw [hr, r0] at h0
        simp only [Datum.order] at h0
        rw [lt_cmp] at h0
        · simp at h0
        · unfold signed
          rw [Nat.shiftLeft_eq]
          have hp : 0 < m * 2 ^ (i - min i j).toNat := Nat.mul_pos (by omega) (Nat.two_pow_pos _)
          simp only [if_true, Bool.false_eq_true, if_false, Nat.zero_shiftLeft]
          omega
theorem val_of {f : FloatKind} {b : Nat} {n : Int} {k : IntKind} (h : (f.decode b).toInt .zero = some n) (h1 : k.min ≤ n) (h2 : n ≤ k.max) : floatToIntVal f b k = some n := by
  unfold floatToIntVal
  rw [h]
  simp only
  rw [if_pos ⟨h1, h2⟩]
theorem log_lt {m B : Nat} (h : m < 2 ^ B) (h0 : m ≠ 0) : m.log2 < B := (Nat.log2_lt h0).2 h
theorem read_word (s : Bool) (R : Nat) (hR : R ≤ 1577058304) : ∃ s' m' i', single.read (single.word s R) = .number s' m' i' ∧ Small 62 m' i' := by
  have e1 : single.signWeight = 2147483648 := by decide +kernel
  have e2 : single.binade = 8388608 := by decide +kernel
  have e3 : single.infRung = 2139095040 := by decide +kernel
  have e4 : single.leastPlace = -149 := by decide +kernel
  have hw : single.word s R % 2147483648 = R := by
    unfold Format.word
    rw [e1]
    split <;> omega
  unfold Format.read
  simp only [e1, e2, e3, e4, hw]
  by_cases h1 : R < 8388608
  · rw [if_pos h1]
    refine ⟨_, _, _, rfl, ?_⟩
    by_cases h0 : R = 0
    · exact .inl h0
    · have := log_lt (B := 23) (by omega) h0
      exact .inr (by omega)
  · rw [if_neg h1, if_pos (by omega)]
    refine ⟨_, _, _, rfl, ?_⟩
    have := log_lt (m := 8388608 + R % 8388608) (B := 24) (by omega) (by omega)
    exact .inr (by omega)
theorem even_le (s : Bool) (n d : Nat) : Toward.even.cut s n d ≤ n / 2 ^ (min d (n.log2 + 2)) + 1 := by
  unfold Toward.cut
  simp only [Nat.one_shiftLeft]
  have : ∀ b : Bool, b.toNat ≤ 1 := by decide
  exact Nat.add_le_add_left (this _) _
/-- A small float as one of 32 bits is small. -/
theorem to32 {s : Bool} {m : Nat} {i : Int} (h : Small 61 m i) : ∃ s' m' i', FloatKind.f32.format.read (FloatKind.f32.encode (.number s m i)) = .number s' m' i' ∧ Small 62 m' i' := by
  show ∃ s' m' i', single.read (single.nearest s m i) = .number s' m' i' ∧ Small 62 m' i'
  unfold Format.nearest
  by_cases hm : m = 0
  · rw [if_pos hm]
    exact read_word s 0 (by decide)
  · rw [if_neg hm]
    have hs := h.resolve_left hm
    refine read_word s _ (Nat.le_trans (Nat.min_le_left _ _) ?_)
    have e2 : single.binade = 8388608 := by decide +kernel
    have e4 : single.leastPlace = -149 := by decide +kernel
    have e5 : single.fractionBits = 23 := rfl
    simp only [e2, e4, e5]
    have hlast : max (i + (m.log2 : Nat) - (23 : Nat)) (-149) ≤ 37 := by omega
    have hlo : i + (m.log2 : Nat) - (23 : Nat) ≤ max (i + (m.log2 : Nat) - (23 : Nat)) (-149) := by omega
    have hlo2 : -149 ≤ max (i + (m.log2 : Nat) - (23 : Nat)) (-149) := by omega
    generalize max (i + (m.log2 : Nat) - (23 : Nat)) (-149) = last at *
    have hk : Toward.even.cut s (m <<< (i - last).toNat) (last - i).toNat ≤ 16777216 := by
      refine Nat.le_trans (even_le _ _ _) ?_
      have h1 : m < 2 ^ (m.log2 + 1) := Nat.lt_log2_self
      suffices hq : m <<< (i - last).toNat / 2 ^ (min (last - i).toNat ((m <<< (i - last).toNat).log2 + 2)) < 2 ^ 24 by omega
      by_cases hd : (last - i).toNat ≤ (m <<< (i - last).toNat).log2 + 2
      · rw [Nat.min_eq_left hd, Nat.div_lt_iff_lt_mul (Nat.two_pow_pos _), Nat.shiftLeft_eq]
        have h2 : m * 2 ^ (i - last).toNat < 2 ^ (m.log2 + 1) * 2 ^ (i - last).toNat := Nat.mul_lt_mul_of_pos_right h1 (Nat.two_pow_pos _)
        rw [← Nat.pow_add] at h2 ⊢
        exact Nat.lt_of_lt_of_le h2 (Nat.pow_le_pow_right (by decide) (by omega))
      · rw [Nat.min_eq_right (by omega)]
        have : m <<< (i - last).toNat / 2 ^ ((m <<< (i - last).toNat).log2 + 2) = 0 := Nat.div_eq_of_lt (Nat.lt_of_lt_of_le Nat.lt_log2_self (Nat.pow_le_pow_right (by decide) (by omega)))
        omega
    have hx : (last - -149).toNat ≤ 186 := by omega
    have hy := Nat.mul_le_mul_right 8388608 hx
    generalize Toward.even.cut s (m <<< (i - last).toNat) (last - i).toNat = q at *
    clear h hm hs hlast hlo hlo2 e2 e4 e5
    generalize (last - -149).toNat = z at *
    clear hy
    omega
/-- A float between -2^61 and 2^61, or 0, as an integer: by itself, and made one of 32 bits. -/
theorem ways {b : Nat} (h : b = 0 ∨ (FloatKind.f64.format.order b 14105274032924393472 = some .gt ∧ FloatKind.f64.format.order b 4881901996069617664 = some .lt)) :
    (∃ n : Int, (FloatKind.f64.decode b).toInt .zero = some n ∧ -4611686018427387904 < n ∧ n < 4611686018427387904 ∧ ((FloatKind.f64.format.order b 0 == some .lt) = false → 0 ≤ n)) ∧
    ∃ c, floatToFloatBits .f64 b .f32 = some c ∧ ∃ n : Int, (FloatKind.f32.decode c).toInt .zero = some n ∧ -4611686018427387904 < n ∧ n < 4611686018427387904 ∧ ((FloatKind.f32.format.order c 0 == some .lt) = false → 0 ≤ n) := by
  obtain ⟨s, m, i, hr, hsm⟩ : ∃ s m i, FloatKind.f64.format.read b = .number s m i ∧ Small 61 m i := by
    obtain rfl | ⟨h1, h2⟩ := h
    · exact ⟨false, 0, -1074, by decide +kernel, .inl rfl⟩
    · exact small64 h1 h2
  refine ⟨whole_of hr (hsm.imp id fun h => by omega), ?_⟩
  obtain ⟨s', m', i', hr', hsm'⟩ := to32 (s := s) hsm
  refine ⟨FloatKind.f32.encode (.number s m i), ?_, whole_of hr' hsm'⟩
  unfold floatToFloatBits
  rw [if_neg (by decide), show FloatKind.f64.decode b = .number s m i from hr]
  simp only
  rw [if_neg]
  show ¬ (FloatKind.f32.format.read (FloatKind.f32.encode (.number s m i))).isInfinity = true
  rw [hr']
  simp [Datum.isInfinity]
end Go.Proofs.YtfeijmoncadkiaaDoor
