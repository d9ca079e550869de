/- Floats between bounds as integers. (Printed by gen_cast.py.) -/
import Derived.Test.YtnnfdlhedggkmaaGreatDoorCastG
import Derived.WalkKit
import Derived.KernelRfl
import Derived.RowKit3
import Derived.Deep.QuietTactic
import Derived.BigQuiet
import Derived.Lib.Hide
import Derived.Deep.DeepFit
import Derived.WalkSpells
import Derived.WalkLawsBesides
import Derived.Laws.FloatArith
import Derived.Laws.Cover2
namespace Go.Proofs.YtnnfdlhedggkmaaGreatDoor
open Go.RowKit
set_option linter.unusedVariables false
set_option linter.unusedSimpArgs false

/-- What is cut off a number towards 0 is no more than the number. -/
theorem cut_le (s : Bool) (n drop : Nat) : Ieee.Toward.zero.cut s n drop * 2 ^ drop ≤ n := by
  unfold Ieee.Toward.cut
  simp only [Bool.toNat_false, Nat.add_zero]
  by_cases h : drop ≤ n.log2 + 2
  · rw [Nat.min_eq_left h, Nat.one_shiftLeft]
    exact Nat.div_mul_le_self _ _
  · rw [Nat.min_eq_right (by omega), Nat.one_shiftLeft]
    have : n / 2 ^ (n.log2 + 2) = 0 := Nat.div_eq_of_lt (Nat.lt_of_lt_of_le Nat.lt_log2_self (Nat.pow_le_pow_right (by decide) (by omega)))
    rw [this]; simp
theorem cut_none (s : Bool) (n : Nat) : Ieee.Toward.zero.cut s n 0 = n := by
  unfold Ieee.Toward.cut
  simp [Nat.one_shiftLeft]
theorem cmp_lt {a b : Int} (h : compare a b = .lt) : a < b := by
  simp only [compare, compareOfLessAndEq] at h
  split at h
  · assumption
  · split at h <;> cases h
theorem cmp_gt {a b : Int} (h : compare a b = .gt) : b < a := by
  simp only [compare, compareOfLessAndEq] at h
  split at h
  · cases h
  · split at h
    · cases h
    · omega
theorem lt_cmp {a b : Int} (h : a < b) : compare a b = .lt := by
  simp only [compare, compareOfLessAndEq]
  rw [if_pos h]
open Ieee in
theorem size_of {s : Bool} {m : Nat} {i : Int} (h1 : (Datum.number s m i).order (.number true 4503599627370496 10) = some .gt) (h2 : (Datum.number s m i).order (.number false 4503599627370496 10) = some .lt) :
    m * 2 ^ (i - min i 10).toNat < 4503599627370496 * 2 ^ (10 - min i 10).toNat := by
  simp only [Datum.order, Option.some.injEq] at h1 h2
  have a := cmp_gt h1
  have b := cmp_lt h2
  unfold signed at a b
  rw [Nat.shiftLeft_eq, Nat.shiftLeft_eq] at a b
  cases s
  · simp only [Bool.false_eq_true, if_false] at b
    exact_mod_cast b
  · simp only [if_true] at a
    have := Int.neg_lt_neg a
    rw [Int.neg_neg, Int.neg_neg] at this
    exact_mod_cast this
open Ieee in
theorem whole_lt {s : Bool} {m : Nat} {i : Int} (h : m * 2 ^ (i - min i 10).toNat < 4503599627370496 * 2 ^ (10 - min i 10).toNat) : Toward.zero.cut s (m <<< i.toNat) (-i).toNat < 4611686018427387904 := by
  rw [Nat.shiftLeft_eq]
  by_cases h10 : 10 ≤ i
  · rw [Int.min_eq_right h10] at h
    obtain ⟨k, rfl⟩ : ∃ k : Nat, i = 10 + k := ⟨(i - 10).toNat, by omega⟩
    rw [show (-(10 + (k : Int))).toNat = 0 by omega, cut_none, show (10 + (k : Int)).toNat = k + 10 by omega, Nat.pow_add]
    rw [show (10 + (k : Int) - 10).toNat = k by omega, show ((10 : Int) - 10).toNat = 0 by decide] at h
    have e : m * (2 ^ k * 2 ^ 10) = m * 2 ^ k * 1024 := by rw [← Nat.mul_assoc]
    rw [e]
    omega
  · rw [Int.min_eq_left (by omega)] at h
    rw [show (i - i).toNat = 0 by omega, Nat.pow_zero, Nat.mul_one] at h
    by_cases h0 : 0 ≤ i
    · obtain ⟨k, rfl⟩ : ∃ k : Nat, i = k := ⟨i.toNat, by omega⟩
      rw [show (-(k : Int)).toNat = 0 by omega, cut_none, show (k : Int).toNat = k by omega]
      rw [show (10 - (k : Int)).toNat = 10 - k by omega] at h
      have e : 2 ^ (10 - k) * 2 ^ k = 1024 := by rw [← Nat.pow_add, Nat.sub_add_cancel (by omega)]
      have hp : 0 < 2 ^ k := Nat.two_pow_pos k
      have := Nat.mul_lt_mul_of_pos_right h hp
      rw [Nat.mul_assoc, e] at this
      omega
    · obtain ⟨d, rfl⟩ : ∃ d : Nat, i = -d := ⟨(-i).toNat, by omega⟩
      rw [show (-(d : Int)).toNat = 0 by omega, Nat.pow_zero, Nat.mul_one, show (-(-(d : Int))).toNat = d by omega]
      rw [show (10 - (-(d : Int))).toNat = d + 10 by omega, Nat.pow_add] at h
      have q := cut_le s m d
      have e : 4503599627370496 * (2 ^ d * 2 ^ 10) = 4611686018427387904 * 2 ^ d := by
        rw [Nat.mul_comm (2 ^ d), ← Nat.mul_assoc]
      rw [e] at h
      exact Nat.lt_of_mul_lt_mul_right (Nat.lt_of_le_of_lt q h)
open Ieee in
/-- A float between -2^62 and 2^62 has a whole part, between these. -/
theorem between {b : Nat} (h1 : FloatKind.f64.format.order b 14109777632551763968 = some .gt) (h2 : FloatKind.f64.format.order b 4886405595696988160 = some .lt) :
    ∃ n : Int, (FloatKind.f64.decode b).toInt .zero = some n ∧ -4611686018427387904 < n ∧ n < 4611686018427387904 ∧ ((FloatKind.f64.format.order b 0 == some .lt) = false → 0 ≤ n) := by
  have r1 : FloatKind.f64.format.read 14109777632551763968 = .number true 4503599627370496 10 := by decide +kernel
  have r2 : FloatKind.f64.format.read 4886405595696988160 = .number false 4503599627370496 10 := by decide +kernel
  have r0 : FloatKind.f64.format.read 0 = .number false 0 (-1074) := by decide +kernel
  unfold Ieee.Format.order at *
  rw [r1] at h1
  rw [r2] at h2
  rw [r0]
  show ∃ n : Int, (FloatKind.f64.format.read b).toInt .zero = some n ∧ _
  generalize FloatKind.f64.format.read b = D at *
  cases D with
  | nan s f => simp [Datum.order] at h1
  | infinity s => cases s <;> simp [Datum.order] at h1 h2
  | number s m i =>
    have hs := size_of h1 h2
    have hq := whole_lt (s := s) hs
    refine ⟨signed s (Toward.zero.cut s (m <<< i.toNat) (-i).toNat) 0, rfl, ?_, ?_, ?_⟩
    · unfold signed; rw [Nat.shiftLeft_zero]; split <;> omega
    · unfold signed; rw [Nat.shiftLeft_zero]; split <;> omega
    · intro h
      cases s with
      | false => unfold signed; simp
      | true =>
        by_cases hm : m = 0
        · subst hm
          have : Toward.zero.cut true (0 <<< i.toNat) (-i).toNat = 0 := by
            have := cut_le true (0 <<< i.toNat) (-i).toNat
            rw [Nat.zero_shiftLeft] at this ⊢
            have hp : 0 < 2 ^ (-i).toNat := Nat.two_pow_pos _
            exact (Nat.mul_eq_zero.1 (Nat.le_zero.1 this)).resolve_right (by omega)
          rw [this]; decide
        · exfalso
          simp only [Datum.order] at h
          rw [lt_cmp] at h
          · simp at h
          · unfold signed
            rw [Nat.shiftLeft_eq]
            have hp : 0 < m * 2 ^ (i - min i (-1074)).toNat := Nat.mul_pos (by omega) (Nat.two_pow_pos _)
            simp only [if_true, Bool.false_eq_true, if_false, Nat.zero_shiftLeft]
            omega
theorem val_of {b : Nat} {n : Int} {k : IntKind} (h : (FloatKind.f64.decode b).toInt .zero = some n) (h1 : k.min ≤ n) (h2 : n ≤ k.max) : floatToIntVal .f64 b k = some n := by
  unfold floatToIntVal
  rw [h]
  simp only
  rw [if_pos ⟨h1, h2⟩]
end Go.Proofs.YtnnfdlhedggkmaaGreatDoor
