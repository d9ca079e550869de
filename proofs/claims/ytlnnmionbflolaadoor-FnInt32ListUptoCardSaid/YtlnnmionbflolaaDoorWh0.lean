/- Signed numerals of all texts: the reference and strconv say the same, in plain Lean. -/
import Derived.Test.YtlnnmionbflolaaDoorWo3
namespace Go.Proofs.YtlnnmionbflolaaDoor
set_option linter.unusedVariables false
set_option linter.unusedSimpArgs false

theorem go0_up {B M M' : Nat} (hM : M ≤ M') : ∀ {r : List UInt8} {n m : Nat} {us v : Bool}, go0 B M n us r = .ok m v → go0 B M' n us r = .ok m v
  | [], n, m, us, v, h => h
  | c :: r, n, m, us, v, h => by
    simp only [go0] at h ⊢
    split at h
    · rename_i h1; rw [if_pos h1]; exact go0_up hM h
    · rename_i h1
      rw [if_neg h1]
      split at h
      · cases h
      · rename_i h2
        rw [if_neg h2]
        split at h
        · cases h
        · rename_i h3
          rw [if_neg (by omega)]
          exact go0_up hM h
theorem go0_grow {B M : Nat} (hB : 1 ≤ B) : ∀ {r : List UInt8} {n m : Nat} {us v : Bool}, go0 B M n us r = .ok m v → n ≤ m
  | [], n, m, us, v, h => by simp only [go0] at h; cases h; exact Nat.le_refl _
  | c :: r, n, m, us, v, h => by
    simp only [go0] at h
    split at h
    · exact go0_grow hB h
    · split at h
      · cases h
      · split at h
        · cases h
        · have := go0_grow hB h
          have h2 : n * 1 ≤ n * B := Nat.mul_le_mul_left n hB
          omega
theorem go0_down {B M M' : Nat} (hB : 1 ≤ B) : ∀ {r : List UInt8} {n m : Nat} {us v : Bool}, n ≤ M → go0 B M' n us r = .ok m v → go0 B M n us r = if m ≤ M then .ok m v else .rng
  | [], n, m, us, v, hn, h => by
    simp only [go0] at h ⊢
    cases h
    rw [if_pos hn]
  | c :: r, n, m, us, v, hn, h => by
    simp only [go0] at h ⊢
    split at h
    · rename_i h1; rw [if_pos h1]; exact go0_down hB hn h
    · rename_i h1
      rw [if_neg h1]
      split at h
      · cases h
      · rename_i h2
        rw [if_neg h2]
        split at h
        · cases h
        · rename_i h3
          have hg := go0_grow hB h
          by_cases h4 : n * B + dig0 c > M
          · rw [if_pos h4, if_neg (by omega)]
          · rw [if_neg h4]
            exact go0_down hB (by omega) h
theorem pre0_pos (l : List UInt8) : 1 ≤ (pre0 l).1 := by
  unfold pre0
  repeat' split
  all_goals (show 1 ≤ _; simp)
theorem pu0_up {M M' : Nat} (hM : M ≤ M') {l : List UInt8} {n : Nat} {us : Bool} (h : pu0 M l = .ok n us) : pu0 M' l = .ok n us := by
  unfold pu0 at h ⊢
  split at h
  · cases h
  · rename_i hl
    rw [if_neg hl]
    cases hg : go0 (pre0 l).1 M 0 false (pre0 l).2 with
    | ok m v => rw [hg] at h; rw [go0_up hM hg]; exact h
    | syn => rw [hg] at h; cases h
    | rng => rw [hg] at h; cases h
theorem pu0_down {M M' : Nat} {l : List UInt8} {n : Nat} {us : Bool} (h : pu0 M' l = .ok n us) : pu0 M l = if n ≤ M then .ok n us else .rng := by
  unfold pu0 at h ⊢
  split at h
  · cases h
  · rename_i hl
    rw [if_neg hl]
    cases hg : go0 (pre0 l).1 M' 0 false (pre0 l).2 with
    | ok m v =>
      rw [hg] at h
      rw [go0_down (M := M) (pre0_pos l) (Nat.zero_le _) hg]
      simp only [fin0] at h
      split at h
      · cases h
      · rename_i hu
        cases h
        by_cases hm : n ≤ M
        · simp only [if_pos hm, fin0, if_neg hu]
        · simp only [if_neg hm, fin0]
    | syn => rw [hg] at h; cases h
    | rng => rw [hg] at h; cases h

def M64 : Nat := 18446744073709551615
/-- What the reference says of a whole number. -/
def wF (C : Nat) (l : List UInt8) : Int × Nat :=
  if (nAll M64 (sgn l).2).2 = 1 then (if (nAll M64 (sgn l).2).1 > C ∨ ((nAll M64 (sgn l).2).1 = C ∧ (sgn l).1 = false) then (0, 2) else (if (sgn l).1 then (-((nAll M64 (sgn l).2).1 : Int), 1) else (((nAll M64 (sgn l).2).1 : Int), 1))) else (0, (nAll M64 (sgn l).2).2)
theorem wF_pi {C M : Nat} (hC : C ≤ M) (hM : M ≤ M64) (l : List UInt8) : ((pi0 C M l).2 = 0 → wF C l = ((pi0 C M l).1, 1)) ∧ ((pi0 C M l).2 ≠ 0 → (wF C l).2 = 2) := by
  by_cases hl : l = []
  · subst hl
    exact ⟨fun h => by simp [pi0] at h, fun _ => by simp [wF, sgn, nAll, okW, woB, bare, pre29, dres]⟩
  · rw [pi0, if_neg hl]
    unfold wF
    generalize (sgn l).1 = neg
    generalize (sgn l).2 = t
    cases h64 : pu0 M64 t with
    | ok n us =>
      rw [nAll_ok h64, pu0_down (M := M) h64]
      simp only [if_true]
      by_cases hn : n ≤ M
      · rw [if_pos hn, endI]
        cases neg
        · by_cases h2 : n ≥ C
          · have h3 : C < n ∨ n = C := by omega
            simp [h2, h3]
          · have h3 : ¬ (C < n ∨ n = C) := by omega
            simp [h2, h3]
        · by_cases h2 : n > C
          · simp [h2]
          · simp [h2]
      · rw [if_neg hn, endI]
        have h2 : n > C := by omega
        cases neg <;> simp [h2]
    | syn =>
      have hno : ∀ n us, pu0 M64 t ≠ .ok n us := fun n us e => by rw [h64] at e; cases e
      exact wF_no hM hno
    | rng =>
      have hno : ∀ n us, pu0 M64 t ≠ .ok n us := fun n us e => by rw [h64] at e; cases e
      exact wF_no hM hno
where
  wF_no {C M : Nat} {neg : Bool} {t : List UInt8} (hM : M ≤ M64) (hno : ∀ n us, pu0 M64 t ≠ .ok n us) : ((endI C neg (pu0 M t)).2 = 0 → (if (nAll M64 t).2 = 1 then (if (nAll M64 t).1 > C ∨ ((nAll M64 t).1 = C ∧ neg = false) then (0, 2) else (if neg then (-((nAll M64 t).1 : Int), 1) else (((nAll M64 t).1 : Int), 1))) else (0, (nAll M64 t).2)) = ((endI C neg (pu0 M t)).1, 1)) ∧ ((endI C neg (pu0 M t)).2 ≠ 0 → (if (nAll M64 t).2 = 1 then (if (nAll M64 t).1 > C ∨ ((nAll M64 t).1 = C ∧ neg = false) then ((0 : Int), 2) else (if neg then (-((nAll M64 t).1 : Int), 1) else (((nAll M64 t).1 : Int), 1))) else (0, (nAll M64 t).2)).2 = 2) := by
    have h1 : (nAll M64 t).2 ≠ 1 := fun e => by
      obtain ⟨n, us, h⟩ := nAll_fits e
      exact hno n us h
    have h2 : (nAll M64 t).2 = 2 := (nAll_two M64 t).resolve_left h1
    rw [if_neg h1]
    refine ⟨fun h => ?_, fun _ => h2⟩
    exfalso
    cases hp : pu0 M t with
    | ok n us => exact hno n us (pu0_up hM hp)
    | syn => rw [hp] at h; simp [endI] at h
    | rng => rw [hp] at h; cases neg <;> simp [endI] at h
end Go.Proofs.YtlnnmionbflolaaDoor
