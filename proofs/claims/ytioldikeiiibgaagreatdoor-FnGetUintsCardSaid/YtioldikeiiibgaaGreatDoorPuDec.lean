/- Decimal digits are read as their number. -/
import Derived.Test.YtioldikeiiibgaaGreatDoorPu0
import Derived.Lib.ItoaNum
namespace Go.Proofs.YtioldikeiiibgaaGreatDoor
set_option linter.unusedVariables false
set_option linter.unusedSimpArgs false

theorem dig0_of {d : Nat} (h : d < 10) : dig0 (UInt8.ofNat (48 + d)) = d ∧ (UInt8.ofNat (48 + d)).toNat = 48 + d := by
  have e : (UInt8.ofNat (48 + d)).toNat = 48 + d := by simp; omega
  refine ⟨?_, e⟩
  unfold dig0
  rw [e, if_pos (by omega)]
  omega
theorem go0_one {M n d : Nat} {us : Bool} (r : List UInt8) (hd : d < 10) (h : n * 10 + d ≤ M) : go0 10 M n us (UInt8.ofNat (48 + d) :: r) = go0 10 M (n * 10 + d) us r := by
  obtain ⟨e1, e2⟩ := dig0_of hd
  rw [go0, if_neg (by omega), e1, if_neg (by omega), if_neg (by omega)]
theorem go0_dec {M : Nat} {us : Bool} (u : Nat) : u ≤ M → ∀ r, go0 10 M 0 us (Lib.decDigits u ++ r) = go0 10 M u us r := by
  induction u using Nat.strongRecOn with
  | ind u ih =>
    intro h r
    by_cases h10 : u < 10
    · rw [Lib.decDigits_one h10, List.singleton_append, go0_one r h10 (by omega)]
      simp
    · rw [Lib.decDigits, dif_neg h10, List.append_assoc, ih (u / 10) (by omega) (by omega), List.singleton_append, go0_one r (by omega) (by omega)]
      congr 1
      omega
theorem dec_head (u : Nat) : ∃ c r, Lib.decDigits u = c :: r ∧ 48 ≤ c.toNat ∧ c.toNat ≤ 57 ∧ (0 < u → c.toNat ≠ 48) := by
  induction u using Nat.strongRecOn with
  | ind u ih =>
    by_cases h10 : u < 10
    · obtain ⟨e1, e2⟩ := dig0_of h10
      exact ⟨_, [], Lib.decDigits_one h10, by omega, by omega, fun _ => by omega⟩
    · obtain ⟨c, r, e, h1, h2, h3⟩ := ih (u / 10) (by omega)
      exact ⟨c, r ++ [UInt8.ofNat (48 + u % 10)], by rw [Lib.decDigits, dif_neg h10, e]; rfl, h1, h2, fun _ => h3 (by omega)⟩
theorem pu0_dec {M : Nat} (u : Nat) (h : u ≤ M) : pu0 M (Lib.decDigits u) = .ok u false := by
  by_cases h0 : u = 0
  · subst h0
    rw [Lib.decDigits_one (by omega)]
    rfl
  · obtain ⟨c, r, e, h1, h2, h3⟩ := dec_head u
    have hp : pre0 (Lib.decDigits u) = (10, Lib.decDigits u) := by
      have := h3 (by omega)
      rw [e]
      match r with
      | [] => simp [pre0, this]
      | [_] => simp [pre0, this]
      | _ :: _ :: _ => simp [pre0, this]
    have hg := go0_dec (us := false) u h []
    rw [List.append_nil] at hg
    rw [pu0, if_neg (by rw [e]; simp), hp, hg]
    rfl
end Go.Proofs.YtioldikeiiibgaaGreatDoor
