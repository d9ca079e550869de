/- Small laws for the walk of ParseUint. -/
import Derived.Test.YtfeijmoncadkiaaDoorPu1
import Derived.Laws.Strings3
namespace Go.Proofs.YtfeijmoncadkiaaDoor
open Go.RowKit
set_option linter.unusedVariables false
set_option linter.unusedSimpArgs false

/-- What ParseUint hands back. -/
def r0 (M : Nat) : End0 → Value
  | .ok n _ => .tuple #[.int .u64 (n : Nat), .nilIface]
  | .syn => .tuple #[.int .u64 0, .iface 122 (.int .i64 2)]
  | .rng => .tuple #[.int .u64 (M : Nat), .iface 122 (.int .i64 1)]
theorem of_decide_eq_true' {p : Prop} [Decidable p] {b : Bool} (h : decide p = b) : (b = true → p) ∧ (b = false → ¬ p) := by
  subst h
  exact ⟨of_decide_eq_true, of_decide_eq_false⟩
theorem ne_empty {s : ByteArray} (h : 0 < s.size) : (s.toList == []) = false := by
  rw [Lib.toList_data]
  cases hl : s.data.toList with
  | nil =>
    have : s.data.toList.length = s.size := by simp
    rw [hl] at this
    simp at this
    omega
  | cons a l => rfl
theorem ne_nil {s : ByteArray} (h : 0 < s.size) : s.data.toList ≠ [] := by
  intro hl
  have : s.data.toList.length = s.size := by simp
  rw [hl] at this
  simp at this
  omega
theorem digit_ways (c : UInt8) : ∃ d : Int, d = dig0 c ∧ 0 ≤ d ∧ d ≤ 255 ∧ ((decide (48 ≤ (c.toNat : Int)) = true ∧ decide ((c.toNat : Int) ≤ 57) = true ∧ d = (c.toNat : Int) - 48) ∨ (((decide (48 ≤ (c.toNat : Int)) = true ∧ decide ((c.toNat : Int) ≤ 57) = false) ∨ decide (48 ≤ (c.toNat : Int)) = false) ∧ ((decide (97 ≤ (lw c : Int)) = true ∧ decide ((lw c : Int) ≤ 122) = true ∧ d = (lw c : Int) - 97 + 10) ∨ (((decide (97 ≤ (lw c : Int)) = true ∧ decide ((lw c : Int) ≤ 122) = false) ∨ decide (97 ≤ (lw c : Int)) = false) ∧ d = 255)))) := by
  have := dig0_le c
  refine ⟨dig0 c, rfl, by omega, by omega, ?_⟩
  simp only [decide_eq_true_iff, decide_eq_false_iff_not]
  unfold dig0
  split
  · left; omega
  · right
    refine ⟨by omega, ?_⟩
    split
    · left; omega
    · right; omega
theorem pre_d (s : ByteArray) (h0 : 0 < s.size) (hz : s[0].toNat ≠ 48) : pre0 s.data.toList = (10, s.data.toList) := by
  have a := drop_get s 0 h0
  rw [List.drop_zero] at a
  rw [a]
  generalize s.data.toList.drop (0 + 1) = r
  match r with
  | [] => simp [pre0, hz]
  | [_] => simp [pre0, hz]
  | _ :: _ :: _ => simp [pre0, hz]
theorem ext_drop (s : ByteArray) (i : Nat) : (s.extract i s.size).data.toList = s.data.toList.drop i := by
  have : (s.extract i s.size).data = s.data.extract i s.data.size := by simp [ByteArray.data_extract]
  rw [this, Array.toList_extract, List.extract_eq_take_drop, List.take_of_length_le (by simp)]
theorem three_heads (s : ByteArray) (h : 3 ≤ s.size) : s.data.toList = s[0] :: s[1] :: s[2] :: s.data.toList.drop 3 := by
  have a := two_heads s (by omega)
  have b := drop_get s 2 (by omega)
  exact a.trans (congrArg (fun x => s[0] :: s[1] :: x) b)
theorem pre_n1 (s : ByteArray) (h2 : s.size = 1) (hz : s[0].toNat = 48) : pre0 s.data.toList = (8, (s.extract 1 s.size).data.toList) := by
  rw [ext_drop, one_head s h2]
  simp [pre0, hz]
theorem pre_n2 (s : ByteArray) (h2 : s.size = 2) (hz : s[0].toNat = 48) : pre0 s.data.toList = (8, (s.extract 1 s.size).data.toList) := by
  have e : s.data.toList = [s[0], s[1]] := by
    have := two_heads s (by omega)
    rw [List.drop_eq_nil_of_le (by simp; omega)] at this
    exact this
  rw [ext_drop, e]
  simp [pre0, hz]
section
variable (s : ByteArray) (h2 : 3 ≤ s.size) (hz : s[0].toNat = 48)
include hz
theorem pre_n3 (q1 : lw s[1] ≠ 98) (q2 : lw s[1] ≠ 111) (q3 : lw s[1] ≠ 120) : pre0 s.data.toList = (8, (s.extract 1 s.size).data.toList) := by
  have e := three_heads s h2
  rw [ext_drop]
  obtain ⟨l, hl⟩ : ∃ l, l = s.data.toList.drop 3 := ⟨_, rfl⟩
  rw [← hl] at e
  clear hl
  rw [e]
  simp [pre0, hz, q1, q2, q3]
theorem pre_b (q1 : lw s[1] = 98) : pre0 s.data.toList = (2, (s.extract 2 s.size).data.toList) := by
  have e := three_heads s h2
  rw [ext_drop]
  obtain ⟨l, hl⟩ : ∃ l, l = s.data.toList.drop 3 := ⟨_, rfl⟩
  rw [← hl] at e
  clear hl
  rw [e]
  simp [pre0, hz, q1]
theorem pre_o (q1 : lw s[1] = 111) : pre0 s.data.toList = (8, (s.extract 2 s.size).data.toList) := by
  have e := three_heads s h2
  rw [ext_drop]
  obtain ⟨l, hl⟩ : ∃ l, l = s.data.toList.drop 3 := ⟨_, rfl⟩
  rw [← hl] at e
  clear hl
  rw [e]
  simp [pre0, hz, q1]
theorem pre_x (q1 : lw s[1] = 120) : pre0 s.data.toList = (16, (s.extract 2 s.size).data.toList) := by
  have e := three_heads s h2
  rw [ext_drop]
  obtain ⟨l, hl⟩ : ∃ l, l = s.data.toList.drop 3 := ⟨_, rfl⟩
  rw [← hl] at e
  clear hl
  rw [e]
  simp [pre0, hz, q1]
end
theorem no_sign (s : ByteArray) (h0 : 0 < s.size) {M n : Nat} {us : Bool} (h : go0 10 M 0 false s.data.toList = .ok n us) : s[0].toNat ≠ 43 ∧ s[0].toNat ≠ 45 := by
  have a := drop_get s 0 h0
  rw [List.drop_zero] at a
  rw [a] at h
  generalize s[0] = c at *
  simp only [go0] at h
  by_cases h1 : c.toNat = 95
  · omega
  · rw [if_neg h1] at h
    by_cases h2 : dig0 c ≥ 10
    · rw [if_pos h2] at h; cases h
    · unfold dig0 at h2
      split at h2
      · omega
      · split at h2 <;> omega
end Go.Proofs.YtfeijmoncadkiaaDoor
