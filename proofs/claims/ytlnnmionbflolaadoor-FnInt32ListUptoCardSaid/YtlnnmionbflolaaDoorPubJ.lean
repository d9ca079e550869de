/- strconv.ParseInt at 32 bits where the base is told by the text: the number that a text is, if it is one. -/
import Derived.Test.YtlnnmionbflolaaDoorPubJ0
namespace Go.Proofs.YtlnnmionbflolaaDoor
open Go.RowKit
set_option linter.unusedVariables false
set_option linter.unusedSimpArgs false

/-- What a text is as a whole number of 32 bits. -/
def numI (s : ByteArray) : Option Int := if (pi0 2147483648 4294967295 s.data.toList).2 = 0 then some (pi0 2147483648 4294967295 s.data.toList).1 else none
theorem numI_le {s : ByteArray} {n : Int} (h : numI s = some n) : -2147483648 ≤ n ∧ n ≤ 2147483647 := by
  have := iv_le 2147483648 4294967295 (by decide) s
  unfold numI at h
  split at h
  · cases h
    unfold iv at this
    omega
  · cases h
theorem parse0_any (s : ByteArray) (hs : s.size ≤ 2147483647) (w : World) (hE : ErrsAt w) :
    ∃ v, (∀ n, numI s = some n → v = n) ∧ Calls Tryd.prog 54 #[.string s, .int .i64 0, .int .i64 32] w (EndV (.int .i64 v) (numI s).isNone w) := by
  refine ⟨iv 2147483648 4294967295 s, fun n h => ?_, ?_⟩
  · unfold numI at h
    split at h
    · cases h; rfl
    · cases h
  · have := pubI_any 32 2147483648 4294967295 ⟨rfl, rfl, rfl⟩ s hs w hE
    have e : (numI s).isNone = ib 2147483648 4294967295 s := by
      unfold numI ib
      by_cases h : (pi0 2147483648 4294967295 s.data.toList).2 = 0
      · rw [if_pos h, h]; rfl
      · rw [if_neg h]
        simp [h]
    rw [e]
    exact this
end Go.Proofs.YtlnnmionbflolaaDoor
