/- The walks of the reference's digit29, digits29, prefixed29, plain29, Numeral. -/
import Derived.Test.YtlnnmionbflolaaDoorPu1b
import Derived.Test.YtlnnmionbflolaaDoorPuSpec
import Derived.Test.YtlnnmionbflolaaDoorH
import Derived.Lib.ConvBytes
namespace Go.Proofs.YtlnnmionbflolaaDoor
open Go.RowKit
set_option linter.unusedVariables false
set_option linter.unusedSimpArgs false

def d29 (c : UInt8) (B : Nat) : Int := if dig0 c < B then (dig0 c : Nat) else -1
set_option maxRecDepth 100000 in
set_option maxHeartbeats 3200000 in
theorem digit_any (c : UInt8) (B : Nat) (hB : 2 ≤ B ∧ B ≤ 36) (w : World) : Calls Tryd.prog 52 #[.int .u8 (c.toNat : Nat), .int .u64 (B : Nat)] w fun e w' => e = .returned (.int .i64 (d29 c B)) ∧ w = w' := by
  have hw := dig0_ways c
  have HR : Hid (∃ r : Int, r = d29 c B ∧ ((dig0 c < B ∧ r = dig0 c) ∨ (B ≤ dig0 c ∧ r = -1))) := Lib.hid ⟨_, rfl, by unfold d29; split <;> omega⟩
  obtain ⟨r, hr, hr2⟩ := HR.out
  rw [← hr]
  clear HR hr
  obtain ⟨hB1, hB2⟩ := hB
  have hc := c.toNat_lt
  generalize c.toNat = xn at *
  generalize dig0 c = d at *
  obtain ⟨x, hx⟩ : ∃ x : Int, x = (xn : Nat) := ⟨_, rfl⟩
  obtain ⟨b, hb⟩ : ∃ b : Int, b = (B : Nat) := ⟨_, rfl⟩
  rw [← hx, ← hb]
  have b1 : 2 ≤ b := by omega
  have b2 : b ≤ 36 := by omega
  have x1 : 0 ≤ x := by omega
  have x2 : x ≤ 255 := by omega
  rcases hw with ⟨q1, q2, q3⟩ | ⟨q1, q2, q3⟩ | ⟨q1, q2, q3⟩ | ⟨q1, q2, q3, q4⟩
  · have y1 : 48 ≤ x := by omega
    have y2 : x ≤ 57 := by omega
    rcases hr2 with ⟨h1, h2⟩ | ⟨h1, h2⟩
    · have y3 : x - 48 < b := by omega
      have HR : Hid (r = x - 48) := Lib.hid (by omega)
      clear h1 h2 q1 q2 q3 hx hb
      go_enter Tryd.func52, Tryd.ntmps52
      go_wp2
      go_ret
      rw [HR.out]
      exact ⟨rfl, rfl⟩
    · have y3 : b ≤ x - 48 := by omega
      have HR : Hid (r = -1) := Lib.hid h2
      clear h1 h2 q1 q2 q3 hx hb
      go_enter Tryd.func52, Tryd.ntmps52
      go_wp2
      go_ret
      rw [HR.out]
      exact ⟨rfl, rfl⟩
  · have y1 : 97 ≤ x := by omega
    have y2 : x ≤ 122 := by omega
    rcases hr2 with ⟨h1, h2⟩ | ⟨h1, h2⟩
    · have y3 : x - 97 + 10 < b := by omega
      have HR : Hid (r = x - 97 + 10) := Lib.hid (by omega)
      clear h1 h2 q1 q2 q3 hx hb
      go_enter Tryd.func52, Tryd.ntmps52
      go_wp2
      go_ret
      rw [HR.out]
      exact ⟨rfl, rfl⟩
    · have y3 : b ≤ x - 97 + 10 := by omega
      have HR : Hid (r = -1) := Lib.hid h2
      clear h1 h2 q1 q2 q3 hx hb
      go_enter Tryd.func52, Tryd.ntmps52
      go_wp2
      go_ret
      rw [HR.out]
      exact ⟨rfl, rfl⟩
  · have y1 : 65 ≤ x := by omega
    have y2 : x ≤ 90 := by omega
    rcases hr2 with ⟨h1, h2⟩ | ⟨h1, h2⟩
    · have y3 : x - 65 + 10 < b := by omega
      have HR : Hid (r = x - 65 + 10) := Lib.hid (by omega)
      clear h1 h2 q1 q2 q3 hx hb
      go_enter Tryd.func52, Tryd.ntmps52
      go_wp2
      go_ret
      rw [HR.out]
      exact ⟨rfl, rfl⟩
    · have y3 : b ≤ x - 65 + 10 := by omega
      have HR : Hid (r = -1) := Lib.hid h2
      clear h1 h2 q1 q2 q3 hx hb
      go_enter Tryd.func52, Tryd.ntmps52
      go_wp2
      go_ret
      rw [HR.out]
      exact ⟨rfl, rfl⟩
  · have HR : Hid (r = -1) := Lib.hid (by omega)
    have HW : Hid ((x < 48 ∨ 57 < x) ∧ (x < 97 ∨ 122 < x) ∧ (x < 65 ∨ 90 < x)) := Lib.hid (by omega)
    clear hr2 q1 q2 q3 q4 hx hb
    obtain ⟨w1, w2, w3⟩ := HW.out
    clear HW
    rcases w1 with w1 | w1 <;> rcases w2 with w2 | w2 <;> rcases w3 with w3 | w3
    all_goals first | (exfalso; omega) | skip
    all_goals
      go_enter Tryd.func52, Tryd.ntmps52
      go_wp2
      go_ret
      rw [HR.out]
      exact ⟨rfl, rfl⟩

/-- What prefixed29 hands back. -/
def PreIs (s : ByteArray) (e : Ending) : Prop := ∃ (t : ByteArray) (B : Nat), e = .returned (.tuple #[.string t, .int .u64 (B : Nat)]) ∧ pre29 s.data.toList = (B, t.data.toList) ∧ (B = 2 ∨ B = 10 ∨ B = 16 ∨ (B = 8 ∧ 2 ≤ s.size ∧ 0 < t.size)) ∧ t.size ≤ s.size
theorem size_drop (s : ByteArray) (i : Nat) : (s.extract i s.size).size = s.size - i := by
  rw [ByteArray.size_extract]; omega
theorem pre_of3 (s : ByteArray) (h2 : 3 ≤ s.size) : ∃ r, s.data.toList = s[0] :: s[1] :: s[2] :: r ∧ (s.extract 1 s.size).data.toList = s[1] :: s[2] :: r ∧ (s.extract 2 s.size).data.toList = s[2] :: r := by
  have e := three_heads s h2
  refine ⟨_, e, ?_, ?_⟩
  · rw [ext_drop]
    obtain ⟨l, hl⟩ : ∃ l, l = s.data.toList.drop 3 := ⟨_, rfl⟩
    rw [← hl] at e ⊢
    rw [e]
    rfl
  · rw [ext_drop]
    obtain ⟨l, hl⟩ : ∃ l, l = s.data.toList.drop 3 := ⟨_, rfl⟩
    rw [← hl] at e ⊢
    rw [e]
    rfl
theorem lw_x (c : UInt8) (k : Nat) (hk : k = 98 ∨ k = 111 ∨ k = 120) : lw c = k ↔ (c.toNat = k ∨ c.toNat = k - 32) := by
  have := lw_eq c
  have hc := c.toNat_lt
  rw [this]
  generalize c.toNat = x at *
  split <;> omega
end Go.Proofs.YtlnnmionbflolaaDoor
