/- The walks of the reference's digit29, and digits29 at base 10. -/
import Derived.Test.YtlnnmionbflolaaDoorPu1b
import Derived.Test.YtlnnmionbflolaaDoorPuSpec
import Derived.Test.YtlnnmionbflolaaDoorH
import Derived.Lib.ConvBytes
namespace Go.Proofs.YtlnnmionbflolaaDoor
open Go.RowKit
set_option linter.unusedVariables false
set_option linter.unusedSimpArgs false

def d29 (c : UInt8) (B : Nat) : Int := if dig0 c < B then (dig0 c : Nat) else -1
set_option maxRecDepth 100000 in
set_option maxHeartbeats 3200000 in
theorem digit_any (c : UInt8) (B : Nat) (hB : 2 ≤ B ∧ B ≤ 36) (w : World) : Calls Tryd.prog 52 #[.int .u8 (c.toNat : Nat), .int .u64 (B : Nat)] w fun e w' => e = .returned (.int .i64 (d29 c B)) ∧ w = w' := by
  have hw := dig0_ways c
  have HR : Hid (∃ r : Int, r = d29 c B ∧ ((dig0 c < B ∧ r = dig0 c) ∨ (B ≤ dig0 c ∧ r = -1))) := Lib.hid ⟨_, rfl, by unfold d29; split <;> omega⟩
  obtain ⟨r, hr, hr2⟩ := HR.out
  rw [← hr]
  clear HR hr
  obtain ⟨hB1, hB2⟩ := hB
  have hc := c.toNat_lt
  generalize c.toNat = xn at *
  generalize dig0 c = d at *
  obtain ⟨x, hx⟩ : ∃ x : Int, x = (xn : Nat) := ⟨_, rfl⟩
  obtain ⟨b, hb⟩ : ∃ b : Int, b = (B : Nat) := ⟨_, rfl⟩
  rw [← hx, ← hb]
  have b1 : 2 ≤ b := by omega
  have b2 : b ≤ 36 := by omega
  have x1 : 0 ≤ x := by omega
  have x2 : x ≤ 255 := by omega
  rcases hw with ⟨q1, q2, q3⟩ | ⟨q1, q2, q3⟩ | ⟨q1, q2, q3⟩ | ⟨q1, q2, q3, q4⟩
  · have y1 : 48 ≤ x := by omega
    have y2 : x ≤ 57 := by omega
    rcases hr2 with ⟨h1, h2⟩ | ⟨h1, h2⟩
    · have y3 : x - 48 < b := by omega
      have HR : Hid (r = x - 48) := Lib.hid (by omega)
      clear h1 h2 q1 q2 q3 hx hb
      go_enter Tryd.func52, Tryd.ntmps52
      go_wp2
      go_ret
      rw [HR.out]
      exact ⟨rfl, rfl⟩
    · have y3 : b ≤ x - 48 := by omega
      have HR : Hid (r = -1) := Lib.hid h2
      clear h1 h2 q1 q2 q3 hx hb
      go_enter Tryd.func52, Tryd.ntmps52
      go_wp2
      go_ret
      rw [HR.out]
      exact ⟨rfl, rfl⟩
  · have y1 : 97 ≤ x := by omega
    have y2 : x ≤ 122 := by omega
    rcases hr2 with ⟨h1, h2⟩ | ⟨h1, h2⟩
    · have y3 : x - 97 + 10 < b := by omega
      have HR : Hid (r = x - 97 + 10) := Lib.hid (by omega)
      clear h1 h2 q1 q2 q3 hx hb
      go_enter Tryd.func52, Tryd.ntmps52
      go_wp2
      go_ret
      rw [HR.out]
      exact ⟨rfl, rfl⟩
    · have y3 : b ≤ x - 97 + 10 := by omega
      have HR : Hid (r = -1) := Lib.hid h2
      clear h1 h2 q1 q2 q3 hx hb
      go_enter Tryd.func52, Tryd.ntmps52
      go_wp2
      go_ret
      rw [HR.out]
      exact ⟨rfl, rfl⟩
  · have y1 : 65 ≤ x := by omega
    have y2 : x ≤ 90 := by omega
    rcases hr2 with ⟨h1, h2⟩ | ⟨h1, h2⟩
    · have y3 : x - 65 + 10 < b := by omega
      have HR : Hid (r = x - 65 + 10) := Lib.hid (by omega)
      clear h1 h2 q1 q2 q3 hx hb
      go_enter Tryd.func52, Tryd.ntmps52
      go_wp2
      go_ret
      rw [HR.out]
      exact ⟨rfl, rfl⟩
    · have y3 : b ≤ x - 65 + 10 := by omega
      have HR : Hid (r = -1) := Lib.hid h2
      clear h1 h2 q1 q2 q3 hx hb
      go_enter Tryd.func52, Tryd.ntmps52
      go_wp2
      go_ret
      rw [HR.out]
      exact ⟨rfl, rfl⟩
  · have HR : Hid (r = -1) := Lib.hid (by omega)
    have HW : Hid ((x < 48 ∨ 57 < x) ∧ (x < 97 ∨ 122 < x) ∧ (x < 65 ∨ 90 < x)) := Lib.hid (by omega)
    clear hr2 q1 q2 q3 q4 hx hb
    obtain ⟨w1, w2, w3⟩ := HW.out
    clear HW
    rcases w1 with w1 | w1 <;> rcases w2 with w2 | w2 <;> rcases w3 with w3 | w3
    all_goals first | (exfalso; omega) | skip
    all_goals
      go_enter Tryd.func52, Tryd.ntmps52
      go_wp2
      go_ret
      rw [HR.out]
      exact ⟨rfl, rfl⟩

set_option maxRecDepth 100000 in
set_option maxHeartbeats 6400000 in
theorem digits_10 (t : ByteArray) (ht : t.size ≤ 2147483647) (M : Nat) (hM : 255 ≤ M ∧ M ≤ 18446744073709551615) (w : World) : Calls Tryd.prog 34 #[.string t, .int .u64 10, .int .u64 (M : Nat)] w fun e w' => e = .returned (.tuple #[.int .u64 ((dres 10 M t.data.toList).1 : Nat), .int .i64 ((dres 10 M t.data.toList).2 : Nat)]) ∧ w = w' := by
  obtain ⟨R, hR⟩ : ∃ R, R = dres 10 M t.data.toList := ⟨_, rfl⟩
  rw [← hR]
  obtain ⟨m, hm⟩ : ∃ m : Int, m = (M : Nat) := ⟨_, rfl⟩
  rw [← hm]
  have m1 : 255 ≤ m := by omega
  have m2 : m ≤ 18446744073709551615 := by omega
  by_cases h0 : t.size = 0
  · obtain rfl : t = ⟨#[]⟩ := by
      apply ByteArray.ext
      exact Array.eq_empty_of_size_eq_zero h0
    have HF : Hid (R = (0, 2)) := Lib.hid hR
    clear hR hm hM h0
    go_enter Tryd.func34, Tryd.ntmps34
    go_wp2_with fail
    go_ret2
    rw [HF.out]
    exact ⟨rfl, rfl⟩
  have hne := ne_empty (s := t) (by omega)
  have HR : Hid (R = dend (dgs 10 M 0 false t.data.toList)) := Lib.hid (by rw [hR, dres, if_neg (ne_nil (by omega))])
  clear hR h0
  go_enter Tryd.func34, Tryd.ntmps34
  go_wp2_with fail
  go_loop [8, 9, 16] (fun vn vo vi => ∃ (k : Nat) (a : Int) (over : Bool), k ≤ t.size ∧ vn = .int .u64 a ∧ vo = .bool over ∧ vi = .int .i64 (k : Nat) ∧ Hid (∃ n : Nat, a = n ∧ n ≤ M ∧ dgs 10 M 0 false t.data.toList = dgs 10 M n over (t.data.toList.drop k))) (fun _ _ vi => t.size - (intOf vi).toNat)
  case atStart => exact ⟨0, 0, false, Nat.zero_le _, rfl, rfl, rfl, Lib.hid ⟨0, rfl, by omega, rfl⟩⟩
  case round =>
    obtain ⟨k, a, over, hk, rfl, rfl, rfl, hh⟩ := hrel
    obtain ⟨n, ha, hn, hd⟩ := hh.out
    clear hh
    have a0 : 0 ≤ a := by omega
    have a1 : a ≤ m := by omega
    by_cases hlt : k < t.size
    · rw [drop_get t k hlt] at hd
      have C2 := Lib.hid (fun W => (show Calls Tryd.prog 52 #[.int .u8 (t[k].toNat : Nat), .int .u64 10] W fun e w' => e = .returned (.int .i64 (d29 t[k] 10)) ∧ W = w' from digit_any t[k] 10 (by omega) W))
      by_cases hdB : dig0 t[k] < 10
      · have er : d29 t[k] 10 = (dig0 t[k] : Nat) := by rw [d29, if_pos hdB]
        rw [er] at C2
        have HG : Hid (dgs 10 M 0 false t.data.toList = if over || decide (n * 10 + dig0 t[k] > M) then dgs 10 M n true (t.data.toList.drop (k + 1)) else dgs 10 M (n * 10 + dig0 t[k]) over (t.data.toList.drop (k + 1))) := Lib.hid (by rw [hd, dgs, if_pos hdB])
        clear hd er
        generalize dig0 t[k] = dn at *
        obtain ⟨d, hd⟩ : ∃ d : Int, d = (dn : Nat) := ⟨_, rfl⟩
        rw [← hd] at C2
        have d0 : 0 ≤ d := by omega
        have d1 : d < 10 := by omega
        cases over with
        | true =>
          have HN : Hid (∃ n : Nat, a = n ∧ n ≤ M ∧ dgs 10 M 0 false t.data.toList = dgs 10 M n true (t.data.toList.drop (k + 1))) := Lib.hid ⟨n, ha, hn, HG.out⟩
          clear HG ha hn hd hdB hm hM
          go_wp2_with (refine (C2.out _).mono ?_; rintro e w' ⟨rfl, rfl⟩)
          go_round
          case rel => exact ⟨k + 1, a, true, by omega, rfl, rfl, by go_num, HN⟩
          case measure => simp [intOf]; omega
        | false =>
          by_cases hov : n * 10 + dn > M
          · have HN : Hid (∃ n : Nat, a = n ∧ n ≤ M ∧ dgs 10 M 0 false t.data.toList = dgs 10 M n true (t.data.toList.drop (k + 1))) := Lib.hid ⟨n, ha, hn, by rw [HG.out]; simp [hov]⟩
            have q : (m - d) / 10 < a := by omega
            clear HG ha hn hd hdB hm hov hM
            go_wp2_with (refine (C2.out _).mono ?_; rintro e w' ⟨rfl, rfl⟩)
            go_round
            case rel => exact ⟨k + 1, a, true, by omega, rfl, rfl, by go_num, HN⟩
            case measure => simp [intOf]; omega
          · have HN : Hid (∃ n : Nat, a * 10 + d = n ∧ n ≤ M ∧ dgs 10 M 0 false t.data.toList = dgs 10 M n false (t.data.toList.drop (k + 1))) := Lib.hid ⟨n * 10 + dn, by omega, by omega, by rw [HG.out]; simp [hov]⟩
            have q : a ≤ (m - d) / 10 := by omega
            have q2 : d ≤ m := by omega
            have q3 : a * 10 + d ≤ m := by omega
            clear HG ha hn hd hdB hm hov hM
            go_wp2_with (refine (C2.out _).mono ?_; rintro e w' ⟨rfl, rfl⟩)
            go_round
            case rel => exact ⟨k + 1, _, false, by omega, rfl, rfl, by go_num, HN⟩
            case measure => simp [intOf]; omega
      · have er : d29 t[k] 10 = -1 := by rw [d29, if_neg hdB]
        rw [er] at C2
        have HF : Hid (R = (0, 2)) := Lib.hid (by rw [HR.out, hd, dgs, if_neg hdB]; rfl)
        clear hd er ha hn hdB hm hM
        go_wp2_with (refine (C2.out _).mono ?_; rintro e w' ⟨rfl, rfl⟩)
        go_ret2
        rw [HF.out]
        exact ⟨rfl, rfl⟩
    · have HF : Hid (R = if over then (0, 2) else (n, 1)) := Lib.hid (by rw [HR.out, hd, List.drop_eq_nil_of_le (by simp; omega)]; rfl)
      subst ha
      clear hd hn hm hM
      cases over
      all_goals
        go_wp2_with fail
        go_ret2
        rw [HF.out]
        exact ⟨rfl, rfl⟩

end Go.Proofs.YtlnnmionbflolaaDoor
