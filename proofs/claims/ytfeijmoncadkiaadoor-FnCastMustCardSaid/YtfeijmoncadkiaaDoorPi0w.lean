/- The walk of internal/strconv.ParseInt at base 0 (0 bits). (Printed by gen_pi.py.) -/
import Derived.Test.YtfeijmoncadkiaaDoorPiW
namespace Go.Proofs.YtfeijmoncadkiaaDoor
open Go.RowKit
set_option linter.unusedVariables false
set_option linter.unusedSimpArgs false

set_option maxRecDepth 100000 in
set_option maxHeartbeats 6400000 in
theorem pi0_p (s : ByteArray) (hs : s.size ≤ 2147483647) (h0 : 0 < s.size) (hz : s[0].toNat = 43) (w : World) :
    Calls Tryd.prog 58 #[.string s, .int .i64 0, .int .i64 0] w fun e w' => e = .returned (ri (pi0 9223372036854775808 18446744073709551615 s.data.toList)) ∧ Below w.heap.size w w' := by
  have hemp : (s.toList == []) = false := ne_empty h0
  have f43 : ((s[0].toNat : Int) == 43) = true := by simp [hz]
  have hsg : sgn s.data.toList = (false, (s.extract 1 s.size).data.toList) := by
    have a := drop_get s 0 h0
    rw [List.drop_zero] at a
    rw [ext_drop, a]; simp only [List.drop_succ_cons, List.drop_zero]
    rw [a]
    simp [sgn, hz]
  have hsz : (s.extract 1 s.size).size ≤ 2147483647 := by first | exact hs | (rw [ByteArray.size_extract]; omega)
  have C := Lib.hid (puInner0 (s.extract 1 s.size) hsz w)
  have HP : Hid (pi0 9223372036854775808 18446744073709551615 s.data.toList = endI 9223372036854775808 false (pu0 18446744073709551615 (s.extract 1 s.size).data.toList)) := Lib.hid (by rw [pi0, if_neg (ne_nil h0), hsg])
  generalize pi0 9223372036854775808 18446744073709551615 s.data.toList = R at *
  have HLE : Hid (∀ n us, pu0 18446744073709551615 (s.extract 1 s.size).data.toList = .ok n us → n ≤ 18446744073709551615) := Lib.hid (fun n us h => pu0_le h)
  generalize pu0 18446744073709551615 (s.extract 1 s.size).data.toList = r at *
  have hq2 : ∀ W, (binOp .neq 37 (.iface 122 (.int .i64 2)) (.iface 122 (.int .i64 1))).run Tryd.prog W = .ok (.bool true) W := fun W => neq_err W 2 1
  have hq1 : ∀ W, (binOp .neq 37 (.iface 122 (.int .i64 1)) (.iface 122 (.int .i64 1))).run Tryd.prog W = .ok (.bool false) W := fun W => neq_err W 1 1
  clear hz hsg hsz
  go_enter Tryd.func58, Tryd.ntmps58
  go_wp2_with fail
  refine C.out.mono ?_
  rintro e w2 ⟨rfl, hb⟩
  have HB := Lib.hid hb
  clear hb C
  cases r with
  | syn =>
    have HF : Hid (R = (0, 2)) := Lib.hid HP.out
    clear HP HLE
    unfold r0
    go_wp2_with fail
    go_ret2
    rw [HF.out]
    exact ⟨rfl, HB.out⟩
  | rng =>
    have HF : Hid (R = (9223372036854775807, 1)) := Lib.hid (by rw [HP.out]; rfl)
    clear HP HLE
    unfold r0
    go_wp2_with fail
    go_ret2
    rw [HF.out]
    exact ⟨rfl, HB.out⟩
  | ok n us =>
    have hn := HLE.out n us rfl
    have HP2 : Hid (R = endI 9223372036854775808 false (.ok n us)) := HP
    clear HP HLE
    rw [r0_ok]
    obtain ⟨m, hm⟩ : ∃ m : Int, m = (n : Nat) := ⟨_, rfl⟩
    rw [← hm]
    have m0 : 0 ≤ m := by omega
    have m1 : m ≤ 18446744073709551615 := by omega
    by_cases hc : n ≥ 9223372036854775808
    · have HF : Hid (R = (9223372036854775807, 1)) := Lib.hid (by rw [HP2.out, endI]; simp [hc])
      have m2 : 9223372036854775808 ≤ m := by omega
      clear HP2 hc hn hm
      go_wp2_with fail
      go_ret2
      rw [HF.out]
      exact ⟨rfl, HB.out⟩
    · have HF : Hid (R = (m, 0)) := Lib.hid (by rw [HP2.out, endI, hm]; simp [hc])
      have m2 : m < 9223372036854775808 := by omega
      clear HP2 hc hn hm
      go_wp2_with fail
      go_ret2
      rw [HF.out]
      exact ⟨rfl, HB.out⟩
set_option maxRecDepth 100000 in
set_option maxHeartbeats 6400000 in
theorem pi0_m (s : ByteArray) (hs : s.size ≤ 2147483647) (h0 : 0 < s.size) (hz : s[0].toNat = 45) (w : World) :
    Calls Tryd.prog 58 #[.string s, .int .i64 0, .int .i64 0] w fun e w' => e = .returned (ri (pi0 9223372036854775808 18446744073709551615 s.data.toList)) ∧ Below w.heap.size w w' := by
  have hemp : (s.toList == []) = false := ne_empty h0
  have f43 : ((s[0].toNat : Int) == 43) = false := by rw [beq_eq_false_iff_ne]; omega
  have f45 : ((s[0].toNat : Int) == 45) = true := by simp [hz]
  have hsg : sgn s.data.toList = (true, (s.extract 1 s.size).data.toList) := by
    have a := drop_get s 0 h0
    rw [List.drop_zero] at a
    rw [ext_drop, a]; simp only [List.drop_succ_cons, List.drop_zero]
    rw [a]
    simp [sgn, hz]
  have hsz : (s.extract 1 s.size).size ≤ 2147483647 := by first | exact hs | (rw [ByteArray.size_extract]; omega)
  have C := Lib.hid (puInner0 (s.extract 1 s.size) hsz w)
  have HP : Hid (pi0 9223372036854775808 18446744073709551615 s.data.toList = endI 9223372036854775808 true (pu0 18446744073709551615 (s.extract 1 s.size).data.toList)) := Lib.hid (by rw [pi0, if_neg (ne_nil h0), hsg])
  generalize pi0 9223372036854775808 18446744073709551615 s.data.toList = R at *
  have HLE : Hid (∀ n us, pu0 18446744073709551615 (s.extract 1 s.size).data.toList = .ok n us → n ≤ 18446744073709551615) := Lib.hid (fun n us h => pu0_le h)
  generalize pu0 18446744073709551615 (s.extract 1 s.size).data.toList = r at *
  have hq2 : ∀ W, (binOp .neq 37 (.iface 122 (.int .i64 2)) (.iface 122 (.int .i64 1))).run Tryd.prog W = .ok (.bool true) W := fun W => neq_err W 2 1
  have hq1 : ∀ W, (binOp .neq 37 (.iface 122 (.int .i64 1)) (.iface 122 (.int .i64 1))).run Tryd.prog W = .ok (.bool false) W := fun W => neq_err W 1 1
  have HMV : Hid (wrap64 (-wrap64 9223372036854775808) = -9223372036854775808) := Lib.hid (by unfold wrap64; omega)
  clear hz hsg hsz
  go_enter Tryd.func58, Tryd.ntmps58
  go_wp2_with fail
  refine C.out.mono ?_
  rintro e w2 ⟨rfl, hb⟩
  have HB := Lib.hid hb
  clear hb C
  cases r with
  | syn =>
    have HF : Hid (R = (0, 2)) := Lib.hid HP.out
    clear HP HLE
    unfold r0
    go_wp2_with fail
    go_ret2
    rw [HF.out]
    exact ⟨rfl, HB.out⟩
  | rng =>
    have HF : Hid (R = (-9223372036854775808, 1)) := Lib.hid (by rw [HP.out]; rfl)
    clear HP HLE
    unfold r0
    go_wp2_with fail
    go_ret2
    rw [HF.out]
    exact ⟨by show Ending.returned (Value.tuple #[Value.int .i64 (wrap64 (-wrap64 9223372036854775808)), _]) = _; rw [HMV.out]; rfl, HB.out⟩
  | ok n us =>
    have hn := HLE.out n us rfl
    have HP2 : Hid (R = endI 9223372036854775808 true (.ok n us)) := HP
    clear HP HLE
    rw [r0_ok]
    obtain ⟨m, hm⟩ : ∃ m : Int, m = (n : Nat) := ⟨_, rfl⟩
    rw [← hm]
    have m0 : 0 ≤ m := by omega
    have m1 : m ≤ 18446744073709551615 := by omega
    by_cases hc : n > 9223372036854775808
    · have HF : Hid (R = (-9223372036854775808, 1)) := Lib.hid (by rw [HP2.out, endI]; simp [hc])
      have m2 : 9223372036854775808 < m := by omega
      clear HP2 hc hn hm
      go_wp2_with fail
      go_ret2
      rw [HF.out]
      exact ⟨by show Ending.returned (Value.tuple #[Value.int .i64 (wrap64 (-wrap64 9223372036854775808)), _]) = _; rw [HMV.out]; rfl, HB.out⟩
    · have HF : Hid (R = (-m, 0)) := Lib.hid (by rw [HP2.out, endI, hm]; simp [hc])
      have m2 : m ≤ 9223372036854775808 := by omega
      have HW : Hid (wrap64 (-wrap64 m) = -m) := Lib.hid (by
        unfold wrap64
        omega)
      clear HP2 hc hn hm
      go_wp2_with fail
      go_ret2
      rw [HF.out]
      exact ⟨by show Ending.returned (Value.tuple #[Value.int .i64 (wrap64 (-wrap64 m)), _]) = _; rw [HW.out]; rfl, HB.out⟩
set_option maxRecDepth 100000 in
set_option maxHeartbeats 6400000 in
theorem pi0_n (s : ByteArray) (hs : s.size ≤ 2147483647) (h0 : 0 < s.size) (hz : s[0].toNat ≠ 43 ∧ s[0].toNat ≠ 45) (w : World) :
    Calls Tryd.prog 58 #[.string s, .int .i64 0, .int .i64 0] w fun e w' => e = .returned (ri (pi0 9223372036854775808 18446744073709551615 s.data.toList)) ∧ Below w.heap.size w w' := by
  have hemp : (s.toList == []) = false := ne_empty h0
  have f43 : ((s[0].toNat : Int) == 43) = false := by rw [beq_eq_false_iff_ne]; omega
  have f45 : ((s[0].toNat : Int) == 45) = false := by rw [beq_eq_false_iff_ne]; omega
  have hsg : sgn s.data.toList = (false, s.data.toList) := by
    have a := drop_get s 0 h0
    rw [List.drop_zero] at a
    skip
    rw [a]
    simp [sgn, hz]
  have hsz : s.size ≤ 2147483647 := by first | exact hs | (rw [ByteArray.size_extract]; omega)
  have C := Lib.hid (puInner0 s hsz w)
  have HP : Hid (pi0 9223372036854775808 18446744073709551615 s.data.toList = endI 9223372036854775808 false (pu0 18446744073709551615 s.data.toList)) := Lib.hid (by rw [pi0, if_neg (ne_nil h0), hsg])
  generalize pi0 9223372036854775808 18446744073709551615 s.data.toList = R at *
  have HLE : Hid (∀ n us, pu0 18446744073709551615 s.data.toList = .ok n us → n ≤ 18446744073709551615) := Lib.hid (fun n us h => pu0_le h)
  generalize pu0 18446744073709551615 s.data.toList = r at *
  have hq2 : ∀ W, (binOp .neq 37 (.iface 122 (.int .i64 2)) (.iface 122 (.int .i64 1))).run Tryd.prog W = .ok (.bool true) W := fun W => neq_err W 2 1
  have hq1 : ∀ W, (binOp .neq 37 (.iface 122 (.int .i64 1)) (.iface 122 (.int .i64 1))).run Tryd.prog W = .ok (.bool false) W := fun W => neq_err W 1 1
  clear hz hsg hsz
  go_enter Tryd.func58, Tryd.ntmps58
  go_wp2_with fail
  refine C.out.mono ?_
  rintro e w2 ⟨rfl, hb⟩
  have HB := Lib.hid hb
  clear hb C
  cases r with
  | syn =>
    have HF : Hid (R = (0, 2)) := Lib.hid HP.out
    clear HP HLE
    unfold r0
    go_wp2_with fail
    go_ret2
    rw [HF.out]
    exact ⟨rfl, HB.out⟩
  | rng =>
    have HF : Hid (R = (9223372036854775807, 1)) := Lib.hid (by rw [HP.out]; rfl)
    clear HP HLE
    unfold r0
    go_wp2_with fail
    go_ret2
    rw [HF.out]
    exact ⟨rfl, HB.out⟩
  | ok n us =>
    have hn := HLE.out n us rfl
    have HP2 : Hid (R = endI 9223372036854775808 false (.ok n us)) := HP
    clear HP HLE
    rw [r0_ok]
    obtain ⟨m, hm⟩ : ∃ m : Int, m = (n : Nat) := ⟨_, rfl⟩
    rw [← hm]
    have m0 : 0 ≤ m := by omega
    have m1 : m ≤ 18446744073709551615 := by omega
    by_cases hc : n ≥ 9223372036854775808
    · have HF : Hid (R = (9223372036854775807, 1)) := Lib.hid (by rw [HP2.out, endI]; simp [hc])
      have m2 : 9223372036854775808 ≤ m := by omega
      clear HP2 hc hn hm
      go_wp2_with fail
      go_ret2
      rw [HF.out]
      exact ⟨rfl, HB.out⟩
    · have HF : Hid (R = (m, 0)) := Lib.hid (by rw [HP2.out, endI, hm]; simp [hc])
      have m2 : m < 9223372036854775808 := by omega
      clear HP2 hc hn hm
      go_wp2_with fail
      go_ret2
      rw [HF.out]
      exact ⟨rfl, HB.out⟩
set_option maxRecDepth 100000 in
theorem pi0_any (s : ByteArray) (hs : s.size ≤ 2147483647) (w : World) :
    Calls Tryd.prog 58 #[.string s, .int .i64 0, .int .i64 0] w fun e w' => e = .returned (ri (pi0 9223372036854775808 18446744073709551615 s.data.toList)) ∧ Below w.heap.size w w' := by
  by_cases h0 : 0 < s.size
  · by_cases h1 : s[0].toNat = 43
    · exact pi0_p s hs h0 h1 w
    · by_cases h2 : s[0].toNat = 45
      · exact pi0_m s hs h0 h2 w
      · exact pi0_n s hs h0 ⟨h1, h2⟩ w
  · obtain rfl : s = ⟨#[]⟩ := by
      apply ByteArray.ext
      exact Array.eq_empty_of_size_eq_zero (by show ByteArray.size _ = 0; omega)
    have HF : Hid (pi0 9223372036854775808 18446744073709551615 (⟨#[]⟩ : ByteArray).data.toList = (0, 2)) := Lib.hid rfl
    generalize pi0 9223372036854775808 18446744073709551615 (⟨#[]⟩ : ByteArray).data.toList = R at *
    clear h0
    go_enter Tryd.func58, Tryd.ntmps58
    go_wp2
    go_ret2
    rw [HF.out]
    exact ⟨rfl, Below.refl _ _⟩
end Go.Proofs.YtfeijmoncadkiaaDoor
