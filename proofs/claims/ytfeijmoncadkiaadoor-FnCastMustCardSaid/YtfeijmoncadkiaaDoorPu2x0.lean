/- The walk of internal/strconv.ParseUint where the base is told by the text (0 bits). (Printed by gen_pu2.py.) -/
import Derived.Test.YtfeijmoncadkiaaDoorPu1b
import Derived.Laws.Strings3
import Derived.Laws.Closers25
import Derived.Laws.Closers25b
import Derived.Lib.AtoiErrMem
import Derived.BigCall
import Derived.BigGuard
namespace Go.Proofs.YtfeijmoncadkiaaDoor
open Go.RowKit
set_option linter.unusedVariables false
set_option linter.unusedSimpArgs false

set_option maxRecDepth 100000 in
set_option maxHeartbeats 6400000 in
theorem pu0_d (s : ByteArray) (hs : s.size ≤ 2147483647) (h0 : 0 < s.size) (hz : s[0].toNat ≠ 48) (w : World) :
    Calls Tryd.prog 62 #[.string s, .int .i64 0, .int .i64 0] w fun e w' => e = .returned (r0 18446744073709551615 (pu0 18446744073709551615 s.data.toList)) ∧ Below w.heap.size w w' := by
  have hemp : (s.toList == []) = false := ne_empty h0
  have e48 : ((s[0].toNat : Int) == 48) = false := by rw [beq_eq_false_iff_ne]; omega
  have HP : Hid (pu0 18446744073709551615 s.data.toList = fin0 (und0 s.data.toList) (go0 10 18446744073709551615 0 false (s).data.toList)) := Lib.hid (by
    rw [pu0, if_neg (ne_nil h0), pre_d s h0 hz])
  have HS : Hid (∀ n us, go0 10 18446744073709551615 0 false (s).data.toList = .ok n us → s[0].toNat ≠ 43 ∧ s[0].toNat ≠ 45) := Lib.hid (by
    exact fun n us h => no_sign s h0 h)
  have hts : (s).size = s.size := by first | rfl | (rw [ByteArray.size_extract]; omega)
  have hcv := Lib.run_convert_string_bytes (P := Tryd.prog) w 9 57 5 (s) (u := .string) Tryd.underlying9 Tryd.underlying57 Tryd.underlying5
  have hB : ∀ j, j < (s).size → (Lib.bytesWorld w 5 (s)).cell? ⟨w.heap.size, j, none⟩ = some (.int .u8 ((s).data.toList.getD j 0).toNat) := fun j hj => Lib.bytesWorld_cell w 5 (s) j hj
  have HB1 := Lib.hid (Lib.bytesWorld_below w 5 (s))
  rw [hts] at hcv hB
  obtain ⟨W1, hW1⟩ : ∃ W1, W1 = Lib.bytesWorld w 5 (s) := ⟨_, rfl⟩
  rw [← hW1] at hcv hB HB1
  clear hW1
  obtain ⟨bs, hL⟩ : ∃ bs, bs = (s).data.toList := ⟨_, rfl⟩
  have hLn : bs.length = s.size := by
    rw [hL, Array.length_toList]
    exact hts
  have HUND := Lib.hid (fun (h : s[0].toNat ≠ 43 ∧ s[0].toNat ≠ 45) W => und_any s hs h0 h W)
  obtain ⟨U, hU⟩ : ∃ U, U = und0 s.data.toList := ⟨_, rfl⟩
  obtain ⟨R, hR⟩ : ∃ R, R = pu0 18446744073709551615 s.data.toList := ⟨_, rfl⟩
  rw [← hU] at HP HUND
  rw [← hR] at HP ⊢
  clear hU hR
  rw [← hL] at hB HP HS
  clear hL
  have hmv : IntKind.u64.wrap (IntKind.u64.wrap 18446744073709551616 - 1) = 18446744073709551615 := by
    rw [IntKind.wrap_u64, IntKind.wrap_u64]
    decide
  clear hts
  go_enter Tryd.func62, Tryd.ntmps62
  go_wp2_with (go_at_call 69; refine (low_any _ _).mono ?_; rintro e w' ⟨rfl, rfl⟩)
  go_loop [12, 13, 101] (fun vu vn vi => ∃ (k : Nat) (us : Bool) (a : Int), k ≤ s.size ∧ vu = .bool us ∧ vn = .int .u64 a ∧ vi = .int .i64 (k : Nat) ∧ Hid (∃ acc : Nat, a = acc ∧ acc ≤ 18446744073709551615 ∧ go0 10 18446744073709551615 0 false bs = go0 10 18446744073709551615 acc us (bs.drop k))) (fun _ _ vi => s.size - (intOf vi).toNat)
  case atStart => exact ⟨0, false, 0, Nat.zero_le _, rfl, rfl, rfl, Lib.hid ⟨0, rfl, by omega, rfl⟩⟩
  case round =>
    obtain ⟨k, us, a, hk, rfl, rfl, rfl, hh⟩ := hrel
    obtain ⟨acc, ha, hacc, hdec⟩ := hh.out
    clear hh
    have a0 : 0 ≤ a := by omega
    have a1 : a ≤ 18446744073709551615 := by omega
    by_cases hkn : k < s.size
    · have hc := hB k hkn
      clear hB
      have hdrop : bs.drop k = bs[k]'(by omega) :: bs.drop (k + 1) := List.drop_eq_getElem_cons (by omega)
      have hget : bs.getD k 0 = bs[k]'(by omega) := by simp [List.getD, List.getElem?_eq_getElem (show k < bs.length by omega)]
      rw [hdrop] at hdec
      rw [hget] at hc
      generalize bs[k]'(by omega) = c at hc hdec
      have hc256 : c.toNat < 256 := c.toNat_lt
      have hlw := lw_lt c
      clear hdrop hget
      by_cases h95 : c.toNat = 95
      · have e95 : ((c.toNat : Int) == 95) = true := by simp [h95]
        have HN : Hid (∃ acc : Nat, a = acc ∧ acc ≤ 18446744073709551615 ∧ go0 10 18446744073709551615 0 false bs = go0 10 18446744073709551615 acc true (bs.drop (k + 1))) := Lib.hid ⟨acc, ha, hacc, by rw [hdec]; simp only [go0, h95, if_true]⟩
        clear hdec ha hacc h95
        go_wp2_with (go_at_call 69; refine (low_any _ _).mono ?_; rintro e w' ⟨rfl, rfl⟩)
        go_round
        case rel => exact ⟨k + 1, true, a, by omega, rfl, rfl, by go_num, HN⟩
        case measure => simp [intOf]; omega
      have e95 : ((c.toNat : Int) == 95) = false := by rw [beq_eq_false_iff_ne]; omega
      have HG : Hid (go0 10 18446744073709551615 0 false bs = if dig0 c ≥ 10 then .syn else if acc * 10 + dig0 c > 18446744073709551615 then .rng else go0 10 18446744073709551615 (acc * 10 + dig0 c) us (bs.drop (k + 1))) := Lib.hid (by rw [hdec]; simp only [go0, h95, if_false])
      clear hdec
      -- the digit
      have HD : Hid (∃ d : Int, d = dig0 c ∧ 0 ≤ d ∧ d ≤ 255 ∧ ((decide (48 ≤ (c.toNat : Int)) = true ∧ decide ((c.toNat : Int) ≤ 57) = true ∧ d = (c.toNat : Int) - 48) ∨ (((decide (48 ≤ (c.toNat : Int)) = true ∧ decide ((c.toNat : Int) ≤ 57) = false) ∨ decide (48 ≤ (c.toNat : Int)) = false) ∧ ((decide (97 ≤ (lw c : Int)) = true ∧ decide ((lw c : Int) ≤ 122) = true ∧ d = (lw c : Int) - 97 + 10) ∨ (((decide (97 ≤ (lw c : Int)) = true ∧ decide ((lw c : Int) ≤ 122) = false) ∨ decide (97 ≤ (lw c : Int)) = false) ∧ d = 255))))) := Lib.hid (digit_ways c)
      obtain ⟨d, hd, d0, d1, hway⟩ := HD.out
      clear HD h95
      by_cases hdB : dig0 c ≥ 10
      · -- no digit of the base
        have HF : Hid (R = .syn) := Lib.hid (by rw [HP.out, HG.out, if_pos hdB]; rfl)
        have dB : 10 ≤ d := by omega
        clear HG ha hacc hdB hd
        rcases hway with ⟨q1, q2, rfl⟩ | ⟨⟨q1, q2⟩ | q1, ⟨q3, q4, rfl⟩ | ⟨⟨q3, q4⟩ | q3, rfl⟩⟩
        all_goals (first | have q1' := of_decide_eq_true q1 | skip)
        all_goals (first | have q2' := of_decide_eq_true q2 | skip)
        all_goals (first | have q3' := of_decide_eq_true q3 | skip)
        all_goals (first | have q4' := of_decide_eq_true q4 | skip)
        all_goals go_wp2_with (go_at_call 69; refine (low_any _ _).mono ?_; rintro e w' ⟨rfl, rfl⟩)
        all_goals go_ret2
        all_goals exact ⟨by rw [HF.out]; rfl, HB1.out⟩
      have dB : d < 10 := by omega
      by_cases hov : acc * 10 + dig0 c > 18446744073709551615
      · have HF : Hid (R = .rng) := Lib.hid (by rw [HP.out, HG.out, if_neg hdB, if_pos hov]; rfl)
        have hov' : 18446744073709551615 < a * 10 + d := by rw [ha, hd]; have := hov; omega
        clear HG hdB hd hov
        by_cases hcut : 1844674407370955162 ≤ a
        · clear ha hacc hov'
          rcases hway with ⟨q1, q2, rfl⟩ | ⟨⟨q1, q2⟩ | q1, ⟨q3, q4, rfl⟩ | ⟨⟨q3, q4⟩ | q3, rfl⟩⟩
          all_goals (first | omega | skip)
          all_goals (first | have q1' := of_decide_eq_true q1 | skip)
          all_goals (first | have q2' := of_decide_eq_true q2 | skip)
          all_goals (first | have q3' := of_decide_eq_true q3 | skip)
          all_goals (first | have q4' := of_decide_eq_true q4 | skip)
          all_goals go_wp2_with (go_at_call 69; refine (low_any _ _).mono ?_; rintro e w' ⟨rfl, rfl⟩)
          all_goals go_ret2
          all_goals exact ⟨by rw [HF.out]; rfl, HB1.out⟩
        · have icut : a < 1844674407370955162 := by omega
          clear ha hacc hcut
          by_cases hwr : 18446744073709551616 ≤ a * 10 + d
          · have HWR : Hid (IntKind.u64.wrap (a * 10 + d) = a * 10 + d - 18446744073709551616) := Lib.hid (by rw [IntKind.wrap_u64]; omega)
            rcases hway with ⟨q1, q2, rfl⟩ | ⟨⟨q1, q2⟩ | q1, ⟨q3, q4, rfl⟩ | ⟨⟨q3, q4⟩ | q3, rfl⟩⟩
            all_goals (first | omega | skip)
            all_goals (first | have q1' := of_decide_eq_true q1 | skip)
            all_goals (first | have q2' := of_decide_eq_true q2 | skip)
            all_goals (first | have q3' := of_decide_eq_true q3 | skip)
            all_goals (first | have q4' := of_decide_eq_true q4 | skip)
            all_goals have hwrap := HWR.out
            all_goals go_wp2_with (go_at_call 69; refine (low_any _ _).mono ?_; rintro e w' ⟨rfl, rfl⟩)
            all_goals go_ret2
            all_goals exact ⟨by rw [HF.out]; rfl, HB1.out⟩
          · rcases hway with ⟨q1, q2, rfl⟩ | ⟨⟨q1, q2⟩ | q1, ⟨q3, q4, rfl⟩ | ⟨⟨q3, q4⟩ | q3, rfl⟩⟩
            all_goals (first | omega | skip)
            all_goals (first | have q1' := of_decide_eq_true q1 | skip)
            all_goals (first | have q2' := of_decide_eq_true q2 | skip)
            all_goals (first | have q3' := of_decide_eq_true q3 | skip)
            all_goals (first | have q4' := of_decide_eq_true q4 | skip)
            all_goals go_wp2_with (go_at_call 69; refine (low_any _ _).mono ?_; rintro e w' ⟨rfl, rfl⟩)
            all_goals go_ret2
            all_goals exact ⟨by rw [HF.out]; rfl, HB1.out⟩
      have hov' : a * 10 + d ≤ 18446744073709551615 := by rw [ha, hd]; omega
      have icut : a < 1844674407370955162 := by omega
      have HN : Hid (∃ acc : Nat, a * 10 + d = acc ∧ acc ≤ 18446744073709551615 ∧ go0 10 18446744073709551615 0 false bs = go0 10 18446744073709551615 acc us (bs.drop (k + 1))) := Lib.hid ⟨acc * 10 + dig0 c, by rw [ha, hd]; omega, by omega, by rw [HG.out, if_neg hdB, if_neg hov]⟩
      clear HG ha hacc hdB hd hov
      rcases hway with ⟨q1, q2, rfl⟩ | ⟨⟨q1, q2⟩ | q1, ⟨q3, q4, rfl⟩ | ⟨⟨q3, q4⟩ | q3, rfl⟩⟩
      all_goals (first | omega | skip)
      all_goals (first | have q1' := of_decide_eq_true q1 | skip)
      all_goals (first | have q2' := of_decide_eq_true q2 | skip)
      all_goals (first | have q3' := of_decide_eq_true q3 | skip)
      all_goals (first | have q4' := of_decide_eq_true q4 | skip)
      all_goals go_wp2_with (go_at_call 69; refine (low_any _ _).mono ?_; rintro e w' ⟨rfl, rfl⟩)
      all_goals go_round
      all_goals first
        | exact ⟨k + 1, us, _, by omega, rfl, rfl, by go_num, HN⟩
        | (simp [intOf]; omega)
    · have hdec' : go0 10 18446744073709551615 0 false bs = .ok acc us := by rw [hdec, List.drop_eq_nil_of_le (by omega)]; rfl
      have HSG := HS.out acc us hdec'
      have HA : Hid (R = fin0 U (.ok acc us)) := Lib.hid (by rw [HP.out, hdec'])
      subst ha
      clear hacc hdec hdec' hB a0 a1
      cases us with
      | false =>
        go_wp2_with (go_at_call 69; refine (low_any _ _).mono ?_; rintro e w' ⟨rfl, rfl⟩)
        go_ret2
        exact ⟨by rw [HA.out]; rfl, HB1.out⟩
      | true =>
        cases U with
        | true =>
          have HU := Lib.hid (HUND.out HSG)
          have HF : Hid (R = .ok acc true) := Lib.hid (by rw [HA.out]; rfl)
          clear HA HUND
          go_wp2_with (go_at_call 70; refine (HU.out _).mono ?_; rintro e w' ⟨rfl, rfl⟩)
          go_ret2
          exact ⟨by rw [HF.out]; rfl, HB1.out⟩
        | false =>
          have HU := Lib.hid (HUND.out HSG)
          have HF : Hid (R = .syn) := Lib.hid (by rw [HA.out]; rfl)
          clear HA HUND
          go_wp2_with (go_at_call 70; refine (HU.out _).mono ?_; rintro e w' ⟨rfl, rfl⟩)
          go_ret2
          exact ⟨by rw [HF.out]; rfl, HB1.out⟩
set_option maxRecDepth 100000 in
set_option maxHeartbeats 6400000 in
theorem pu0_n1 (s : ByteArray) (hs : s.size ≤ 2147483647) (h0 : 0 < s.size) (h2 : s.size = 1) (hz : s[0].toNat = 48) (w : World) :
    Calls Tryd.prog 62 #[.string s, .int .i64 0, .int .i64 0] w fun e w' => e = .returned (r0 18446744073709551615 (pu0 18446744073709551615 s.data.toList)) ∧ Below w.heap.size w w' := by
  have hemp : (s.toList == []) = false := ne_empty h0
  have e48 : ((s[0].toNat : Int) == 48) = true := by simp [hz]
  have l3 : decide (3 ≤ (s.size : Int)) = false := decide_eq_false (by omega)
  have HP : Hid (pu0 18446744073709551615 s.data.toList = fin0 (und0 s.data.toList) (go0 8 18446744073709551615 0 false ((s.extract 1 s.size)).data.toList)) := Lib.hid (by
    rw [pu0, if_neg (ne_nil h0), pre_n1 s h2 hz])
  have HS : Hid (∀ n us, go0 8 18446744073709551615 0 false ((s.extract 1 s.size)).data.toList = .ok n us → s[0].toNat ≠ 43 ∧ s[0].toNat ≠ 45) := Lib.hid (by
    exact fun n us h => by omega)
  have hts : ((s.extract 1 s.size)).size = (s.size - 1) := by first | rfl | (rw [ByteArray.size_extract]; omega)
  have hcv := Lib.run_convert_string_bytes (P := Tryd.prog) w 9 57 5 ((s.extract 1 s.size)) (u := .string) Tryd.underlying9 Tryd.underlying57 Tryd.underlying5
  have hB : ∀ j, j < ((s.extract 1 s.size)).size → (Lib.bytesWorld w 5 ((s.extract 1 s.size))).cell? ⟨w.heap.size, j, none⟩ = some (.int .u8 (((s.extract 1 s.size)).data.toList.getD j 0).toNat) := fun j hj => Lib.bytesWorld_cell w 5 ((s.extract 1 s.size)) j hj
  have HB1 := Lib.hid (Lib.bytesWorld_below w 5 ((s.extract 1 s.size)))
  rw [hts] at hcv hB
  obtain ⟨W1, hW1⟩ : ∃ W1, W1 = Lib.bytesWorld w 5 ((s.extract 1 s.size)) := ⟨_, rfl⟩
  rw [← hW1] at hcv hB HB1
  clear hW1
  obtain ⟨bs, hL⟩ : ∃ bs, bs = ((s.extract 1 s.size)).data.toList := ⟨_, rfl⟩
  have hLn : bs.length = (s.size - 1) := by
    rw [hL, Array.length_toList]
    exact hts
  have HUND := Lib.hid (fun (h : s[0].toNat ≠ 43 ∧ s[0].toNat ≠ 45) W => und_any s hs h0 h W)
  obtain ⟨U, hU⟩ : ∃ U, U = und0 s.data.toList := ⟨_, rfl⟩
  obtain ⟨R, hR⟩ : ∃ R, R = pu0 18446744073709551615 s.data.toList := ⟨_, rfl⟩
  rw [← hU] at HP HUND
  rw [← hR] at HP ⊢
  clear hU hR
  rw [← hL] at hB HP HS
  clear hL
  have hmv : IntKind.u64.wrap (IntKind.u64.wrap 18446744073709551616 - 1) = 18446744073709551615 := by
    rw [IntKind.wrap_u64, IntKind.wrap_u64]
    decide
  clear hts
  have h2l : s.size ≤ 1 := by omega
  have h2g : 1 ≤ s.size := by omega
  clear h2
  go_enter Tryd.func62, Tryd.ntmps62
  go_wp2_with (go_at_call 69; refine (low_any _ _).mono ?_; rintro e w' ⟨rfl, rfl⟩)
  go_loop [12, 13, 101] (fun vu vn vi => ∃ (k : Nat) (us : Bool) (a : Int), k ≤ (s.size - 1) ∧ vu = .bool us ∧ vn = .int .u64 a ∧ vi = .int .i64 (k : Nat) ∧ Hid (∃ acc : Nat, a = acc ∧ acc ≤ 18446744073709551615 ∧ go0 8 18446744073709551615 0 false bs = go0 8 18446744073709551615 acc us (bs.drop k))) (fun _ _ vi => (s.size - 1) - (intOf vi).toNat)
  case atStart => exact ⟨0, false, 0, Nat.zero_le _, rfl, rfl, rfl, Lib.hid ⟨0, rfl, by omega, rfl⟩⟩
  case round =>
    obtain ⟨k, us, a, hk, rfl, rfl, rfl, hh⟩ := hrel
    obtain ⟨acc, ha, hacc, hdec⟩ := hh.out
    clear hh
    have a0 : 0 ≤ a := by omega
    have a1 : a ≤ 18446744073709551615 := by omega
    by_cases hkn : k < (s.size - 1)
    · exfalso
      omega
    · have hdec' : go0 8 18446744073709551615 0 false bs = .ok acc us := by rw [hdec, List.drop_eq_nil_of_le (by omega)]; rfl
      have HSG := HS.out acc us hdec'
      have HA : Hid (R = fin0 U (.ok acc us)) := Lib.hid (by rw [HP.out, hdec'])
      subst ha
      clear hacc hdec hdec' hB a0 a1
      cases us with
      | false =>
        go_wp2_with (go_at_call 69; refine (low_any _ _).mono ?_; rintro e w' ⟨rfl, rfl⟩)
        go_ret2
        exact ⟨by rw [HA.out]; rfl, HB1.out⟩
      | true =>
        cases U with
        | true =>
          have HU := Lib.hid (HUND.out HSG)
          have HF : Hid (R = .ok acc true) := Lib.hid (by rw [HA.out]; rfl)
          clear HA HUND
          go_wp2_with (go_at_call 70; refine (HU.out _).mono ?_; rintro e w' ⟨rfl, rfl⟩)
          go_ret2
          exact ⟨by rw [HF.out]; rfl, HB1.out⟩
        | false =>
          have HU := Lib.hid (HUND.out HSG)
          have HF : Hid (R = .syn) := Lib.hid (by rw [HA.out]; rfl)
          clear HA HUND
          go_wp2_with (go_at_call 70; refine (HU.out _).mono ?_; rintro e w' ⟨rfl, rfl⟩)
          go_ret2
          exact ⟨by rw [HF.out]; rfl, HB1.out⟩
set_option maxRecDepth 100000 in
set_option maxHeartbeats 6400000 in
theorem pu0_n2 (s : ByteArray) (hs : s.size ≤ 2147483647) (h0 : 0 < s.size) (h2 : s.size = 2) (hz : s[0].toNat = 48) (w : World) :
    Calls Tryd.prog 62 #[.string s, .int .i64 0, .int .i64 0] w fun e w' => e = .returned (r0 18446744073709551615 (pu0 18446744073709551615 s.data.toList)) ∧ Below w.heap.size w w' := by
  have hemp : (s.toList == []) = false := ne_empty h0
  have e48 : ((s[0].toNat : Int) == 48) = true := by simp [hz]
  have l3 : decide (3 ≤ (s.size : Int)) = false := decide_eq_false (by omega)
  have HP : Hid (pu0 18446744073709551615 s.data.toList = fin0 (und0 s.data.toList) (go0 8 18446744073709551615 0 false ((s.extract 1 s.size)).data.toList)) := Lib.hid (by
    rw [pu0, if_neg (ne_nil h0), pre_n2 s h2 hz])
  have HS : Hid (∀ n us, go0 8 18446744073709551615 0 false ((s.extract 1 s.size)).data.toList = .ok n us → s[0].toNat ≠ 43 ∧ s[0].toNat ≠ 45) := Lib.hid (by
    exact fun n us h => by omega)
  have hts : ((s.extract 1 s.size)).size = (s.size - 1) := by first | rfl | (rw [ByteArray.size_extract]; omega)
  have hcv := Lib.run_convert_string_bytes (P := Tryd.prog) w 9 57 5 ((s.extract 1 s.size)) (u := .string) Tryd.underlying9 Tryd.underlying57 Tryd.underlying5
  have hB : ∀ j, j < ((s.extract 1 s.size)).size → (Lib.bytesWorld w 5 ((s.extract 1 s.size))).cell? ⟨w.heap.size, j, none⟩ = some (.int .u8 (((s.extract 1 s.size)).data.toList.getD j 0).toNat) := fun j hj => Lib.bytesWorld_cell w 5 ((s.extract 1 s.size)) j hj
  have HB1 := Lib.hid (Lib.bytesWorld_below w 5 ((s.extract 1 s.size)))
  rw [hts] at hcv hB
  obtain ⟨W1, hW1⟩ : ∃ W1, W1 = Lib.bytesWorld w 5 ((s.extract 1 s.size)) := ⟨_, rfl⟩
  rw [← hW1] at hcv hB HB1
  clear hW1
  obtain ⟨bs, hL⟩ : ∃ bs, bs = ((s.extract 1 s.size)).data.toList := ⟨_, rfl⟩
  have hLn : bs.length = (s.size - 1) := by
    rw [hL, Array.length_toList]
    exact hts
  have HUND := Lib.hid (fun (h : s[0].toNat ≠ 43 ∧ s[0].toNat ≠ 45) W => und_any s hs h0 h W)
  obtain ⟨U, hU⟩ : ∃ U, U = und0 s.data.toList := ⟨_, rfl⟩
  obtain ⟨R, hR⟩ : ∃ R, R = pu0 18446744073709551615 s.data.toList := ⟨_, rfl⟩
  rw [← hU] at HP HUND
  rw [← hR] at HP ⊢
  clear hU hR
  rw [← hL] at hB HP HS
  clear hL
  have hmv : IntKind.u64.wrap (IntKind.u64.wrap 18446744073709551616 - 1) = 18446744073709551615 := by
    rw [IntKind.wrap_u64, IntKind.wrap_u64]
    decide
  clear hts
  have h2l : s.size ≤ 2 := by omega
  have h2g : 2 ≤ s.size := by omega
  clear h2
  go_enter Tryd.func62, Tryd.ntmps62
  go_wp2_with (go_at_call 69; refine (low_any _ _).mono ?_; rintro e w' ⟨rfl, rfl⟩)
  go_loop [12, 13, 101] (fun vu vn vi => ∃ (k : Nat) (us : Bool) (a : Int), k ≤ (s.size - 1) ∧ vu = .bool us ∧ vn = .int .u64 a ∧ vi = .int .i64 (k : Nat) ∧ Hid (∃ acc : Nat, a = acc ∧ acc ≤ 18446744073709551615 ∧ go0 8 18446744073709551615 0 false bs = go0 8 18446744073709551615 acc us (bs.drop k))) (fun _ _ vi => (s.size - 1) - (intOf vi).toNat)
  case atStart => exact ⟨0, false, 0, Nat.zero_le _, rfl, rfl, rfl, Lib.hid ⟨0, rfl, by omega, rfl⟩⟩
  case round =>
    obtain ⟨k, us, a, hk, rfl, rfl, rfl, hh⟩ := hrel
    obtain ⟨acc, ha, hacc, hdec⟩ := hh.out
    clear hh
    have a0 : 0 ≤ a := by omega
    have a1 : a ≤ 18446744073709551615 := by omega
    by_cases hkn : k < (s.size - 1)
    · have hc := hB k hkn
      clear hB
      have hdrop : bs.drop k = bs[k]'(by omega) :: bs.drop (k + 1) := List.drop_eq_getElem_cons (by omega)
      have hget : bs.getD k 0 = bs[k]'(by omega) := by simp [List.getD, List.getElem?_eq_getElem (show k < bs.length by omega)]
      rw [hdrop] at hdec
      rw [hget] at hc
      generalize bs[k]'(by omega) = c at hc hdec
      have hc256 : c.toNat < 256 := c.toNat_lt
      have hlw := lw_lt c
      clear hdrop hget
      by_cases h95 : c.toNat = 95
      · have e95 : ((c.toNat : Int) == 95) = true := by simp [h95]
        have HN : Hid (∃ acc : Nat, a = acc ∧ acc ≤ 18446744073709551615 ∧ go0 8 18446744073709551615 0 false bs = go0 8 18446744073709551615 acc true (bs.drop (k + 1))) := Lib.hid ⟨acc, ha, hacc, by rw [hdec]; simp only [go0, h95, if_true]⟩
        clear hdec ha hacc h95
        go_wp2_with (go_at_call 69; refine (low_any _ _).mono ?_; rintro e w' ⟨rfl, rfl⟩)
        go_round
        case rel => exact ⟨k + 1, true, a, by omega, rfl, rfl, by go_num, HN⟩
        case measure => simp [intOf]; omega
      have e95 : ((c.toNat : Int) == 95) = false := by rw [beq_eq_false_iff_ne]; omega
      have HG : Hid (go0 8 18446744073709551615 0 false bs = if dig0 c ≥ 8 then .syn else if acc * 8 + dig0 c > 18446744073709551615 then .rng else go0 8 18446744073709551615 (acc * 8 + dig0 c) us (bs.drop (k + 1))) := Lib.hid (by rw [hdec]; simp only [go0, h95, if_false])
      clear hdec
      -- the digit
      have HD : Hid (∃ d : Int, d = dig0 c ∧ 0 ≤ d ∧ d ≤ 255 ∧ ((decide (48 ≤ (c.toNat : Int)) = true ∧ decide ((c.toNat : Int) ≤ 57) = true ∧ d = (c.toNat : Int) - 48) ∨ (((decide (48 ≤ (c.toNat : Int)) = true ∧ decide ((c.toNat : Int) ≤ 57) = false) ∨ decide (48 ≤ (c.toNat : Int)) = false) ∧ ((decide (97 ≤ (lw c : Int)) = true ∧ decide ((lw c : Int) ≤ 122) = true ∧ d = (lw c : Int) - 97 + 10) ∨ (((decide (97 ≤ (lw c : Int)) = true ∧ decide ((lw c : Int) ≤ 122) = false) ∨ decide (97 ≤ (lw c : Int)) = false) ∧ d = 255))))) := Lib.hid (digit_ways c)
      obtain ⟨d, hd, d0, d1, hway⟩ := HD.out
      clear HD h95
      by_cases hdB : dig0 c ≥ 8
      · -- no digit of the base
        have HF : Hid (R = .syn) := Lib.hid (by rw [HP.out, HG.out, if_pos hdB]; rfl)
        have dB : 8 ≤ d := by omega
        clear HG ha hacc hdB hd
        rcases hway with ⟨q1, q2, rfl⟩ | ⟨⟨q1, q2⟩ | q1, ⟨q3, q4, rfl⟩ | ⟨⟨q3, q4⟩ | q3, rfl⟩⟩
        all_goals (first | have q1' := of_decide_eq_true q1 | skip)
        all_goals (first | have q2' := of_decide_eq_true q2 | skip)
        all_goals (first | have q3' := of_decide_eq_true q3 | skip)
        all_goals (first | have q4' := of_decide_eq_true q4 | skip)
        all_goals go_wp2_with (go_at_call 69; refine (low_any _ _).mono ?_; rintro e w' ⟨rfl, rfl⟩)
        all_goals go_ret2
        all_goals exact ⟨by rw [HF.out]; rfl, HB1.out⟩
      have dB : d < 8 := by omega
      by_cases hov : acc * 8 + dig0 c > 18446744073709551615
      · have HF : Hid (R = .rng) := Lib.hid (by rw [HP.out, HG.out, if_neg hdB, if_pos hov]; rfl)
        have hov' : 18446744073709551615 < a * 8 + d := by rw [ha, hd]; have := hov; omega
        clear HG hdB hd hov
        by_cases hcut : 2305843009213693952 ≤ a
        · clear ha hacc hov'
          rcases hway with ⟨q1, q2, rfl⟩ | ⟨⟨q1, q2⟩ | q1, ⟨q3, q4, rfl⟩ | ⟨⟨q3, q4⟩ | q3, rfl⟩⟩
          all_goals (first | omega | skip)
          all_goals (first | have q1' := of_decide_eq_true q1 | skip)
          all_goals (first | have q2' := of_decide_eq_true q2 | skip)
          all_goals (first | have q3' := of_decide_eq_true q3 | skip)
          all_goals (first | have q4' := of_decide_eq_true q4 | skip)
          all_goals go_wp2_with (go_at_call 69; refine (low_any _ _).mono ?_; rintro e w' ⟨rfl, rfl⟩)
          all_goals go_ret2
          all_goals exact ⟨by rw [HF.out]; rfl, HB1.out⟩
        · have icut : a < 2305843009213693952 := by omega
          clear ha hacc hcut
          by_cases hwr : 18446744073709551616 ≤ a * 8 + d
          · have HWR : Hid (IntKind.u64.wrap (a * 8 + d) = a * 8 + d - 18446744073709551616) := Lib.hid (by rw [IntKind.wrap_u64]; omega)
            rcases hway with ⟨q1, q2, rfl⟩ | ⟨⟨q1, q2⟩ | q1, ⟨q3, q4, rfl⟩ | ⟨⟨q3, q4⟩ | q3, rfl⟩⟩
            all_goals (first | omega | skip)
            all_goals (first | have q1' := of_decide_eq_true q1 | skip)
            all_goals (first | have q2' := of_decide_eq_true q2 | skip)
            all_goals (first | have q3' := of_decide_eq_true q3 | skip)
            all_goals (first | have q4' := of_decide_eq_true q4 | skip)
            all_goals have hwrap := HWR.out
            all_goals go_wp2_with (go_at_call 69; refine (low_any _ _).mono ?_; rintro e w' ⟨rfl, rfl⟩)
            all_goals go_ret2
            all_goals exact ⟨by rw [HF.out]; rfl, HB1.out⟩
          · rcases hway with ⟨q1, q2, rfl⟩ | ⟨⟨q1, q2⟩ | q1, ⟨q3, q4, rfl⟩ | ⟨⟨q3, q4⟩ | q3, rfl⟩⟩
            all_goals (first | omega | skip)
            all_goals (first | have q1' := of_decide_eq_true q1 | skip)
            all_goals (first | have q2' := of_decide_eq_true q2 | skip)
            all_goals (first | have q3' := of_decide_eq_true q3 | skip)
            all_goals (first | have q4' := of_decide_eq_true q4 | skip)
            all_goals go_wp2_with (go_at_call 69; refine (low_any _ _).mono ?_; rintro e w' ⟨rfl, rfl⟩)
            all_goals go_ret2
            all_goals exact ⟨by rw [HF.out]; rfl, HB1.out⟩
      have hov' : a * 8 + d ≤ 18446744073709551615 := by rw [ha, hd]; omega
      have icut : a < 2305843009213693952 := by omega
      have HN : Hid (∃ acc : Nat, a * 8 + d = acc ∧ acc ≤ 18446744073709551615 ∧ go0 8 18446744073709551615 0 false bs = go0 8 18446744073709551615 acc us (bs.drop (k + 1))) := Lib.hid ⟨acc * 8 + dig0 c, by rw [ha, hd]; omega, by omega, by rw [HG.out, if_neg hdB, if_neg hov]⟩
      clear HG ha hacc hdB hd hov
      rcases hway with ⟨q1, q2, rfl⟩ | ⟨⟨q1, q2⟩ | q1, ⟨q3, q4, rfl⟩ | ⟨⟨q3, q4⟩ | q3, rfl⟩⟩
      all_goals (first | omega | skip)
      all_goals (first | have q1' := of_decide_eq_true q1 | skip)
      all_goals (first | have q2' := of_decide_eq_true q2 | skip)
      all_goals (first | have q3' := of_decide_eq_true q3 | skip)
      all_goals (first | have q4' := of_decide_eq_true q4 | skip)
      all_goals go_wp2_with (go_at_call 69; refine (low_any _ _).mono ?_; rintro e w' ⟨rfl, rfl⟩)
      all_goals go_round
      all_goals first
        | exact ⟨k + 1, us, _, by omega, rfl, rfl, by go_num, HN⟩
        | (simp [intOf]; omega)
    · have hdec' : go0 8 18446744073709551615 0 false bs = .ok acc us := by rw [hdec, List.drop_eq_nil_of_le (by omega)]; rfl
      have HSG := HS.out acc us hdec'
      have HA : Hid (R = fin0 U (.ok acc us)) := Lib.hid (by rw [HP.out, hdec'])
      subst ha
      clear hacc hdec hdec' hB a0 a1
      cases us with
      | false =>
        go_wp2_with (go_at_call 69; refine (low_any _ _).mono ?_; rintro e w' ⟨rfl, rfl⟩)
        go_ret2
        exact ⟨by rw [HA.out]; rfl, HB1.out⟩
      | true =>
        cases U with
        | true =>
          have HU := Lib.hid (HUND.out HSG)
          have HF : Hid (R = .ok acc true) := Lib.hid (by rw [HA.out]; rfl)
          clear HA HUND
          go_wp2_with (go_at_call 70; refine (HU.out _).mono ?_; rintro e w' ⟨rfl, rfl⟩)
          go_ret2
          exact ⟨by rw [HF.out]; rfl, HB1.out⟩
        | false =>
          have HU := Lib.hid (HUND.out HSG)
          have HF : Hid (R = .syn) := Lib.hid (by rw [HA.out]; rfl)
          clear HA HUND
          go_wp2_with (go_at_call 70; refine (HU.out _).mono ?_; rintro e w' ⟨rfl, rfl⟩)
          go_ret2
          exact ⟨by rw [HF.out]; rfl, HB1.out⟩
set_option maxRecDepth 100000 in
set_option maxHeartbeats 6400000 in
theorem pu0_n3 (s : ByteArray) (hs : s.size ≤ 2147483647) (h0 : 0 < s.size) (h2 : 3 ≤ s.size) (hz : s[0].toNat = 48) (hq : lw s[1] ≠ 98 ∧ lw s[1] ≠ 111 ∧ lw s[1] ≠ 120) (w : World) :
    Calls Tryd.prog 62 #[.string s, .int .i64 0, .int .i64 0] w fun e w' => e = .returned (r0 18446744073709551615 (pu0 18446744073709551615 s.data.toList)) ∧ Below w.heap.size w w' := by
  have hemp : (s.toList == []) = false := ne_empty h0
  have e48 : ((s[0].toNat : Int) == 48) = true := by simp [hz]
  have l3 : decide (3 ≤ (s.size : Int)) = true := decide_eq_true (by omega)
  have eq98 : (((lw s[1] : Nat) : Int) == 98) = false := by rw [beq_eq_false_iff_ne]; omega
  have eq111 : (((lw s[1] : Nat) : Int) == 111) = false := by rw [beq_eq_false_iff_ne]; omega
  have eq120 : (((lw s[1] : Nat) : Int) == 120) = false := by rw [beq_eq_false_iff_ne]; omega
  have HP : Hid (pu0 18446744073709551615 s.data.toList = fin0 (und0 s.data.toList) (go0 8 18446744073709551615 0 false ((s.extract 1 s.size)).data.toList)) := Lib.hid (by
    rw [pu0, if_neg (ne_nil h0), pre_n3 s h2 hz hq.1 hq.2.1 hq.2.2])
  have HS : Hid (∀ n us, go0 8 18446744073709551615 0 false ((s.extract 1 s.size)).data.toList = .ok n us → s[0].toNat ≠ 43 ∧ s[0].toNat ≠ 45) := Lib.hid (by
    exact fun n us h => by omega)
  have hts : ((s.extract 1 s.size)).size = (s.size - 1) := by first | rfl | (rw [ByteArray.size_extract]; omega)
  have hcv := Lib.run_convert_string_bytes (P := Tryd.prog) w 9 57 5 ((s.extract 1 s.size)) (u := .string) Tryd.underlying9 Tryd.underlying57 Tryd.underlying5
  have hB : ∀ j, j < ((s.extract 1 s.size)).size → (Lib.bytesWorld w 5 ((s.extract 1 s.size))).cell? ⟨w.heap.size, j, none⟩ = some (.int .u8 (((s.extract 1 s.size)).data.toList.getD j 0).toNat) := fun j hj => Lib.bytesWorld_cell w 5 ((s.extract 1 s.size)) j hj
  have HB1 := Lib.hid (Lib.bytesWorld_below w 5 ((s.extract 1 s.size)))
  rw [hts] at hcv hB
  obtain ⟨W1, hW1⟩ : ∃ W1, W1 = Lib.bytesWorld w 5 ((s.extract 1 s.size)) := ⟨_, rfl⟩
  rw [← hW1] at hcv hB HB1
  clear hW1
  obtain ⟨bs, hL⟩ : ∃ bs, bs = ((s.extract 1 s.size)).data.toList := ⟨_, rfl⟩
  have hLn : bs.length = (s.size - 1) := by
    rw [hL, Array.length_toList]
    exact hts
  have HUND := Lib.hid (fun (h : s[0].toNat ≠ 43 ∧ s[0].toNat ≠ 45) W => und_any s hs h0 h W)
  obtain ⟨U, hU⟩ : ∃ U, U = und0 s.data.toList := ⟨_, rfl⟩
  obtain ⟨R, hR⟩ : ∃ R, R = pu0 18446744073709551615 s.data.toList := ⟨_, rfl⟩
  rw [← hU] at HP HUND
  rw [← hR] at HP ⊢
  clear hU hR
  rw [← hL] at hB HP HS
  clear hL
  have hmv : IntKind.u64.wrap (IntKind.u64.wrap 18446744073709551616 - 1) = 18446744073709551615 := by
    rw [IntKind.wrap_u64, IntKind.wrap_u64]
    decide
  clear hts
  go_enter Tryd.func62, Tryd.ntmps62
  go_wp2_with (go_at_call 69; refine (low_any _ _).mono ?_; rintro e w' ⟨rfl, rfl⟩)
  go_loop [12, 13, 101] (fun vu vn vi => ∃ (k : Nat) (us : Bool) (a : Int), k ≤ (s.size - 1) ∧ vu = .bool us ∧ vn = .int .u64 a ∧ vi = .int .i64 (k : Nat) ∧ Hid (∃ acc : Nat, a = acc ∧ acc ≤ 18446744073709551615 ∧ go0 8 18446744073709551615 0 false bs = go0 8 18446744073709551615 acc us (bs.drop k))) (fun _ _ vi => (s.size - 1) - (intOf vi).toNat)
  case atStart => exact ⟨0, false, 0, Nat.zero_le _, rfl, rfl, rfl, Lib.hid ⟨0, rfl, by omega, rfl⟩⟩
  case round =>
    obtain ⟨k, us, a, hk, rfl, rfl, rfl, hh⟩ := hrel
    obtain ⟨acc, ha, hacc, hdec⟩ := hh.out
    clear hh
    have a0 : 0 ≤ a := by omega
    have a1 : a ≤ 18446744073709551615 := by omega
    by_cases hkn : k < (s.size - 1)
    · have hc := hB k hkn
      clear hB
      have hdrop : bs.drop k = bs[k]'(by omega) :: bs.drop (k + 1) := List.drop_eq_getElem_cons (by omega)
      have hget : bs.getD k 0 = bs[k]'(by omega) := by simp [List.getD, List.getElem?_eq_getElem (show k < bs.length by omega)]
      rw [hdrop] at hdec
      rw [hget] at hc
      generalize bs[k]'(by omega) = c at hc hdec
      have hc256 : c.toNat < 256 := c.toNat_lt
      have hlw := lw_lt c
      clear hdrop hget
      by_cases h95 : c.toNat = 95
      · have e95 : ((c.toNat : Int) == 95) = true := by simp [h95]
        have HN : Hid (∃ acc : Nat, a = acc ∧ acc ≤ 18446744073709551615 ∧ go0 8 18446744073709551615 0 false bs = go0 8 18446744073709551615 acc true (bs.drop (k + 1))) := Lib.hid ⟨acc, ha, hacc, by rw [hdec]; simp only [go0, h95, if_true]⟩
        clear hdec ha hacc h95
        go_wp2_with (go_at_call 69; refine (low_any _ _).mono ?_; rintro e w' ⟨rfl, rfl⟩)
        go_round
        case rel => exact ⟨k + 1, true, a, by omega, rfl, rfl, by go_num, HN⟩
        case measure => simp [intOf]; omega
      have e95 : ((c.toNat : Int) == 95) = false := by rw [beq_eq_false_iff_ne]; omega
      have HG : Hid (go0 8 18446744073709551615 0 false bs = if dig0 c ≥ 8 then .syn else if acc * 8 + dig0 c > 18446744073709551615 then .rng else go0 8 18446744073709551615 (acc * 8 + dig0 c) us (bs.drop (k + 1))) := Lib.hid (by rw [hdec]; simp only [go0, h95, if_false])
      clear hdec
      -- the digit
      have HD : Hid (∃ d : Int, d = dig0 c ∧ 0 ≤ d ∧ d ≤ 255 ∧ ((decide (48 ≤ (c.toNat : Int)) = true ∧ decide ((c.toNat : Int) ≤ 57) = true ∧ d = (c.toNat : Int) - 48) ∨ (((decide (48 ≤ (c.toNat : Int)) = true ∧ decide ((c.toNat : Int) ≤ 57) = false) ∨ decide (48 ≤ (c.toNat : Int)) = false) ∧ ((decide (97 ≤ (lw c : Int)) = true ∧ decide ((lw c : Int) ≤ 122) = true ∧ d = (lw c : Int) - 97 + 10) ∨ (((decide (97 ≤ (lw c : Int)) = true ∧ decide ((lw c : Int) ≤ 122) = false) ∨ decide (97 ≤ (lw c : Int)) = false) ∧ d = 255))))) := Lib.hid (digit_ways c)
      obtain ⟨d, hd, d0, d1, hway⟩ := HD.out
      clear HD h95
      by_cases hdB : dig0 c ≥ 8
      · -- no digit of the base
        have HF : Hid (R = .syn) := Lib.hid (by rw [HP.out, HG.out, if_pos hdB]; rfl)
        have dB : 8 ≤ d := by omega
        clear HG ha hacc hdB hd
        rcases hway with ⟨q1, q2, rfl⟩ | ⟨⟨q1, q2⟩ | q1, ⟨q3, q4, rfl⟩ | ⟨⟨q3, q4⟩ | q3, rfl⟩⟩
        all_goals (first | have q1' := of_decide_eq_true q1 | skip)
        all_goals (first | have q2' := of_decide_eq_true q2 | skip)
        all_goals (first | have q3' := of_decide_eq_true q3 | skip)
        all_goals (first | have q4' := of_decide_eq_true q4 | skip)
        all_goals go_wp2_with (go_at_call 69; refine (low_any _ _).mono ?_; rintro e w' ⟨rfl, rfl⟩)
        all_goals go_ret2
        all_goals exact ⟨by rw [HF.out]; rfl, HB1.out⟩
      have dB : d < 8 := by omega
      by_cases hov : acc * 8 + dig0 c > 18446744073709551615
      · have HF : Hid (R = .rng) := Lib.hid (by rw [HP.out, HG.out, if_neg hdB, if_pos hov]; rfl)
        have hov' : 18446744073709551615 < a * 8 + d := by rw [ha, hd]; have := hov; omega
        clear HG hdB hd hov
        by_cases hcut : 2305843009213693952 ≤ a
        · clear ha hacc hov'
          rcases hway with ⟨q1, q2, rfl⟩ | ⟨⟨q1, q2⟩ | q1, ⟨q3, q4, rfl⟩ | ⟨⟨q3, q4⟩ | q3, rfl⟩⟩
          all_goals (first | omega | skip)
          all_goals (first | have q1' := of_decide_eq_true q1 | skip)
          all_goals (first | have q2' := of_decide_eq_true q2 | skip)
          all_goals (first | have q3' := of_decide_eq_true q3 | skip)
          all_goals (first | have q4' := of_decide_eq_true q4 | skip)
          all_goals go_wp2_with (go_at_call 69; refine (low_any _ _).mono ?_; rintro e w' ⟨rfl, rfl⟩)
          all_goals go_ret2
          all_goals exact ⟨by rw [HF.out]; rfl, HB1.out⟩
        · have icut : a < 2305843009213693952 := by omega
          clear ha hacc hcut
          by_cases hwr : 18446744073709551616 ≤ a * 8 + d
          · have HWR : Hid (IntKind.u64.wrap (a * 8 + d) = a * 8 + d - 18446744073709551616) := Lib.hid (by rw [IntKind.wrap_u64]; omega)
            rcases hway with ⟨q1, q2, rfl⟩ | ⟨⟨q1, q2⟩ | q1, ⟨q3, q4, rfl⟩ | ⟨⟨q3, q4⟩ | q3, rfl⟩⟩
            all_goals (first | omega | skip)
            all_goals (first | have q1' := of_decide_eq_true q1 | skip)
            all_goals (first | have q2' := of_decide_eq_true q2 | skip)
            all_goals (first | have q3' := of_decide_eq_true q3 | skip)
            all_goals (first | have q4' := of_decide_eq_true q4 | skip)
            all_goals have hwrap := HWR.out
            all_goals go_wp2_with (go_at_call 69; refine (low_any _ _).mono ?_; rintro e w' ⟨rfl, rfl⟩)
            all_goals go_ret2
            all_goals exact ⟨by rw [HF.out]; rfl, HB1.out⟩
          · rcases hway with ⟨q1, q2, rfl⟩ | ⟨⟨q1, q2⟩ | q1, ⟨q3, q4, rfl⟩ | ⟨⟨q3, q4⟩ | q3, rfl⟩⟩
            all_goals (first | omega | skip)
            all_goals (first | have q1' := of_decide_eq_true q1 | skip)
            all_goals (first | have q2' := of_decide_eq_true q2 | skip)
            all_goals (first | have q3' := of_decide_eq_true q3 | skip)
            all_goals (first | have q4' := of_decide_eq_true q4 | skip)
            all_goals go_wp2_with (go_at_call 69; refine (low_any _ _).mono ?_; rintro e w' ⟨rfl, rfl⟩)
            all_goals go_ret2
            all_goals exact ⟨by rw [HF.out]; rfl, HB1.out⟩
      have hov' : a * 8 + d ≤ 18446744073709551615 := by rw [ha, hd]; omega
      have icut : a < 2305843009213693952 := by omega
      have HN : Hid (∃ acc : Nat, a * 8 + d = acc ∧ acc ≤ 18446744073709551615 ∧ go0 8 18446744073709551615 0 false bs = go0 8 18446744073709551615 acc us (bs.drop (k + 1))) := Lib.hid ⟨acc * 8 + dig0 c, by rw [ha, hd]; omega, by omega, by rw [HG.out, if_neg hdB, if_neg hov]⟩
      clear HG ha hacc hdB hd hov
      rcases hway with ⟨q1, q2, rfl⟩ | ⟨⟨q1, q2⟩ | q1, ⟨q3, q4, rfl⟩ | ⟨⟨q3, q4⟩ | q3, rfl⟩⟩
      all_goals (first | omega | skip)
      all_goals (first | have q1' := of_decide_eq_true q1 | skip)
      all_goals (first | have q2' := of_decide_eq_true q2 | skip)
      all_goals (first | have q3' := of_decide_eq_true q3 | skip)
      all_goals (first | have q4' := of_decide_eq_true q4 | skip)
      all_goals go_wp2_with (go_at_call 69; refine (low_any _ _).mono ?_; rintro e w' ⟨rfl, rfl⟩)
      all_goals go_round
      all_goals first
        | exact ⟨k + 1, us, _, by omega, rfl, rfl, by go_num, HN⟩
        | (simp [intOf]; omega)
    · have hdec' : go0 8 18446744073709551615 0 false bs = .ok acc us := by rw [hdec, List.drop_eq_nil_of_le (by omega)]; rfl
      have HSG := HS.out acc us hdec'
      have HA : Hid (R = fin0 U (.ok acc us)) := Lib.hid (by rw [HP.out, hdec'])
      subst ha
      clear hacc hdec hdec' hB a0 a1
      cases us with
      | false =>
        go_wp2_with (go_at_call 69; refine (low_any _ _).mono ?_; rintro e w' ⟨rfl, rfl⟩)
        go_ret2
        exact ⟨by rw [HA.out]; rfl, HB1.out⟩
      | true =>
        cases U with
        | true =>
          have HU := Lib.hid (HUND.out HSG)
          have HF : Hid (R = .ok acc true) := Lib.hid (by rw [HA.out]; rfl)
          clear HA HUND
          go_wp2_with (go_at_call 70; refine (HU.out _).mono ?_; rintro e w' ⟨rfl, rfl⟩)
          go_ret2
          exact ⟨by rw [HF.out]; rfl, HB1.out⟩
        | false =>
          have HU := Lib.hid (HUND.out HSG)
          have HF : Hid (R = .syn) := Lib.hid (by rw [HA.out]; rfl)
          clear HA HUND
          go_wp2_with (go_at_call 70; refine (HU.out _).mono ?_; rintro e w' ⟨rfl, rfl⟩)
          go_ret2
          exact ⟨by rw [HF.out]; rfl, HB1.out⟩
set_option maxRecDepth 100000 in
set_option maxHeartbeats 6400000 in
theorem pu0_b (s : ByteArray) (hs : s.size ≤ 2147483647) (h0 : 0 < s.size) (h2 : 3 ≤ s.size) (hz : s[0].toNat = 48) (hq : lw s[1] = 98) (w : World) :
    Calls Tryd.prog 62 #[.string s, .int .i64 0, .int .i64 0] w fun e w' => e = .returned (r0 18446744073709551615 (pu0 18446744073709551615 s.data.toList)) ∧ Below w.heap.size w w' := by
  have hemp : (s.toList == []) = false := ne_empty h0
  have e48 : ((s[0].toNat : Int) == 48) = true := by simp [hz]
  have l3 : decide (3 ≤ (s.size : Int)) = true := decide_eq_true (by omega)
  have eq98 : (((lw s[1] : Nat) : Int) == 98) = true := by simp [hq]
  have HP : Hid (pu0 18446744073709551615 s.data.toList = fin0 (und0 s.data.toList) (go0 2 18446744073709551615 0 false ((s.extract 2 s.size)).data.toList)) := Lib.hid (by
    rw [pu0, if_neg (ne_nil h0), pre_b s h2 hz hq])
  have HS : Hid (∀ n us, go0 2 18446744073709551615 0 false ((s.extract 2 s.size)).data.toList = .ok n us → s[0].toNat ≠ 43 ∧ s[0].toNat ≠ 45) := Lib.hid (by
    exact fun n us h => by omega)
  have hts : ((s.extract 2 s.size)).size = (s.size - 2) := by first | rfl | (rw [ByteArray.size_extract]; omega)
  have hcv := Lib.run_convert_string_bytes (P := Tryd.prog) w 9 57 5 ((s.extract 2 s.size)) (u := .string) Tryd.underlying9 Tryd.underlying57 Tryd.underlying5
  have hB : ∀ j, j < ((s.extract 2 s.size)).size → (Lib.bytesWorld w 5 ((s.extract 2 s.size))).cell? ⟨w.heap.size, j, none⟩ = some (.int .u8 (((s.extract 2 s.size)).data.toList.getD j 0).toNat) := fun j hj => Lib.bytesWorld_cell w 5 ((s.extract 2 s.size)) j hj
  have HB1 := Lib.hid (Lib.bytesWorld_below w 5 ((s.extract 2 s.size)))
  rw [hts] at hcv hB
  obtain ⟨W1, hW1⟩ : ∃ W1, W1 = Lib.bytesWorld w 5 ((s.extract 2 s.size)) := ⟨_, rfl⟩
  rw [← hW1] at hcv hB HB1
  clear hW1
  obtain ⟨bs, hL⟩ : ∃ bs, bs = ((s.extract 2 s.size)).data.toList := ⟨_, rfl⟩
  have hLn : bs.length = (s.size - 2) := by
    rw [hL, Array.length_toList]
    exact hts
  have HUND := Lib.hid (fun (h : s[0].toNat ≠ 43 ∧ s[0].toNat ≠ 45) W => und_any s hs h0 h W)
  obtain ⟨U, hU⟩ : ∃ U, U = und0 s.data.toList := ⟨_, rfl⟩
  obtain ⟨R, hR⟩ : ∃ R, R = pu0 18446744073709551615 s.data.toList := ⟨_, rfl⟩
  rw [← hU] at HP HUND
  rw [← hR] at HP ⊢
  clear hU hR
  rw [← hL] at hB HP HS
  clear hL
  have hmv : IntKind.u64.wrap (IntKind.u64.wrap 18446744073709551616 - 1) = 18446744073709551615 := by
    rw [IntKind.wrap_u64, IntKind.wrap_u64]
    decide
  clear hts
  go_enter Tryd.func62, Tryd.ntmps62
  go_wp2_with (go_at_call 69; refine (low_any _ _).mono ?_; rintro e w' ⟨rfl, rfl⟩)
  go_loop [12, 13, 101] (fun vu vn vi => ∃ (k : Nat) (us : Bool) (a : Int), k ≤ (s.size - 2) ∧ vu = .bool us ∧ vn = .int .u64 a ∧ vi = .int .i64 (k : Nat) ∧ Hid (∃ acc : Nat, a = acc ∧ acc ≤ 18446744073709551615 ∧ go0 2 18446744073709551615 0 false bs = go0 2 18446744073709551615 acc us (bs.drop k))) (fun _ _ vi => (s.size - 2) - (intOf vi).toNat)
  case atStart => exact ⟨0, false, 0, Nat.zero_le _, rfl, rfl, rfl, Lib.hid ⟨0, rfl, by omega, rfl⟩⟩
  case round =>
    obtain ⟨k, us, a, hk, rfl, rfl, rfl, hh⟩ := hrel
    obtain ⟨acc, ha, hacc, hdec⟩ := hh.out
    clear hh
    have a0 : 0 ≤ a := by omega
    have a1 : a ≤ 18446744073709551615 := by omega
    by_cases hkn : k < (s.size - 2)
    · have hc := hB k hkn
      clear hB
      have hdrop : bs.drop k = bs[k]'(by omega) :: bs.drop (k + 1) := List.drop_eq_getElem_cons (by omega)
      have hget : bs.getD k 0 = bs[k]'(by omega) := by simp [List.getD, List.getElem?_eq_getElem (show k < bs.length by omega)]
      rw [hdrop] at hdec
      rw [hget] at hc
      generalize bs[k]'(by omega) = c at hc hdec
      have hc256 : c.toNat < 256 := c.toNat_lt
      have hlw := lw_lt c
      clear hdrop hget
      by_cases h95 : c.toNat = 95
      · have e95 : ((c.toNat : Int) == 95) = true := by simp [h95]
        have HN : Hid (∃ acc : Nat, a = acc ∧ acc ≤ 18446744073709551615 ∧ go0 2 18446744073709551615 0 false bs = go0 2 18446744073709551615 acc true (bs.drop (k + 1))) := Lib.hid ⟨acc, ha, hacc, by rw [hdec]; simp only [go0, h95, if_true]⟩
        clear hdec ha hacc h95
        go_wp2_with (go_at_call 69; refine (low_any _ _).mono ?_; rintro e w' ⟨rfl, rfl⟩)
        go_round
        case rel => exact ⟨k + 1, true, a, by omega, rfl, rfl, by go_num, HN⟩
        case measure => simp [intOf]; omega
      have e95 : ((c.toNat : Int) == 95) = false := by rw [beq_eq_false_iff_ne]; omega
      have HG : Hid (go0 2 18446744073709551615 0 false bs = if dig0 c ≥ 2 then .syn else if acc * 2 + dig0 c > 18446744073709551615 then .rng else go0 2 18446744073709551615 (acc * 2 + dig0 c) us (bs.drop (k + 1))) := Lib.hid (by rw [hdec]; simp only [go0, h95, if_false])
      clear hdec
      -- the digit
      have HD : Hid (∃ d : Int, d = dig0 c ∧ 0 ≤ d ∧ d ≤ 255 ∧ ((decide (48 ≤ (c.toNat : Int)) = true ∧ decide ((c.toNat : Int) ≤ 57) = true ∧ d = (c.toNat : Int) - 48) ∨ (((decide (48 ≤ (c.toNat : Int)) = true ∧ decide ((c.toNat : Int) ≤ 57) = false) ∨ decide (48 ≤ (c.toNat : Int)) = false) ∧ ((decide (97 ≤ (lw c : Int)) = true ∧ decide ((lw c : Int) ≤ 122) = true ∧ d = (lw c : Int) - 97 + 10) ∨ (((decide (97 ≤ (lw c : Int)) = true ∧ decide ((lw c : Int) ≤ 122) = false) ∨ decide (97 ≤ (lw c : Int)) = false) ∧ d = 255))))) := Lib.hid (digit_ways c)
      obtain ⟨d, hd, d0, d1, hway⟩ := HD.out
      clear HD h95
      by_cases hdB : dig0 c ≥ 2
      · -- no digit of the base
        have HF : Hid (R = .syn) := Lib.hid (by rw [HP.out, HG.out, if_pos hdB]; rfl)
        have dB : 2 ≤ d := by omega
        clear HG ha hacc hdB hd
        rcases hway with ⟨q1, q2, rfl⟩ | ⟨⟨q1, q2⟩ | q1, ⟨q3, q4, rfl⟩ | ⟨⟨q3, q4⟩ | q3, rfl⟩⟩
        all_goals (first | have q1' := of_decide_eq_true q1 | skip)
        all_goals (first | have q2' := of_decide_eq_true q2 | skip)
        all_goals (first | have q3' := of_decide_eq_true q3 | skip)
        all_goals (first | have q4' := of_decide_eq_true q4 | skip)
        all_goals go_wp2_with (go_at_call 69; refine (low_any _ _).mono ?_; rintro e w' ⟨rfl, rfl⟩)
        all_goals go_ret2
        all_goals exact ⟨by rw [HF.out]; rfl, HB1.out⟩
      have dB : d < 2 := by omega
      by_cases hov : acc * 2 + dig0 c > 18446744073709551615
      · have HF : Hid (R = .rng) := Lib.hid (by rw [HP.out, HG.out, if_neg hdB, if_pos hov]; rfl)
        have hov' : 18446744073709551615 < a * 2 + d := by rw [ha, hd]; have := hov; omega
        clear HG hdB hd hov
        by_cases hcut : 9223372036854775808 ≤ a
        · clear ha hacc hov'
          rcases hway with ⟨q1, q2, rfl⟩ | ⟨⟨q1, q2⟩ | q1, ⟨q3, q4, rfl⟩ | ⟨⟨q3, q4⟩ | q3, rfl⟩⟩
          all_goals (first | omega | skip)
          all_goals (first | have q1' := of_decide_eq_true q1 | skip)
          all_goals (first | have q2' := of_decide_eq_true q2 | skip)
          all_goals (first | have q3' := of_decide_eq_true q3 | skip)
          all_goals (first | have q4' := of_decide_eq_true q4 | skip)
          all_goals go_wp2_with (go_at_call 69; refine (low_any _ _).mono ?_; rintro e w' ⟨rfl, rfl⟩)
          all_goals go_ret2
          all_goals exact ⟨by rw [HF.out]; rfl, HB1.out⟩
        · have icut : a < 9223372036854775808 := by omega
          clear ha hacc hcut
          by_cases hwr : 18446744073709551616 ≤ a * 2 + d
          · have HWR : Hid (IntKind.u64.wrap (a * 2 + d) = a * 2 + d - 18446744073709551616) := Lib.hid (by rw [IntKind.wrap_u64]; omega)
            rcases hway with ⟨q1, q2, rfl⟩ | ⟨⟨q1, q2⟩ | q1, ⟨q3, q4, rfl⟩ | ⟨⟨q3, q4⟩ | q3, rfl⟩⟩
            all_goals (first | omega | skip)
            all_goals (first | have q1' := of_decide_eq_true q1 | skip)
            all_goals (first | have q2' := of_decide_eq_true q2 | skip)
            all_goals (first | have q3' := of_decide_eq_true q3 | skip)
            all_goals (first | have q4' := of_decide_eq_true q4 | skip)
            all_goals have hwrap := HWR.out
            all_goals go_wp2_with (go_at_call 69; refine (low_any _ _).mono ?_; rintro e w' ⟨rfl, rfl⟩)
            all_goals go_ret2
            all_goals exact ⟨by rw [HF.out]; rfl, HB1.out⟩
          · rcases hway with ⟨q1, q2, rfl⟩ | ⟨⟨q1, q2⟩ | q1, ⟨q3, q4, rfl⟩ | ⟨⟨q3, q4⟩ | q3, rfl⟩⟩
            all_goals (first | omega | skip)
            all_goals (first | have q1' := of_decide_eq_true q1 | skip)
            all_goals (first | have q2' := of_decide_eq_true q2 | skip)
            all_goals (first | have q3' := of_decide_eq_true q3 | skip)
            all_goals (first | have q4' := of_decide_eq_true q4 | skip)
            all_goals go_wp2_with (go_at_call 69; refine (low_any _ _).mono ?_; rintro e w' ⟨rfl, rfl⟩)
            all_goals go_ret2
            all_goals exact ⟨by rw [HF.out]; rfl, HB1.out⟩
      have hov' : a * 2 + d ≤ 18446744073709551615 := by rw [ha, hd]; omega
      have icut : a < 9223372036854775808 := by omega
      have HN : Hid (∃ acc : Nat, a * 2 + d = acc ∧ acc ≤ 18446744073709551615 ∧ go0 2 18446744073709551615 0 false bs = go0 2 18446744073709551615 acc us (bs.drop (k + 1))) := Lib.hid ⟨acc * 2 + dig0 c, by rw [ha, hd]; omega, by omega, by rw [HG.out, if_neg hdB, if_neg hov]⟩
      clear HG ha hacc hdB hd hov
      rcases hway with ⟨q1, q2, rfl⟩ | ⟨⟨q1, q2⟩ | q1, ⟨q3, q4, rfl⟩ | ⟨⟨q3, q4⟩ | q3, rfl⟩⟩
      all_goals (first | omega | skip)
      all_goals (first | have q1' := of_decide_eq_true q1 | skip)
      all_goals (first | have q2' := of_decide_eq_true q2 | skip)
      all_goals (first | have q3' := of_decide_eq_true q3 | skip)
      all_goals (first | have q4' := of_decide_eq_true q4 | skip)
      all_goals go_wp2_with (go_at_call 69; refine (low_any _ _).mono ?_; rintro e w' ⟨rfl, rfl⟩)
      all_goals go_round
      all_goals first
        | exact ⟨k + 1, us, _, by omega, rfl, rfl, by go_num, HN⟩
        | (simp [intOf]; omega)
    · have hdec' : go0 2 18446744073709551615 0 false bs = .ok acc us := by rw [hdec, List.drop_eq_nil_of_le (by omega)]; rfl
      have HSG := HS.out acc us hdec'
      have HA : Hid (R = fin0 U (.ok acc us)) := Lib.hid (by rw [HP.out, hdec'])
      subst ha
      clear hacc hdec hdec' hB a0 a1
      cases us with
      | false =>
        go_wp2_with (go_at_call 69; refine (low_any _ _).mono ?_; rintro e w' ⟨rfl, rfl⟩)
        go_ret2
        exact ⟨by rw [HA.out]; rfl, HB1.out⟩
      | true =>
        cases U with
        | true =>
          have HU := Lib.hid (HUND.out HSG)
          have HF : Hid (R = .ok acc true) := Lib.hid (by rw [HA.out]; rfl)
          clear HA HUND
          go_wp2_with (go_at_call 70; refine (HU.out _).mono ?_; rintro e w' ⟨rfl, rfl⟩)
          go_ret2
          exact ⟨by rw [HF.out]; rfl, HB1.out⟩
        | false =>
          have HU := Lib.hid (HUND.out HSG)
          have HF : Hid (R = .syn) := Lib.hid (by rw [HA.out]; rfl)
          clear HA HUND
          go_wp2_with (go_at_call 70; refine (HU.out _).mono ?_; rintro e w' ⟨rfl, rfl⟩)
          go_ret2
          exact ⟨by rw [HF.out]; rfl, HB1.out⟩
set_option maxRecDepth 100000 in
set_option maxHeartbeats 6400000 in
theorem pu0_o (s : ByteArray) (hs : s.size ≤ 2147483647) (h0 : 0 < s.size) (h2 : 3 ≤ s.size) (hz : s[0].toNat = 48) (hq : lw s[1] = 111) (w : World) :
    Calls Tryd.prog 62 #[.string s, .int .i64 0, .int .i64 0] w fun e w' => e = .returned (r0 18446744073709551615 (pu0 18446744073709551615 s.data.toList)) ∧ Below w.heap.size w w' := by
  have hemp : (s.toList == []) = false := ne_empty h0
  have e48 : ((s[0].toNat : Int) == 48) = true := by simp [hz]
  have l3 : decide (3 ≤ (s.size : Int)) = true := decide_eq_true (by omega)
  have eq98 : (((lw s[1] : Nat) : Int) == 98) = false := by rw [beq_eq_false_iff_ne]; omega
  have eq111 : (((lw s[1] : Nat) : Int) == 111) = true := by simp [hq]
  have HP : Hid (pu0 18446744073709551615 s.data.toList = fin0 (und0 s.data.toList) (go0 8 18446744073709551615 0 false ((s.extract 2 s.size)).data.toList)) := Lib.hid (by
    rw [pu0, if_neg (ne_nil h0), pre_o s h2 hz hq])
  have HS : Hid (∀ n us, go0 8 18446744073709551615 0 false ((s.extract 2 s.size)).data.toList = .ok n us → s[0].toNat ≠ 43 ∧ s[0].toNat ≠ 45) := Lib.hid (by
    exact fun n us h => by omega)
  have hts : ((s.extract 2 s.size)).size = (s.size - 2) := by first | rfl | (rw [ByteArray.size_extract]; omega)
  have hcv := Lib.run_convert_string_bytes (P := Tryd.prog) w 9 57 5 ((s.extract 2 s.size)) (u := .string) Tryd.underlying9 Tryd.underlying57 Tryd.underlying5
  have hB : ∀ j, j < ((s.extract 2 s.size)).size → (Lib.bytesWorld w 5 ((s.extract 2 s.size))).cell? ⟨w.heap.size, j, none⟩ = some (.int .u8 (((s.extract 2 s.size)).data.toList.getD j 0).toNat) := fun j hj => Lib.bytesWorld_cell w 5 ((s.extract 2 s.size)) j hj
  have HB1 := Lib.hid (Lib.bytesWorld_below w 5 ((s.extract 2 s.size)))
  rw [hts] at hcv hB
  obtain ⟨W1, hW1⟩ : ∃ W1, W1 = Lib.bytesWorld w 5 ((s.extract 2 s.size)) := ⟨_, rfl⟩
  rw [← hW1] at hcv hB HB1
  clear hW1
  obtain ⟨bs, hL⟩ : ∃ bs, bs = ((s.extract 2 s.size)).data.toList := ⟨_, rfl⟩
  have hLn : bs.length = (s.size - 2) := by
    rw [hL, Array.length_toList]
    exact hts
  have HUND := Lib.hid (fun (h : s[0].toNat ≠ 43 ∧ s[0].toNat ≠ 45) W => und_any s hs h0 h W)
  obtain ⟨U, hU⟩ : ∃ U, U = und0 s.data.toList := ⟨_, rfl⟩
  obtain ⟨R, hR⟩ : ∃ R, R = pu0 18446744073709551615 s.data.toList := ⟨_, rfl⟩
  rw [← hU] at HP HUND
  rw [← hR] at HP ⊢
  clear hU hR
  rw [← hL] at hB HP HS
  clear hL
  have hmv : IntKind.u64.wrap (IntKind.u64.wrap 18446744073709551616 - 1) = 18446744073709551615 := by
    rw [IntKind.wrap_u64, IntKind.wrap_u64]
    decide
  clear hts
  go_enter Tryd.func62, Tryd.ntmps62
  go_wp2_with (go_at_call 69; refine (low_any _ _).mono ?_; rintro e w' ⟨rfl, rfl⟩)
  go_loop [12, 13, 101] (fun vu vn vi => ∃ (k : Nat) (us : Bool) (a : Int), k ≤ (s.size - 2) ∧ vu = .bool us ∧ vn = .int .u64 a ∧ vi = .int .i64 (k : Nat) ∧ Hid (∃ acc : Nat, a = acc ∧ acc ≤ 18446744073709551615 ∧ go0 8 18446744073709551615 0 false bs = go0 8 18446744073709551615 acc us (bs.drop k))) (fun _ _ vi => (s.size - 2) - (intOf vi).toNat)
  case atStart => exact ⟨0, false, 0, Nat.zero_le _, rfl, rfl, rfl, Lib.hid ⟨0, rfl, by omega, rfl⟩⟩
  case round =>
    obtain ⟨k, us, a, hk, rfl, rfl, rfl, hh⟩ := hrel
    obtain ⟨acc, ha, hacc, hdec⟩ := hh.out
    clear hh
    have a0 : 0 ≤ a := by omega
    have a1 : a ≤ 18446744073709551615 := by omega
    by_cases hkn : k < (s.size - 2)
    · have hc := hB k hkn
      clear hB
      have hdrop : bs.drop k = bs[k]'(by omega) :: bs.drop (k + 1) := List.drop_eq_getElem_cons (by omega)
      have hget : bs.getD k 0 = bs[k]'(by omega) := by simp [List.getD, List.getElem?_eq_getElem (show k < bs.length by omega)]
      rw [hdrop] at hdec
      rw [hget] at hc
      generalize bs[k]'(by omega) = c at hc hdec
      have hc256 : c.toNat < 256 := c.toNat_lt
      have hlw := lw_lt c
      clear hdrop hget
      by_cases h95 : c.toNat = 95
      · have e95 : ((c.toNat : Int) == 95) = true := by simp [h95]
        have HN : Hid (∃ acc : Nat, a = acc ∧ acc ≤ 18446744073709551615 ∧ go0 8 18446744073709551615 0 false bs = go0 8 18446744073709551615 acc true (bs.drop (k + 1))) := Lib.hid ⟨acc, ha, hacc, by rw [hdec]; simp only [go0, h95, if_true]⟩
        clear hdec ha hacc h95
        go_wp2_with (go_at_call 69; refine (low_any _ _).mono ?_; rintro e w' ⟨rfl, rfl⟩)
        go_round
        case rel => exact ⟨k + 1, true, a, by omega, rfl, rfl, by go_num, HN⟩
        case measure => simp [intOf]; omega
      have e95 : ((c.toNat : Int) == 95) = false := by rw [beq_eq_false_iff_ne]; omega
      have HG : Hid (go0 8 18446744073709551615 0 false bs = if dig0 c ≥ 8 then .syn else if acc * 8 + dig0 c > 18446744073709551615 then .rng else go0 8 18446744073709551615 (acc * 8 + dig0 c) us (bs.drop (k + 1))) := Lib.hid (by rw [hdec]; simp only [go0, h95, if_false])
      clear hdec
      -- the digit
      have HD : Hid (∃ d : Int, d = dig0 c ∧ 0 ≤ d ∧ d ≤ 255 ∧ ((decide (48 ≤ (c.toNat : Int)) = true ∧ decide ((c.toNat : Int) ≤ 57) = true ∧ d = (c.toNat : Int) - 48) ∨ (((decide (48 ≤ (c.toNat : Int)) = true ∧ decide ((c.toNat : Int) ≤ 57) = false) ∨ decide (48 ≤ (c.toNat : Int)) = false) ∧ ((decide (97 ≤ (lw c : Int)) = true ∧ decide ((lw c : Int) ≤ 122) = true ∧ d = (lw c : Int) - 97 + 10) ∨ (((decide (97 ≤ (lw c : Int)) = true ∧ decide ((lw c : Int) ≤ 122) = false) ∨ decide (97 ≤ (lw c : Int)) = false) ∧ d = 255))))) := Lib.hid (digit_ways c)
      obtain ⟨d, hd, d0, d1, hway⟩ := HD.out
      clear HD h95
      by_cases hdB : dig0 c ≥ 8
      · -- no digit of the base
        have HF : Hid (R = .syn) := Lib.hid (by rw [HP.out, HG.out, if_pos hdB]; rfl)
        have dB : 8 ≤ d := by omega
        clear HG ha hacc hdB hd
        rcases hway with ⟨q1, q2, rfl⟩ | ⟨⟨q1, q2⟩ | q1, ⟨q3, q4, rfl⟩ | ⟨⟨q3, q4⟩ | q3, rfl⟩⟩
        all_goals (first | have q1' := of_decide_eq_true q1 | skip)
        all_goals (first | have q2' := of_decide_eq_true q2 | skip)
        all_goals (first | have q3' := of_decide_eq_true q3 | skip)
        all_goals (first | have q4' := of_decide_eq_true q4 | skip)
        all_goals go_wp2_with (go_at_call 69; refine (low_any _ _).mono ?_; rintro e w' ⟨rfl, rfl⟩)
        all_goals go_ret2
        all_goals exact ⟨by rw [HF.out]; rfl, HB1.out⟩
      have dB : d < 8 := by omega
      by_cases hov : acc * 8 + dig0 c > 18446744073709551615
      · have HF : Hid (R = .rng) := Lib.hid (by rw [HP.out, HG.out, if_neg hdB, if_pos hov]; rfl)
        have hov' : 18446744073709551615 < a * 8 + d := by rw [ha, hd]; have := hov; omega
        clear HG hdB hd hov
        by_cases hcut : 2305843009213693952 ≤ a
        · clear ha hacc hov'
          rcases hway with ⟨q1, q2, rfl⟩ | ⟨⟨q1, q2⟩ | q1, ⟨q3, q4, rfl⟩ | ⟨⟨q3, q4⟩ | q3, rfl⟩⟩
          all_goals (first | omega | skip)
          all_goals (first | have q1' := of_decide_eq_true q1 | skip)
          all_goals (first | have q2' := of_decide_eq_true q2 | skip)
          all_goals (first | have q3' := of_decide_eq_true q3 | skip)
          all_goals (first | have q4' := of_decide_eq_true q4 | skip)
          all_goals go_wp2_with (go_at_call 69; refine (low_any _ _).mono ?_; rintro e w' ⟨rfl, rfl⟩)
          all_goals go_ret2
          all_goals exact ⟨by rw [HF.out]; rfl, HB1.out⟩
        · have icut : a < 2305843009213693952 := by omega
          clear ha hacc hcut
          by_cases hwr : 18446744073709551616 ≤ a * 8 + d
          · have HWR : Hid (IntKind.u64.wrap (a * 8 + d) = a * 8 + d - 18446744073709551616) := Lib.hid (by rw [IntKind.wrap_u64]; omega)
            rcases hway with ⟨q1, q2, rfl⟩ | ⟨⟨q1, q2⟩ | q1, ⟨q3, q4, rfl⟩ | ⟨⟨q3, q4⟩ | q3, rfl⟩⟩
            all_goals (first | omega | skip)
            all_goals (first | have q1' := of_decide_eq_true q1 | skip)
            all_goals (first | have q2' := of_decide_eq_true q2 | skip)
            all_goals (first | have q3' := of_decide_eq_true q3 | skip)
            all_goals (first | have q4' := of_decide_eq_true q4 | skip)
            all_goals have hwrap := HWR.out
            all_goals go_wp2_with (go_at_call 69; refine (low_any _ _).mono ?_; rintro e w' ⟨rfl, rfl⟩)
            all_goals go_ret2
            all_goals exact ⟨by rw [HF.out]; rfl, HB1.out⟩
          · rcases hway with ⟨q1, q2, rfl⟩ | ⟨⟨q1, q2⟩ | q1, ⟨q3, q4, rfl⟩ | ⟨⟨q3, q4⟩ | q3, rfl⟩⟩
            all_goals (first | omega | skip)
            all_goals (first | have q1' := of_decide_eq_true q1 | skip)
            all_goals (first | have q2' := of_decide_eq_true q2 | skip)
            all_goals (first | have q3' := of_decide_eq_true q3 | skip)
            all_goals (first | have q4' := of_decide_eq_true q4 | skip)
            all_goals go_wp2_with (go_at_call 69; refine (low_any _ _).mono ?_; rintro e w' ⟨rfl, rfl⟩)
            all_goals go_ret2
            all_goals exact ⟨by rw [HF.out]; rfl, HB1.out⟩
      have hov' : a * 8 + d ≤ 18446744073709551615 := by rw [ha, hd]; omega
      have icut : a < 2305843009213693952 := by omega
      have HN : Hid (∃ acc : Nat, a * 8 + d = acc ∧ acc ≤ 18446744073709551615 ∧ go0 8 18446744073709551615 0 false bs = go0 8 18446744073709551615 acc us (bs.drop (k + 1))) := Lib.hid ⟨acc * 8 + dig0 c, by rw [ha, hd]; omega, by omega, by rw [HG.out, if_neg hdB, if_neg hov]⟩
      clear HG ha hacc hdB hd hov
      rcases hway with ⟨q1, q2, rfl⟩ | ⟨⟨q1, q2⟩ | q1, ⟨q3, q4, rfl⟩ | ⟨⟨q3, q4⟩ | q3, rfl⟩⟩
      all_goals (first | omega | skip)
      all_goals (first | have q1' := of_decide_eq_true q1 | skip)
      all_goals (first | have q2' := of_decide_eq_true q2 | skip)
      all_goals (first | have q3' := of_decide_eq_true q3 | skip)
      all_goals (first | have q4' := of_decide_eq_true q4 | skip)
      all_goals go_wp2_with (go_at_call 69; refine (low_any _ _).mono ?_; rintro e w' ⟨rfl, rfl⟩)
      all_goals go_round
      all_goals first
        | exact ⟨k + 1, us, _, by omega, rfl, rfl, by go_num, HN⟩
        | (simp [intOf]; omega)
    · have hdec' : go0 8 18446744073709551615 0 false bs = .ok acc us := by rw [hdec, List.drop_eq_nil_of_le (by omega)]; rfl
      have HSG := HS.out acc us hdec'
      have HA : Hid (R = fin0 U (.ok acc us)) := Lib.hid (by rw [HP.out, hdec'])
      subst ha
      clear hacc hdec hdec' hB a0 a1
      cases us with
      | false =>
        go_wp2_with (go_at_call 69; refine (low_any _ _).mono ?_; rintro e w' ⟨rfl, rfl⟩)
        go_ret2
        exact ⟨by rw [HA.out]; rfl, HB1.out⟩
      | true =>
        cases U with
        | true =>
          have HU := Lib.hid (HUND.out HSG)
          have HF : Hid (R = .ok acc true) := Lib.hid (by rw [HA.out]; rfl)
          clear HA HUND
          go_wp2_with (go_at_call 70; refine (HU.out _).mono ?_; rintro e w' ⟨rfl, rfl⟩)
          go_ret2
          exact ⟨by rw [HF.out]; rfl, HB1.out⟩
        | false =>
          have HU := Lib.hid (HUND.out HSG)
          have HF : Hid (R = .syn) := Lib.hid (by rw [HA.out]; rfl)
          clear HA HUND
          go_wp2_with (go_at_call 70; refine (HU.out _).mono ?_; rintro e w' ⟨rfl, rfl⟩)
          go_ret2
          exact ⟨by rw [HF.out]; rfl, HB1.out⟩
set_option maxRecDepth 100000 in
set_option maxHeartbeats 6400000 in
theorem pu0_x (s : ByteArray) (hs : s.size ≤ 2147483647) (h0 : 0 < s.size) (h2 : 3 ≤ s.size) (hz : s[0].toNat = 48) (hq : lw s[1] = 120) (w : World) :
    Calls Tryd.prog 62 #[.string s, .int .i64 0, .int .i64 0] w fun e w' => e = .returned (r0 18446744073709551615 (pu0 18446744073709551615 s.data.toList)) ∧ Below w.heap.size w w' := by
  have hemp : (s.toList == []) = false := ne_empty h0
  have e48 : ((s[0].toNat : Int) == 48) = true := by simp [hz]
  have l3 : decide (3 ≤ (s.size : Int)) = true := decide_eq_true (by omega)
  have eq98 : (((lw s[1] : Nat) : Int) == 98) = false := by rw [beq_eq_false_iff_ne]; omega
  have eq111 : (((lw s[1] : Nat) : Int) == 111) = false := by rw [beq_eq_false_iff_ne]; omega
  have eq120 : (((lw s[1] : Nat) : Int) == 120) = true := by simp [hq]
  have HP : Hid (pu0 18446744073709551615 s.data.toList = fin0 (und0 s.data.toList) (go0 16 18446744073709551615 0 false ((s.extract 2 s.size)).data.toList)) := Lib.hid (by
    rw [pu0, if_neg (ne_nil h0), pre_x s h2 hz hq])
  have HS : Hid (∀ n us, go0 16 18446744073709551615 0 false ((s.extract 2 s.size)).data.toList = .ok n us → s[0].toNat ≠ 43 ∧ s[0].toNat ≠ 45) := Lib.hid (by
    exact fun n us h => by omega)
  have hts : ((s.extract 2 s.size)).size = (s.size - 2) := by first | rfl | (rw [ByteArray.size_extract]; omega)
  have hcv := Lib.run_convert_string_bytes (P := Tryd.prog) w 9 57 5 ((s.extract 2 s.size)) (u := .string) Tryd.underlying9 Tryd.underlying57 Tryd.underlying5
  have hB : ∀ j, j < ((s.extract 2 s.size)).size → (Lib.bytesWorld w 5 ((s.extract 2 s.size))).cell? ⟨w.heap.size, j, none⟩ = some (.int .u8 (((s.extract 2 s.size)).data.toList.getD j 0).toNat) := fun j hj => Lib.bytesWorld_cell w 5 ((s.extract 2 s.size)) j hj
  have HB1 := Lib.hid (Lib.bytesWorld_below w 5 ((s.extract 2 s.size)))
  rw [hts] at hcv hB
  obtain ⟨W1, hW1⟩ : ∃ W1, W1 = Lib.bytesWorld w 5 ((s.extract 2 s.size)) := ⟨_, rfl⟩
  rw [← hW1] at hcv hB HB1
  clear hW1
  obtain ⟨bs, hL⟩ : ∃ bs, bs = ((s.extract 2 s.size)).data.toList := ⟨_, rfl⟩
  have hLn : bs.length = (s.size - 2) := by
    rw [hL, Array.length_toList]
    exact hts
  have HUND := Lib.hid (fun (h : s[0].toNat ≠ 43 ∧ s[0].toNat ≠ 45) W => und_any s hs h0 h W)
  obtain ⟨U, hU⟩ : ∃ U, U = und0 s.data.toList := ⟨_, rfl⟩
  obtain ⟨R, hR⟩ : ∃ R, R = pu0 18446744073709551615 s.data.toList := ⟨_, rfl⟩
  rw [← hU] at HP HUND
  rw [← hR] at HP ⊢
  clear hU hR
  rw [← hL] at hB HP HS
  clear hL
  have hmv : IntKind.u64.wrap (IntKind.u64.wrap 18446744073709551616 - 1) = 18446744073709551615 := by
    rw [IntKind.wrap_u64, IntKind.wrap_u64]
    decide
  clear hts
  go_enter Tryd.func62, Tryd.ntmps62
  go_wp2_with (go_at_call 69; refine (low_any _ _).mono ?_; rintro e w' ⟨rfl, rfl⟩)
  go_loop [12, 13, 101] (fun vu vn vi => ∃ (k : Nat) (us : Bool) (a : Int), k ≤ (s.size - 2) ∧ vu = .bool us ∧ vn = .int .u64 a ∧ vi = .int .i64 (k : Nat) ∧ Hid (∃ acc : Nat, a = acc ∧ acc ≤ 18446744073709551615 ∧ go0 16 18446744073709551615 0 false bs = go0 16 18446744073709551615 acc us (bs.drop k))) (fun _ _ vi => (s.size - 2) - (intOf vi).toNat)
  case atStart => exact ⟨0, false, 0, Nat.zero_le _, rfl, rfl, rfl, Lib.hid ⟨0, rfl, by omega, rfl⟩⟩
  case round =>
    obtain ⟨k, us, a, hk, rfl, rfl, rfl, hh⟩ := hrel
    obtain ⟨acc, ha, hacc, hdec⟩ := hh.out
    clear hh
    have a0 : 0 ≤ a := by omega
    have a1 : a ≤ 18446744073709551615 := by omega
    by_cases hkn : k < (s.size - 2)
    · have hc := hB k hkn
      clear hB
      have hdrop : bs.drop k = bs[k]'(by omega) :: bs.drop (k + 1) := List.drop_eq_getElem_cons (by omega)
      have hget : bs.getD k 0 = bs[k]'(by omega) := by simp [List.getD, List.getElem?_eq_getElem (show k < bs.length by omega)]
      rw [hdrop] at hdec
      rw [hget] at hc
      generalize bs[k]'(by omega) = c at hc hdec
      have hc256 : c.toNat < 256 := c.toNat_lt
      have hlw := lw_lt c
      clear hdrop hget
      by_cases h95 : c.toNat = 95
      · have e95 : ((c.toNat : Int) == 95) = true := by simp [h95]
        have HN : Hid (∃ acc : Nat, a = acc ∧ acc ≤ 18446744073709551615 ∧ go0 16 18446744073709551615 0 false bs = go0 16 18446744073709551615 acc true (bs.drop (k + 1))) := Lib.hid ⟨acc, ha, hacc, by rw [hdec]; simp only [go0, h95, if_true]⟩
        clear hdec ha hacc h95
        go_wp2_with (go_at_call 69; refine (low_any _ _).mono ?_; rintro e w' ⟨rfl, rfl⟩)
        go_round
        case rel => exact ⟨k + 1, true, a, by omega, rfl, rfl, by go_num, HN⟩
        case measure => simp [intOf]; omega
      have e95 : ((c.toNat : Int) == 95) = false := by rw [beq_eq_false_iff_ne]; omega
      have HG : Hid (go0 16 18446744073709551615 0 false bs = if dig0 c ≥ 16 then .syn else if acc * 16 + dig0 c > 18446744073709551615 then .rng else go0 16 18446744073709551615 (acc * 16 + dig0 c) us (bs.drop (k + 1))) := Lib.hid (by rw [hdec]; simp only [go0, h95, if_false])
      clear hdec
      -- the digit
      have HD : Hid (∃ d : Int, d = dig0 c ∧ 0 ≤ d ∧ d ≤ 255 ∧ ((decide (48 ≤ (c.toNat : Int)) = true ∧ decide ((c.toNat : Int) ≤ 57) = true ∧ d = (c.toNat : Int) - 48) ∨ (((decide (48 ≤ (c.toNat : Int)) = true ∧ decide ((c.toNat : Int) ≤ 57) = false) ∨ decide (48 ≤ (c.toNat : Int)) = false) ∧ ((decide (97 ≤ (lw c : Int)) = true ∧ decide ((lw c : Int) ≤ 122) = true ∧ d = (lw c : Int) - 97 + 10) ∨ (((decide (97 ≤ (lw c : Int)) = true ∧ decide ((lw c : Int) ≤ 122) = false) ∨ decide (97 ≤ (lw c : Int)) = false) ∧ d = 255))))) := Lib.hid (digit_ways c)
      obtain ⟨d, hd, d0, d1, hway⟩ := HD.out
      clear HD h95
      by_cases hdB : dig0 c ≥ 16
      · -- no digit of the base
        have HF : Hid (R = .syn) := Lib.hid (by rw [HP.out, HG.out, if_pos hdB]; rfl)
        have dB : 16 ≤ d := by omega
        clear HG ha hacc hdB hd
        rcases hway with ⟨q1, q2, rfl⟩ | ⟨⟨q1, q2⟩ | q1, ⟨q3, q4, rfl⟩ | ⟨⟨q3, q4⟩ | q3, rfl⟩⟩
        all_goals (first | have q1' := of_decide_eq_true q1 | skip)
        all_goals (first | have q2' := of_decide_eq_true q2 | skip)
        all_goals (first | have q3' := of_decide_eq_true q3 | skip)
        all_goals (first | have q4' := of_decide_eq_true q4 | skip)
        all_goals go_wp2_with (go_at_call 69; refine (low_any _ _).mono ?_; rintro e w' ⟨rfl, rfl⟩)
        all_goals go_ret2
        all_goals exact ⟨by rw [HF.out]; rfl, HB1.out⟩
      have dB : d < 16 := by omega
      by_cases hov : acc * 16 + dig0 c > 18446744073709551615
      · have HF : Hid (R = .rng) := Lib.hid (by rw [HP.out, HG.out, if_neg hdB, if_pos hov]; rfl)
        have hov' : 18446744073709551615 < a * 16 + d := by rw [ha, hd]; have := hov; omega
        clear HG hdB hd hov
        by_cases hcut : 1152921504606846976 ≤ a
        · clear ha hacc hov'
          rcases hway with ⟨q1, q2, rfl⟩ | ⟨⟨q1, q2⟩ | q1, ⟨q3, q4, rfl⟩ | ⟨⟨q3, q4⟩ | q3, rfl⟩⟩
          all_goals (first | omega | skip)
          all_goals (first | have q1' := of_decide_eq_true q1 | skip)
          all_goals (first | have q2' := of_decide_eq_true q2 | skip)
          all_goals (first | have q3' := of_decide_eq_true q3 | skip)
          all_goals (first | have q4' := of_decide_eq_true q4 | skip)
          all_goals go_wp2_with (go_at_call 69; refine (low_any _ _).mono ?_; rintro e w' ⟨rfl, rfl⟩)
          all_goals go_ret2
          all_goals exact ⟨by rw [HF.out]; rfl, HB1.out⟩
        · have icut : a < 1152921504606846976 := by omega
          clear ha hacc hcut
          by_cases hwr : 18446744073709551616 ≤ a * 16 + d
          · have HWR : Hid (IntKind.u64.wrap (a * 16 + d) = a * 16 + d - 18446744073709551616) := Lib.hid (by rw [IntKind.wrap_u64]; omega)
            rcases hway with ⟨q1, q2, rfl⟩ | ⟨⟨q1, q2⟩ | q1, ⟨q3, q4, rfl⟩ | ⟨⟨q3, q4⟩ | q3, rfl⟩⟩
            all_goals (first | omega | skip)
            all_goals (first | have q1' := of_decide_eq_true q1 | skip)
            all_goals (first | have q2' := of_decide_eq_true q2 | skip)
            all_goals (first | have q3' := of_decide_eq_true q3 | skip)
            all_goals (first | have q4' := of_decide_eq_true q4 | skip)
            all_goals have hwrap := HWR.out
            all_goals go_wp2_with (go_at_call 69; refine (low_any _ _).mono ?_; rintro e w' ⟨rfl, rfl⟩)
            all_goals go_ret2
            all_goals exact ⟨by rw [HF.out]; rfl, HB1.out⟩
          · rcases hway with ⟨q1, q2, rfl⟩ | ⟨⟨q1, q2⟩ | q1, ⟨q3, q4, rfl⟩ | ⟨⟨q3, q4⟩ | q3, rfl⟩⟩
            all_goals (first | omega | skip)
            all_goals (first | have q1' := of_decide_eq_true q1 | skip)
            all_goals (first | have q2' := of_decide_eq_true q2 | skip)
            all_goals (first | have q3' := of_decide_eq_true q3 | skip)
            all_goals (first | have q4' := of_decide_eq_true q4 | skip)
            all_goals go_wp2_with (go_at_call 69; refine (low_any _ _).mono ?_; rintro e w' ⟨rfl, rfl⟩)
            all_goals go_ret2
            all_goals exact ⟨by rw [HF.out]; rfl, HB1.out⟩
      have hov' : a * 16 + d ≤ 18446744073709551615 := by rw [ha, hd]; omega
      have icut : a < 1152921504606846976 := by omega
      have HN : Hid (∃ acc : Nat, a * 16 + d = acc ∧ acc ≤ 18446744073709551615 ∧ go0 16 18446744073709551615 0 false bs = go0 16 18446744073709551615 acc us (bs.drop (k + 1))) := Lib.hid ⟨acc * 16 + dig0 c, by rw [ha, hd]; omega, by omega, by rw [HG.out, if_neg hdB, if_neg hov]⟩
      clear HG ha hacc hdB hd hov
      rcases hway with ⟨q1, q2, rfl⟩ | ⟨⟨q1, q2⟩ | q1, ⟨q3, q4, rfl⟩ | ⟨⟨q3, q4⟩ | q3, rfl⟩⟩
      all_goals (first | omega | skip)
      all_goals (first | have q1' := of_decide_eq_true q1 | skip)
      all_goals (first | have q2' := of_decide_eq_true q2 | skip)
      all_goals (first | have q3' := of_decide_eq_true q3 | skip)
      all_goals (first | have q4' := of_decide_eq_true q4 | skip)
      all_goals go_wp2_with (go_at_call 69; refine (low_any _ _).mono ?_; rintro e w' ⟨rfl, rfl⟩)
      all_goals go_round
      all_goals first
        | exact ⟨k + 1, us, _, by omega, rfl, rfl, by go_num, HN⟩
        | (simp [intOf]; omega)
    · have hdec' : go0 16 18446744073709551615 0 false bs = .ok acc us := by rw [hdec, List.drop_eq_nil_of_le (by omega)]; rfl
      have HSG := HS.out acc us hdec'
      have HA : Hid (R = fin0 U (.ok acc us)) := Lib.hid (by rw [HP.out, hdec'])
      subst ha
      clear hacc hdec hdec' hB a0 a1
      cases us with
      | false =>
        go_wp2_with (go_at_call 69; refine (low_any _ _).mono ?_; rintro e w' ⟨rfl, rfl⟩)
        go_ret2
        exact ⟨by rw [HA.out]; rfl, HB1.out⟩
      | true =>
        cases U with
        | true =>
          have HU := Lib.hid (HUND.out HSG)
          have HF : Hid (R = .ok acc true) := Lib.hid (by rw [HA.out]; rfl)
          clear HA HUND
          go_wp2_with (go_at_call 70; refine (HU.out _).mono ?_; rintro e w' ⟨rfl, rfl⟩)
          go_ret2
          exact ⟨by rw [HF.out]; rfl, HB1.out⟩
        | false =>
          have HU := Lib.hid (HUND.out HSG)
          have HF : Hid (R = .syn) := Lib.hid (by rw [HA.out]; rfl)
          clear HA HUND
          go_wp2_with (go_at_call 70; refine (HU.out _).mono ?_; rintro e w' ⟨rfl, rfl⟩)
          go_ret2
          exact ⟨by rw [HF.out]; rfl, HB1.out⟩
theorem pu0_any (s : ByteArray) (hs : s.size ≤ 2147483647) (h0 : 0 < s.size) (w : World) :
    Calls Tryd.prog 62 #[.string s, .int .i64 0, .int .i64 0] w fun e w' => e = .returned (r0 18446744073709551615 (pu0 18446744073709551615 s.data.toList)) ∧ Below w.heap.size w w' := by
  by_cases hz : s[0].toNat = 48
  · by_cases h1 : s.size = 1
    · exact pu0_n1 s hs h0 h1 hz w
    · by_cases h2 : s.size = 2
      · exact pu0_n2 s hs h0 h2 hz w
      · by_cases q1 : lw s[1] = 98
        · exact pu0_b s hs h0 (by omega) hz q1 w
        · by_cases q2 : lw s[1] = 111
          · exact pu0_o s hs h0 (by omega) hz q2 w
          · by_cases q3 : lw s[1] = 120
            · exact pu0_x s hs h0 (by omega) hz q3 w
            · exact pu0_n3 s hs h0 (by omega) hz ⟨q1, q2, q3⟩ w
  · exact pu0_d s hs h0 hz w
end Go.Proofs.YtfeijmoncadkiaaDoor
