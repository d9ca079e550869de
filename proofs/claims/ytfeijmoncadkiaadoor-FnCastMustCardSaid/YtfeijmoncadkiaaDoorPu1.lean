/- The walks of internal/strconv's lower and underscoreOK. -/
import Derived.Test.YtfeijmoncadkiaaDoorH
import Derived.Test.YtfeijmoncadkiaaDoorPu0
import Derived.Lib.ConvBytes
import Derived.Lib.Strings
namespace Go.Proofs.YtfeijmoncadkiaaDoor
open Go.RowKit
set_option linter.unusedVariables false
set_option linter.unusedSimpArgs false

theorem bits_lw (c : UInt8) : bits .or .u8 (c.toNat : Nat) 32 = (lw c : Nat) := by
  have h : ∀ n : Fin 256, bits .or .u8 (n.val : Nat) 32 = ((n.val ||| 32 : Nat) : Int) := by decide +kernel
  exact h ⟨c.toNat, c.toNat_lt⟩
theorem low_any (c : UInt8) (w : World) : Calls Tryd.prog 69 #[.int .u8 (c.toNat : Nat)] w fun e w' => e = .returned (.int .u8 (lw c : Nat)) ∧ w = w' := by
  have H := Lib.hid (bits_lw c)
  go_enter Tryd.func69, Tryd.ntmps69
  go_wp2
  go_ret
  rw [← H.out]
  exact ⟨rfl, rfl⟩

theorem toList_get (s : ByteArray) (k : Nat) (h : k < s.size) : s.data.toList[k]? = some s[k] := by
  rw [List.getElem?_eq_getElem (by simpa using h)]
  rfl
theorem drop_get (s : ByteArray) (k : Nat) (h : k < s.size) : s.data.toList.drop k = s[k] :: s.data.toList.drop (k + 1) := by
  rw [List.drop_eq_getElem_cons (by simpa using h)]
  rfl

theorem two_heads (s : ByteArray) (h : 2 ≤ s.size) : s.data.toList = s[0] :: s[1] :: s.data.toList.drop 2 := by
  have a := drop_get s 0 (by omega)
  have b := drop_get s 1 (by omega)
  rw [List.drop_zero] at a
  exact a.trans (congrArg (s[0] :: ·) b)
theorem one_head (s : ByteArray) (h : s.size = 1) : s.data.toList = [s[0]] := by
  have a := drop_get s 0 (by omega)
  rw [List.drop_zero, List.drop_eq_nil_of_le (by simp; omega)] at a
  exact a

/-- The loop of underscoreOK, in the words of the walk. -/
theorem undGo_dig {hex : Bool} {saw : Nat} {c : UInt8} {r : List UInt8} (h : okDig hex c = true) : undGo hex saw (c :: r) = undGo hex 48 r := by
  simp only [undGo, h, if_true]
theorem undGo_us {hex : Bool} {saw : Nat} {c : UInt8} {r : List UInt8} (h : okDig hex c = false) (hc : c.toNat = 95) : undGo hex saw (c :: r) = if saw = 48 then undGo hex 95 r else false := by
  simp only [undGo, h, Bool.false_eq_true, if_false, hc, if_true]
theorem undGo_no {hex : Bool} {saw : Nat} {c : UInt8} {r : List UInt8} (h : okDig hex c = false) (hc : c.toNat ≠ 95) : undGo hex saw (c :: r) = if saw = 95 then false else undGo hex 33 r := by
  simp only [undGo, h, Bool.false_eq_true, if_false, hc]

set_option maxRecDepth 100000 in
set_option maxHeartbeats 6400000 in
theorem und_b (s : ByteArray) (hs : s.size ≤ 2147483647) (h0 : 0 < s.size) (hsg : s[0].toNat ≠ 43 ∧ s[0].toNat ≠ 45) (h2 : 2 ≤ s.size) (hz : s[0].toNat = 48) (hq : lw s[1] = 98) (w : World) :
    Calls Tryd.prog 70 #[.string s] w fun e w' => e = .returned (.bool (und0 s.data.toList)) ∧ w = w' := by
  have e43 : ((s[0].toNat : Int) == 43) = false := by rw [beq_eq_false_iff_ne]; omega
  have e45 : ((s[0].toNat : Int) == 45) = false := by rw [beq_eq_false_iff_ne]; omega
  have l1 : decide (1 ≤ (s.size : Int)) = true := decide_eq_true (by omega)
  have e48 : ((s[0].toNat : Int) == 48) = true := by simp [hz]
  have l2 : decide (2 ≤ (s.size : Int)) = true := decide_eq_true (by omega)
  have eq98 : (((lw s[1] : Nat) : Int) == 98) = true := by simp [hq]
  have eq120 : (((lw s[1] : Nat) : Int) == 120) = false := by rw [beq_eq_false_iff_ne]; omega
  have HS : Hid (und0 s.data.toList = undGo false 48 (s.data.toList.drop 2)) := Lib.hid (by
    have e := two_heads s h2
    generalize hr : s.data.toList.drop 2 = r at *
    rw [e]
    simp only [und0, List.drop_zero]
    first
      | (rw [if_pos (by omega), hq]; rfl)
      | rw [if_neg (by omega)])
  clear hsg
  go_enter Tryd.func70, Tryd.ntmps70
  go_wp2_with (go_at_call 69; refine (low_any _ _).mono ?_; rintro e w' ⟨rfl, rfl⟩)
  go_loop [3, 4] (fun vs vi => ∃ (k saw : Nat), k ≤ s.size ∧ vs = .int .i32 (saw : Nat) ∧ vi = .int .i64 (k : Nat) ∧ Hid (und0 s.data.toList = undGo false saw (s.data.toList.drop k))) (fun _ vi => s.size - (intOf vi).toNat)
  case atStart => exact ⟨2, 48, by omega, rfl, rfl, HS⟩
  case round =>
    obtain ⟨k, saw, hk, rfl, rfl, hh⟩ := hrel
    by_cases hlt : k < s.size
    · have hd := drop_get s k hlt
      have HE : Hid (und0 s.data.toList = undGo false saw (s[k] :: s.data.toList.drop (k + 1))) := Lib.hid (by rw [← hd]; exact hh.out)
      have hc := s[k].toNat_lt
      have hlc := lw_lt s[k]
      clear hh hd
      by_cases h1 : 48 ≤ s[k].toNat ∧ s[k].toNat ≤ 57
      · have HN : Hid (und0 s.data.toList = undGo false 48 (s.data.toList.drop (k + 1))) := Lib.hid (by rw [HE.out]; exact undGo_dig (by simp [okDig, h1]))
        have d1 : decide (48 ≤ (s[k].toNat : Int)) = true := decide_eq_true (by omega)
        have d2 : decide ((s[k].toNat : Int) ≤ 57) = true := decide_eq_true (by omega)
        clear HE h1
        go_wp2_with (go_at_call 69; refine (low_any _ _).mono ?_; rintro e w' ⟨rfl, rfl⟩)
        go_round
        case rel => exact ⟨k + 1, 48, by omega, rfl, by go_num, HN⟩
        case measure => simp [intOf]; omega
      · have hok : okDig false s[k] = false := by
          simp [okDig]
          omega
        have HD : Hid ((decide (48 ≤ (s[k].toNat : Int)) = true ∧ decide ((s[k].toNat : Int) ≤ 57) = false) ∨ decide (48 ≤ (s[k].toNat : Int)) = false) := Lib.hid (by
          by_cases h3 : 48 ≤ s[k].toNat
          · exact .inl ⟨decide_eq_true (by omega), decide_eq_false (by omega)⟩
          · exact .inr (decide_eq_false (by omega)))
        by_cases h95 : s[k].toNat = 95
        · have e95 : ((s[k].toNat : Int) == 95) = true := by simp [h95]
          by_cases hsaw : saw = 48
          · have HN : Hid (und0 s.data.toList = undGo false 95 (s.data.toList.drop (k + 1))) := Lib.hid (by rw [HE.out, undGo_us hok h95, if_pos hsaw])
            subst hsaw
            clear HE h1 hok h95
            rcases HD.out with ⟨d1, d2⟩ | d1
            all_goals
              go_wp2_with (go_at_call 69; refine (low_any _ _).mono ?_; rintro e w' ⟨rfl, rfl⟩)
              go_round
              case rel => exact ⟨k + 1, 95, by omega, rfl, by go_num, HN⟩
              case measure => simp [intOf]; omega
          · have HN : Hid (und0 s.data.toList = false) := Lib.hid (by rw [HE.out, undGo_us hok h95, if_neg hsaw])
            have e48 : ((saw : Int) != 48) = true := by simp; omega
            clear HE h1 hok h95 hsaw
            rcases HD.out with ⟨d1, d2⟩ | d1
            all_goals
              go_wp2_with (go_at_call 69; refine (low_any _ _).mono ?_; rintro e w' ⟨rfl, rfl⟩)
              go_ret
              rw [HN.out]
              exact ⟨rfl, rfl⟩
        · have e95 : ((s[k].toNat : Int) == 95) = false := by rw [beq_eq_false_iff_ne]; omega
          by_cases hsaw : saw = 95
          · have HN : Hid (und0 s.data.toList = false) := Lib.hid (by rw [HE.out, undGo_no hok h95, if_pos hsaw])
            subst hsaw
            clear HE h1 hok h95
            rcases HD.out with ⟨d1, d2⟩ | d1
            all_goals
              go_wp2_with (go_at_call 69; refine (low_any _ _).mono ?_; rintro e w' ⟨rfl, rfl⟩)
              go_ret
              rw [HN.out]
              exact ⟨rfl, rfl⟩
          · have HN : Hid (und0 s.data.toList = undGo false 33 (s.data.toList.drop (k + 1))) := Lib.hid (by rw [HE.out, undGo_no hok h95, if_neg hsaw])
            have e48 : ((saw : Int) == 95) = false := by rw [beq_eq_false_iff_ne]; omega
            clear HE h1 hok h95 hsaw
            rcases HD.out with ⟨d1, d2⟩ | d1
            all_goals
              go_wp2_with (go_at_call 69; refine (low_any _ _).mono ?_; rintro e w' ⟨rfl, rfl⟩)
              go_round
              case rel => exact ⟨k + 1, 33, by omega, rfl, by go_num, HN⟩
              case measure => simp [intOf]; omega
    · have HN : Hid (und0 s.data.toList = (saw != 95)) := Lib.hid (by rw [hh.out, List.drop_eq_nil_of_le (by simp; omega)]; rfl)
      have hb : ((saw : Int) != 95) = (saw != 95) := by
        cases h : (saw != 95) with
        | true => rw [bne_iff_ne] at h ⊢; omega
        | false => rw [bne_eq_false_iff_eq] at h ⊢; omega
      clear hh
      generalize (saw != 95) = r at *
      go_wp2_with (go_at_call 69; refine (low_any _ _).mono ?_; rintro e w' ⟨rfl, rfl⟩)
      go_ret
      rw [HN.out]
      exact ⟨rfl, rfl⟩
set_option maxRecDepth 100000 in
set_option maxHeartbeats 6400000 in
theorem und_o (s : ByteArray) (hs : s.size ≤ 2147483647) (h0 : 0 < s.size) (hsg : s[0].toNat ≠ 43 ∧ s[0].toNat ≠ 45) (h2 : 2 ≤ s.size) (hz : s[0].toNat = 48) (hq : lw s[1] = 111) (w : World) :
    Calls Tryd.prog 70 #[.string s] w fun e w' => e = .returned (.bool (und0 s.data.toList)) ∧ w = w' := by
  have e43 : ((s[0].toNat : Int) == 43) = false := by rw [beq_eq_false_iff_ne]; omega
  have e45 : ((s[0].toNat : Int) == 45) = false := by rw [beq_eq_false_iff_ne]; omega
  have l1 : decide (1 ≤ (s.size : Int)) = true := decide_eq_true (by omega)
  have e48 : ((s[0].toNat : Int) == 48) = true := by simp [hz]
  have l2 : decide (2 ≤ (s.size : Int)) = true := decide_eq_true (by omega)
  have eq98 : (((lw s[1] : Nat) : Int) == 98) = false := by rw [beq_eq_false_iff_ne]; omega
  have eq111 : (((lw s[1] : Nat) : Int) == 111) = true := by simp [hq]
  have eq120 : (((lw s[1] : Nat) : Int) == 120) = false := by rw [beq_eq_false_iff_ne]; omega
  have HS : Hid (und0 s.data.toList = undGo false 48 (s.data.toList.drop 2)) := Lib.hid (by
    have e := two_heads s h2
    generalize hr : s.data.toList.drop 2 = r at *
    rw [e]
    simp only [und0, List.drop_zero]
    first
      | (rw [if_pos (by omega), hq]; rfl)
      | rw [if_neg (by omega)])
  clear hsg
  go_enter Tryd.func70, Tryd.ntmps70
  go_wp2_with (go_at_call 69; refine (low_any _ _).mono ?_; rintro e w' ⟨rfl, rfl⟩)
  go_loop [3, 4] (fun vs vi => ∃ (k saw : Nat), k ≤ s.size ∧ vs = .int .i32 (saw : Nat) ∧ vi = .int .i64 (k : Nat) ∧ Hid (und0 s.data.toList = undGo false saw (s.data.toList.drop k))) (fun _ vi => s.size - (intOf vi).toNat)
  case atStart => exact ⟨2, 48, by omega, rfl, rfl, HS⟩
  case round =>
    obtain ⟨k, saw, hk, rfl, rfl, hh⟩ := hrel
    by_cases hlt : k < s.size
    · have hd := drop_get s k hlt
      have HE : Hid (und0 s.data.toList = undGo false saw (s[k] :: s.data.toList.drop (k + 1))) := Lib.hid (by rw [← hd]; exact hh.out)
      have hc := s[k].toNat_lt
      have hlc := lw_lt s[k]
      clear hh hd
      by_cases h1 : 48 ≤ s[k].toNat ∧ s[k].toNat ≤ 57
      · have HN : Hid (und0 s.data.toList = undGo false 48 (s.data.toList.drop (k + 1))) := Lib.hid (by rw [HE.out]; exact undGo_dig (by simp [okDig, h1]))
        have d1 : decide (48 ≤ (s[k].toNat : Int)) = true := decide_eq_true (by omega)
        have d2 : decide ((s[k].toNat : Int) ≤ 57) = true := decide_eq_true (by omega)
        clear HE h1
        go_wp2_with (go_at_call 69; refine (low_any _ _).mono ?_; rintro e w' ⟨rfl, rfl⟩)
        go_round
        case rel => exact ⟨k + 1, 48, by omega, rfl, by go_num, HN⟩
        case measure => simp [intOf]; omega
      · have hok : okDig false s[k] = false := by
          simp [okDig]
          omega
        have HD : Hid ((decide (48 ≤ (s[k].toNat : Int)) = true ∧ decide ((s[k].toNat : Int) ≤ 57) = false) ∨ decide (48 ≤ (s[k].toNat : Int)) = false) := Lib.hid (by
          by_cases h3 : 48 ≤ s[k].toNat
          · exact .inl ⟨decide_eq_true (by omega), decide_eq_false (by omega)⟩
          · exact .inr (decide_eq_false (by omega)))
        by_cases h95 : s[k].toNat = 95
        · have e95 : ((s[k].toNat : Int) == 95) = true := by simp [h95]
          by_cases hsaw : saw = 48
          · have HN : Hid (und0 s.data.toList = undGo false 95 (s.data.toList.drop (k + 1))) := Lib.hid (by rw [HE.out, undGo_us hok h95, if_pos hsaw])
            subst hsaw
            clear HE h1 hok h95
            rcases HD.out with ⟨d1, d2⟩ | d1
            all_goals
              go_wp2_with (go_at_call 69; refine (low_any _ _).mono ?_; rintro e w' ⟨rfl, rfl⟩)
              go_round
              case rel => exact ⟨k + 1, 95, by omega, rfl, by go_num, HN⟩
              case measure => simp [intOf]; omega
          · have HN : Hid (und0 s.data.toList = false) := Lib.hid (by rw [HE.out, undGo_us hok h95, if_neg hsaw])
            have e48 : ((saw : Int) != 48) = true := by simp; omega
            clear HE h1 hok h95 hsaw
            rcases HD.out with ⟨d1, d2⟩ | d1
            all_goals
              go_wp2_with (go_at_call 69; refine (low_any _ _).mono ?_; rintro e w' ⟨rfl, rfl⟩)
              go_ret
              rw [HN.out]
              exact ⟨rfl, rfl⟩
        · have e95 : ((s[k].toNat : Int) == 95) = false := by rw [beq_eq_false_iff_ne]; omega
          by_cases hsaw : saw = 95
          · have HN : Hid (und0 s.data.toList = false) := Lib.hid (by rw [HE.out, undGo_no hok h95, if_pos hsaw])
            subst hsaw
            clear HE h1 hok h95
            rcases HD.out with ⟨d1, d2⟩ | d1
            all_goals
              go_wp2_with (go_at_call 69; refine (low_any _ _).mono ?_; rintro e w' ⟨rfl, rfl⟩)
              go_ret
              rw [HN.out]
              exact ⟨rfl, rfl⟩
          · have HN : Hid (und0 s.data.toList = undGo false 33 (s.data.toList.drop (k + 1))) := Lib.hid (by rw [HE.out, undGo_no hok h95, if_neg hsaw])
            have e48 : ((saw : Int) == 95) = false := by rw [beq_eq_false_iff_ne]; omega
            clear HE h1 hok h95 hsaw
            rcases HD.out with ⟨d1, d2⟩ | d1
            all_goals
              go_wp2_with (go_at_call 69; refine (low_any _ _).mono ?_; rintro e w' ⟨rfl, rfl⟩)
              go_round
              case rel => exact ⟨k + 1, 33, by omega, rfl, by go_num, HN⟩
              case measure => simp [intOf]; omega
    · have HN : Hid (und0 s.data.toList = (saw != 95)) := Lib.hid (by rw [hh.out, List.drop_eq_nil_of_le (by simp; omega)]; rfl)
      have hb : ((saw : Int) != 95) = (saw != 95) := by
        cases h : (saw != 95) with
        | true => rw [bne_iff_ne] at h ⊢; omega
        | false => rw [bne_eq_false_iff_eq] at h ⊢; omega
      clear hh
      generalize (saw != 95) = r at *
      go_wp2_with (go_at_call 69; refine (low_any _ _).mono ?_; rintro e w' ⟨rfl, rfl⟩)
      go_ret
      rw [HN.out]
      exact ⟨rfl, rfl⟩
set_option maxRecDepth 100000 in
set_option maxHeartbeats 6400000 in
theorem und_x (s : ByteArray) (hs : s.size ≤ 2147483647) (h0 : 0 < s.size) (hsg : s[0].toNat ≠ 43 ∧ s[0].toNat ≠ 45) (h2 : 2 ≤ s.size) (hz : s[0].toNat = 48) (hq : lw s[1] = 120) (w : World) :
    Calls Tryd.prog 70 #[.string s] w fun e w' => e = .returned (.bool (und0 s.data.toList)) ∧ w = w' := by
  have e43 : ((s[0].toNat : Int) == 43) = false := by rw [beq_eq_false_iff_ne]; omega
  have e45 : ((s[0].toNat : Int) == 45) = false := by rw [beq_eq_false_iff_ne]; omega
  have l1 : decide (1 ≤ (s.size : Int)) = true := decide_eq_true (by omega)
  have e48 : ((s[0].toNat : Int) == 48) = true := by simp [hz]
  have l2 : decide (2 ≤ (s.size : Int)) = true := decide_eq_true (by omega)
  have eq98 : (((lw s[1] : Nat) : Int) == 98) = false := by rw [beq_eq_false_iff_ne]; omega
  have eq111 : (((lw s[1] : Nat) : Int) == 111) = false := by rw [beq_eq_false_iff_ne]; omega
  have eq120 : (((lw s[1] : Nat) : Int) == 120) = true := by simp [hq]
  have HS : Hid (und0 s.data.toList = undGo true 48 (s.data.toList.drop 2)) := Lib.hid (by
    have e := two_heads s h2
    generalize hr : s.data.toList.drop 2 = r at *
    rw [e]
    simp only [und0, List.drop_zero]
    first
      | (rw [if_pos (by omega), hq]; rfl)
      | rw [if_neg (by omega)])
  clear hsg
  go_enter Tryd.func70, Tryd.ntmps70
  go_wp2_with (go_at_call 69; refine (low_any _ _).mono ?_; rintro e w' ⟨rfl, rfl⟩)
  go_loop [3, 4] (fun vs vi => ∃ (k saw : Nat), k ≤ s.size ∧ vs = .int .i32 (saw : Nat) ∧ vi = .int .i64 (k : Nat) ∧ Hid (und0 s.data.toList = undGo true saw (s.data.toList.drop k))) (fun _ vi => s.size - (intOf vi).toNat)
  case atStart => exact ⟨2, 48, by omega, rfl, rfl, HS⟩
  case round =>
    obtain ⟨k, saw, hk, rfl, rfl, hh⟩ := hrel
    by_cases hlt : k < s.size
    · have hd := drop_get s k hlt
      have HE : Hid (und0 s.data.toList = undGo true saw (s[k] :: s.data.toList.drop (k + 1))) := Lib.hid (by rw [← hd]; exact hh.out)
      have hc := s[k].toNat_lt
      have hlc := lw_lt s[k]
      clear hh hd
      by_cases h1 : 48 ≤ s[k].toNat ∧ s[k].toNat ≤ 57
      · have HN : Hid (und0 s.data.toList = undGo true 48 (s.data.toList.drop (k + 1))) := Lib.hid (by rw [HE.out]; exact undGo_dig (by simp [okDig, h1]))
        have d1 : decide (48 ≤ (s[k].toNat : Int)) = true := decide_eq_true (by omega)
        have d2 : decide ((s[k].toNat : Int) ≤ 57) = true := decide_eq_true (by omega)
        clear HE h1
        go_wp2_with (go_at_call 69; refine (low_any _ _).mono ?_; rintro e w' ⟨rfl, rfl⟩)
        go_round
        case rel => exact ⟨k + 1, 48, by omega, rfl, by go_num, HN⟩
        case measure => simp [intOf]; omega
      · by_cases h2 : 97 ≤ lw s[k] ∧ lw s[k] ≤ 102
        · have HN : Hid (und0 s.data.toList = undGo true 48 (s.data.toList.drop (k + 1))) := Lib.hid (by rw [HE.out]; exact undGo_dig (by simp [okDig, h2]))
          have d3 : decide (97 ≤ (lw s[k] : Int)) = true := decide_eq_true (by omega)
          have d4 : decide ((lw s[k] : Int) ≤ 102) = true := decide_eq_true (by omega)
          by_cases h3 : 48 ≤ s[k].toNat
          · have d1 : decide (48 ≤ (s[k].toNat : Int)) = true := decide_eq_true (by omega)
            have d2 : decide ((s[k].toNat : Int) ≤ 57) = false := decide_eq_false (by omega)
            clear HE h1 h2 h3
            go_wp2_with (go_at_call 69; refine (low_any _ _).mono ?_; rintro e w' ⟨rfl, rfl⟩)
            go_round
            case rel => exact ⟨k + 1, 48, by omega, rfl, by go_num, HN⟩
            case measure => simp [intOf]; omega
          · have d1 : decide (48 ≤ (s[k].toNat : Int)) = false := decide_eq_false (by omega)
            clear HE h1 h2 h3
            go_wp2_with (go_at_call 69; refine (low_any _ _).mono ?_; rintro e w' ⟨rfl, rfl⟩)
            go_round
            case rel => exact ⟨k + 1, 48, by omega, rfl, by go_num, HN⟩
            case measure => simp [intOf]; omega
        · have hok : okDig true s[k] = false := by
            simp [okDig]
            omega
          have HD : Hid ((decide (48 ≤ (s[k].toNat : Int)) = true ∧ decide ((s[k].toNat : Int) ≤ 57) = false) ∨ decide (48 ≤ (s[k].toNat : Int)) = false) := Lib.hid (by
            by_cases h3 : 48 ≤ s[k].toNat
            · exact .inl ⟨decide_eq_true (by omega), decide_eq_false (by omega)⟩
            · exact .inr (decide_eq_false (by omega)))
          have HX : Hid ((decide (97 ≤ (lw s[k] : Int)) = true ∧ decide ((lw s[k] : Int) ≤ 102) = false) ∨ decide (97 ≤ (lw s[k] : Int)) = false) := Lib.hid (by
            by_cases h3 : 97 ≤ lw s[k]
            · exact .inl ⟨decide_eq_true (by omega), decide_eq_false (by omega)⟩
            · exact .inr (decide_eq_false (by omega)))
          by_cases h95 : s[k].toNat = 95
          · have e95 : ((s[k].toNat : Int) == 95) = true := by simp [h95]
            by_cases hsaw : saw = 48
            · have HN : Hid (und0 s.data.toList = undGo true 95 (s.data.toList.drop (k + 1))) := Lib.hid (by rw [HE.out, undGo_us hok h95, if_pos hsaw])
              subst hsaw
              clear HE h1 h2 hok h95
              rcases HD.out with ⟨d1, d2⟩ | d1 <;> rcases HX.out with ⟨d3, d4⟩ | d3
              all_goals
                go_wp2_with (go_at_call 69; refine (low_any _ _).mono ?_; rintro e w' ⟨rfl, rfl⟩)
                go_round
                case rel => exact ⟨k + 1, 95, by omega, rfl, by go_num, HN⟩
                case measure => simp [intOf]; omega
            · have HN : Hid (und0 s.data.toList = false) := Lib.hid (by rw [HE.out, undGo_us hok h95, if_neg hsaw])
              have e48 : ((saw : Int) != 48) = true := by simp; omega
              clear HE h1 h2 hok h95 hsaw
              rcases HD.out with ⟨d1, d2⟩ | d1 <;> rcases HX.out with ⟨d3, d4⟩ | d3
              all_goals
                go_wp2_with (go_at_call 69; refine (low_any _ _).mono ?_; rintro e w' ⟨rfl, rfl⟩)
                go_ret
                rw [HN.out]
                exact ⟨rfl, rfl⟩
          · have e95 : ((s[k].toNat : Int) == 95) = false := by rw [beq_eq_false_iff_ne]; omega
            by_cases hsaw : saw = 95
            · have HN : Hid (und0 s.data.toList = false) := Lib.hid (by rw [HE.out, undGo_no hok h95, if_pos hsaw])
              subst hsaw
              clear HE h1 h2 hok h95
              rcases HD.out with ⟨d1, d2⟩ | d1 <;> rcases HX.out with ⟨d3, d4⟩ | d3
              all_goals
                go_wp2_with (go_at_call 69; refine (low_any _ _).mono ?_; rintro e w' ⟨rfl, rfl⟩)
                go_ret
                rw [HN.out]
                exact ⟨rfl, rfl⟩
            · have HN : Hid (und0 s.data.toList = undGo true 33 (s.data.toList.drop (k + 1))) := Lib.hid (by rw [HE.out, undGo_no hok h95, if_neg hsaw])
              have e48 : ((saw : Int) == 95) = false := by rw [beq_eq_false_iff_ne]; omega
              clear HE h1 h2 hok h95 hsaw
              rcases HD.out with ⟨d1, d2⟩ | d1 <;> rcases HX.out with ⟨d3, d4⟩ | d3
              all_goals
                go_wp2_with (go_at_call 69; refine (low_any _ _).mono ?_; rintro e w' ⟨rfl, rfl⟩)
                go_round
                case rel => exact ⟨k + 1, 33, by omega, rfl, by go_num, HN⟩
                case measure => simp [intOf]; omega
    · have HN : Hid (und0 s.data.toList = (saw != 95)) := Lib.hid (by rw [hh.out, List.drop_eq_nil_of_le (by simp; omega)]; rfl)
      have hb : ((saw : Int) != 95) = (saw != 95) := by
        cases h : (saw != 95) with
        | true => rw [bne_iff_ne] at h ⊢; omega
        | false => rw [bne_eq_false_iff_eq] at h ⊢; omega
      clear hh
      generalize (saw != 95) = r at *
      go_wp2_with (go_at_call 69; refine (low_any _ _).mono ?_; rintro e w' ⟨rfl, rfl⟩)
      go_ret
      rw [HN.out]
      exact ⟨rfl, rfl⟩
set_option maxRecDepth 100000 in
set_option maxHeartbeats 6400000 in
theorem und_n (s : ByteArray) (hs : s.size ≤ 2147483647) (h0 : 0 < s.size) (hsg : s[0].toNat ≠ 43 ∧ s[0].toNat ≠ 45) (h2 : 2 ≤ s.size) (hz : s[0].toNat = 48) (hq : lw s[1] ≠ 98 ∧ lw s[1] ≠ 111 ∧ lw s[1] ≠ 120) (w : World) :
    Calls Tryd.prog 70 #[.string s] w fun e w' => e = .returned (.bool (und0 s.data.toList)) ∧ w = w' := by
  have e43 : ((s[0].toNat : Int) == 43) = false := by rw [beq_eq_false_iff_ne]; omega
  have e45 : ((s[0].toNat : Int) == 45) = false := by rw [beq_eq_false_iff_ne]; omega
  have l1 : decide (1 ≤ (s.size : Int)) = true := decide_eq_true (by omega)
  have e48 : ((s[0].toNat : Int) == 48) = true := by simp [hz]
  have l2 : decide (2 ≤ (s.size : Int)) = true := decide_eq_true (by omega)
  have eq98 : (((lw s[1] : Nat) : Int) == 98) = false := by rw [beq_eq_false_iff_ne]; omega
  have eq111 : (((lw s[1] : Nat) : Int) == 111) = false := by rw [beq_eq_false_iff_ne]; omega
  have eq120 : (((lw s[1] : Nat) : Int) == 120) = false := by rw [beq_eq_false_iff_ne]; omega
  have HS : Hid (und0 s.data.toList = undGo false 94 (s.data.toList.drop 0)) := Lib.hid (by
    have e := two_heads s h2
    generalize hr : s.data.toList.drop 2 = r at *
    rw [e]
    simp only [und0, List.drop_zero]
    first
      | (rw [if_pos (by omega), hq]; rfl)
      | rw [if_neg (by omega)])
  clear hsg
  go_enter Tryd.func70, Tryd.ntmps70
  go_wp2_with (go_at_call 69; refine (low_any _ _).mono ?_; rintro e w' ⟨rfl, rfl⟩)
  go_loop [3, 4] (fun vs vi => ∃ (k saw : Nat), k ≤ s.size ∧ vs = .int .i32 (saw : Nat) ∧ vi = .int .i64 (k : Nat) ∧ Hid (und0 s.data.toList = undGo false saw (s.data.toList.drop k))) (fun _ vi => s.size - (intOf vi).toNat)
  case atStart => exact ⟨0, 94, by omega, rfl, rfl, HS⟩
  case round =>
    obtain ⟨k, saw, hk, rfl, rfl, hh⟩ := hrel
    by_cases hlt : k < s.size
    · have hd := drop_get s k hlt
      have HE : Hid (und0 s.data.toList = undGo false saw (s[k] :: s.data.toList.drop (k + 1))) := Lib.hid (by rw [← hd]; exact hh.out)
      have hc := s[k].toNat_lt
      have hlc := lw_lt s[k]
      clear hh hd
      by_cases h1 : 48 ≤ s[k].toNat ∧ s[k].toNat ≤ 57
      · have HN : Hid (und0 s.data.toList = undGo false 48 (s.data.toList.drop (k + 1))) := Lib.hid (by rw [HE.out]; exact undGo_dig (by simp [okDig, h1]))
        have d1 : decide (48 ≤ (s[k].toNat : Int)) = true := decide_eq_true (by omega)
        have d2 : decide ((s[k].toNat : Int) ≤ 57) = true := decide_eq_true (by omega)
        clear HE h1
        go_wp2_with (go_at_call 69; refine (low_any _ _).mono ?_; rintro e w' ⟨rfl, rfl⟩)
        go_round
        case rel => exact ⟨k + 1, 48, by omega, rfl, by go_num, HN⟩
        case measure => simp [intOf]; omega
      · have hok : okDig false s[k] = false := by
          simp [okDig]
          omega
        have HD : Hid ((decide (48 ≤ (s[k].toNat : Int)) = true ∧ decide ((s[k].toNat : Int) ≤ 57) = false) ∨ decide (48 ≤ (s[k].toNat : Int)) = false) := Lib.hid (by
          by_cases h3 : 48 ≤ s[k].toNat
          · exact .inl ⟨decide_eq_true (by omega), decide_eq_false (by omega)⟩
          · exact .inr (decide_eq_false (by omega)))
        by_cases h95 : s[k].toNat = 95
        · have e95 : ((s[k].toNat : Int) == 95) = true := by simp [h95]
          by_cases hsaw : saw = 48
          · have HN : Hid (und0 s.data.toList = undGo false 95 (s.data.toList.drop (k + 1))) := Lib.hid (by rw [HE.out, undGo_us hok h95, if_pos hsaw])
            subst hsaw
            clear HE h1 hok h95
            rcases HD.out with ⟨d1, d2⟩ | d1
            all_goals
              go_wp2_with (go_at_call 69; refine (low_any _ _).mono ?_; rintro e w' ⟨rfl, rfl⟩)
              go_round
              case rel => exact ⟨k + 1, 95, by omega, rfl, by go_num, HN⟩
              case measure => simp [intOf]; omega
          · have HN : Hid (und0 s.data.toList = false) := Lib.hid (by rw [HE.out, undGo_us hok h95, if_neg hsaw])
            have e48 : ((saw : Int) != 48) = true := by simp; omega
            clear HE h1 hok h95 hsaw
            rcases HD.out with ⟨d1, d2⟩ | d1
            all_goals
              go_wp2_with (go_at_call 69; refine (low_any _ _).mono ?_; rintro e w' ⟨rfl, rfl⟩)
              go_ret
              rw [HN.out]
              exact ⟨rfl, rfl⟩
        · have e95 : ((s[k].toNat : Int) == 95) = false := by rw [beq_eq_false_iff_ne]; omega
          by_cases hsaw : saw = 95
          · have HN : Hid (und0 s.data.toList = false) := Lib.hid (by rw [HE.out, undGo_no hok h95, if_pos hsaw])
            subst hsaw
            clear HE h1 hok h95
            rcases HD.out with ⟨d1, d2⟩ | d1
            all_goals
              go_wp2_with (go_at_call 69; refine (low_any _ _).mono ?_; rintro e w' ⟨rfl, rfl⟩)
              go_ret
              rw [HN.out]
              exact ⟨rfl, rfl⟩
          · have HN : Hid (und0 s.data.toList = undGo false 33 (s.data.toList.drop (k + 1))) := Lib.hid (by rw [HE.out, undGo_no hok h95, if_neg hsaw])
            have e48 : ((saw : Int) == 95) = false := by rw [beq_eq_false_iff_ne]; omega
            clear HE h1 hok h95 hsaw
            rcases HD.out with ⟨d1, d2⟩ | d1
            all_goals
              go_wp2_with (go_at_call 69; refine (low_any _ _).mono ?_; rintro e w' ⟨rfl, rfl⟩)
              go_round
              case rel => exact ⟨k + 1, 33, by omega, rfl, by go_num, HN⟩
              case measure => simp [intOf]; omega
    · have HN : Hid (und0 s.data.toList = (saw != 95)) := Lib.hid (by rw [hh.out, List.drop_eq_nil_of_le (by simp; omega)]; rfl)
      have hb : ((saw : Int) != 95) = (saw != 95) := by
        cases h : (saw != 95) with
        | true => rw [bne_iff_ne] at h ⊢; omega
        | false => rw [bne_eq_false_iff_eq] at h ⊢; omega
      clear hh
      generalize (saw != 95) = r at *
      go_wp2_with (go_at_call 69; refine (low_any _ _).mono ?_; rintro e w' ⟨rfl, rfl⟩)
      go_ret
      rw [HN.out]
      exact ⟨rfl, rfl⟩
set_option maxRecDepth 100000 in
set_option maxHeartbeats 6400000 in
theorem und_d (s : ByteArray) (hs : s.size ≤ 2147483647) (h0 : 0 < s.size) (hsg : s[0].toNat ≠ 43 ∧ s[0].toNat ≠ 45) (h2 : 2 ≤ s.size) (hz : s[0].toNat ≠ 48) (w : World) :
    Calls Tryd.prog 70 #[.string s] w fun e w' => e = .returned (.bool (und0 s.data.toList)) ∧ w = w' := by
  have e43 : ((s[0].toNat : Int) == 43) = false := by rw [beq_eq_false_iff_ne]; omega
  have e45 : ((s[0].toNat : Int) == 45) = false := by rw [beq_eq_false_iff_ne]; omega
  have l1 : decide (1 ≤ (s.size : Int)) = true := decide_eq_true (by omega)
  have e48 : ((s[0].toNat : Int) == 48) = false := by rw [beq_eq_false_iff_ne]; omega
  have l2 : decide (2 ≤ (s.size : Int)) = true := decide_eq_true (by omega)
  have HS : Hid (und0 s.data.toList = undGo false 94 (s.data.toList.drop 0)) := Lib.hid (by
    have e := two_heads s h2
    generalize hr : s.data.toList.drop 2 = r at *
    rw [e]
    simp only [und0, List.drop_zero]
    first
      | (rw [if_pos (by omega), hq]; rfl)
      | rw [if_neg (by omega)])
  clear hsg
  go_enter Tryd.func70, Tryd.ntmps70
  go_wp2_with (go_at_call 69; refine (low_any _ _).mono ?_; rintro e w' ⟨rfl, rfl⟩)
  go_loop [3, 4] (fun vs vi => ∃ (k saw : Nat), k ≤ s.size ∧ vs = .int .i32 (saw : Nat) ∧ vi = .int .i64 (k : Nat) ∧ Hid (und0 s.data.toList = undGo false saw (s.data.toList.drop k))) (fun _ vi => s.size - (intOf vi).toNat)
  case atStart => exact ⟨0, 94, by omega, rfl, rfl, HS⟩
  case round =>
    obtain ⟨k, saw, hk, rfl, rfl, hh⟩ := hrel
    by_cases hlt : k < s.size
    · have hd := drop_get s k hlt
      have HE : Hid (und0 s.data.toList = undGo false saw (s[k] :: s.data.toList.drop (k + 1))) := Lib.hid (by rw [← hd]; exact hh.out)
      have hc := s[k].toNat_lt
      have hlc := lw_lt s[k]
      clear hh hd
      by_cases h1 : 48 ≤ s[k].toNat ∧ s[k].toNat ≤ 57
      · have HN : Hid (und0 s.data.toList = undGo false 48 (s.data.toList.drop (k + 1))) := Lib.hid (by rw [HE.out]; exact undGo_dig (by simp [okDig, h1]))
        have d1 : decide (48 ≤ (s[k].toNat : Int)) = true := decide_eq_true (by omega)
        have d2 : decide ((s[k].toNat : Int) ≤ 57) = true := decide_eq_true (by omega)
        clear HE h1
        go_wp2_with (go_at_call 69; refine (low_any _ _).mono ?_; rintro e w' ⟨rfl, rfl⟩)
        go_round
        case rel => exact ⟨k + 1, 48, by omega, rfl, by go_num, HN⟩
        case measure => simp [intOf]; omega
      · have hok : okDig false s[k] = false := by
          simp [okDig]
          omega
        have HD : Hid ((decide (48 ≤ (s[k].toNat : Int)) = true ∧ decide ((s[k].toNat : Int) ≤ 57) = false) ∨ decide (48 ≤ (s[k].toNat : Int)) = false) := Lib.hid (by
          by_cases h3 : 48 ≤ s[k].toNat
          · exact .inl ⟨decide_eq_true (by omega), decide_eq_false (by omega)⟩
          · exact .inr (decide_eq_false (by omega)))
        by_cases h95 : s[k].toNat = 95
        · have e95 : ((s[k].toNat : Int) == 95) = true := by simp [h95]
          by_cases hsaw : saw = 48
          · have HN : Hid (und0 s.data.toList = undGo false 95 (s.data.toList.drop (k + 1))) := Lib.hid (by rw [HE.out, undGo_us hok h95, if_pos hsaw])
            subst hsaw
            clear HE h1 hok h95
            rcases HD.out with ⟨d1, d2⟩ | d1
            all_goals
              go_wp2_with (go_at_call 69; refine (low_any _ _).mono ?_; rintro e w' ⟨rfl, rfl⟩)
              go_round
              case rel => exact ⟨k + 1, 95, by omega, rfl, by go_num, HN⟩
              case measure => simp [intOf]; omega
          · have HN : Hid (und0 s.data.toList = false) := Lib.hid (by rw [HE.out, undGo_us hok h95, if_neg hsaw])
            have e48 : ((saw : Int) != 48) = true := by simp; omega
            clear HE h1 hok h95 hsaw
            rcases HD.out with ⟨d1, d2⟩ | d1
            all_goals
              go_wp2_with (go_at_call 69; refine (low_any _ _).mono ?_; rintro e w' ⟨rfl, rfl⟩)
              go_ret
              rw [HN.out]
              exact ⟨rfl, rfl⟩
        · have e95 : ((s[k].toNat : Int) == 95) = false := by rw [beq_eq_false_iff_ne]; omega
          by_cases hsaw : saw = 95
          · have HN : Hid (und0 s.data.toList = false) := Lib.hid (by rw [HE.out, undGo_no hok h95, if_pos hsaw])
            subst hsaw
            clear HE h1 hok h95
            rcases HD.out with ⟨d1, d2⟩ | d1
            all_goals
              go_wp2_with (go_at_call 69; refine (low_any _ _).mono ?_; rintro e w' ⟨rfl, rfl⟩)
              go_ret
              rw [HN.out]
              exact ⟨rfl, rfl⟩
          · have HN : Hid (und0 s.data.toList = undGo false 33 (s.data.toList.drop (k + 1))) := Lib.hid (by rw [HE.out, undGo_no hok h95, if_neg hsaw])
            have e48 : ((saw : Int) == 95) = false := by rw [beq_eq_false_iff_ne]; omega
            clear HE h1 hok h95 hsaw
            rcases HD.out with ⟨d1, d2⟩ | d1
            all_goals
              go_wp2_with (go_at_call 69; refine (low_any _ _).mono ?_; rintro e w' ⟨rfl, rfl⟩)
              go_round
              case rel => exact ⟨k + 1, 33, by omega, rfl, by go_num, HN⟩
              case measure => simp [intOf]; omega
    · have HN : Hid (und0 s.data.toList = (saw != 95)) := Lib.hid (by rw [hh.out, List.drop_eq_nil_of_le (by simp; omega)]; rfl)
      have hb : ((saw : Int) != 95) = (saw != 95) := by
        cases h : (saw != 95) with
        | true => rw [bne_iff_ne] at h ⊢; omega
        | false => rw [bne_eq_false_iff_eq] at h ⊢; omega
      clear hh
      generalize (saw != 95) = r at *
      go_wp2_with (go_at_call 69; refine (low_any _ _).mono ?_; rintro e w' ⟨rfl, rfl⟩)
      go_ret
      rw [HN.out]
      exact ⟨rfl, rfl⟩
set_option maxRecDepth 100000 in
set_option maxHeartbeats 6400000 in
theorem und_1 (s : ByteArray) (hs : s.size ≤ 2147483647) (h0 : 0 < s.size) (hsg : s[0].toNat ≠ 43 ∧ s[0].toNat ≠ 45) (h2 : s.size = 1) (w : World) :
    Calls Tryd.prog 70 #[.string s] w fun e w' => e = .returned (.bool (und0 s.data.toList)) ∧ w = w' := by
  have e43 : ((s[0].toNat : Int) == 43) = false := by rw [beq_eq_false_iff_ne]; omega
  have e45 : ((s[0].toNat : Int) == 45) = false := by rw [beq_eq_false_iff_ne]; omega
  have l1 : decide (1 ≤ (s.size : Int)) = true := decide_eq_true (by omega)
  have l2 : decide (2 ≤ (s.size : Int)) = false := decide_eq_false (by omega)
  have HS : Hid (und0 s.data.toList = undGo false 94 (s.data.toList.drop 0)) := Lib.hid (by
    have e := one_head s h2
    rw [e]
    rfl)
  clear hsg
  go_enter Tryd.func70, Tryd.ntmps70
  go_wp2_with (go_at_call 69; refine (low_any _ _).mono ?_; rintro e w' ⟨rfl, rfl⟩)
  go_loop [3, 4] (fun vs vi => ∃ (k saw : Nat), k ≤ s.size ∧ vs = .int .i32 (saw : Nat) ∧ vi = .int .i64 (k : Nat) ∧ Hid (und0 s.data.toList = undGo false saw (s.data.toList.drop k))) (fun _ vi => s.size - (intOf vi).toNat)
  case atStart => exact ⟨0, 94, by omega, rfl, rfl, HS⟩
  case round =>
    obtain ⟨k, saw, hk, rfl, rfl, hh⟩ := hrel
    by_cases hlt : k < s.size
    · have hd := drop_get s k hlt
      have HE : Hid (und0 s.data.toList = undGo false saw (s[k] :: s.data.toList.drop (k + 1))) := Lib.hid (by rw [← hd]; exact hh.out)
      have hc := s[k].toNat_lt
      have hlc := lw_lt s[k]
      clear hh hd
      by_cases h1 : 48 ≤ s[k].toNat ∧ s[k].toNat ≤ 57
      · have HN : Hid (und0 s.data.toList = undGo false 48 (s.data.toList.drop (k + 1))) := Lib.hid (by rw [HE.out]; exact undGo_dig (by simp [okDig, h1]))
        have d1 : decide (48 ≤ (s[k].toNat : Int)) = true := decide_eq_true (by omega)
        have d2 : decide ((s[k].toNat : Int) ≤ 57) = true := decide_eq_true (by omega)
        clear HE h1
        go_wp2_with (go_at_call 69; refine (low_any _ _).mono ?_; rintro e w' ⟨rfl, rfl⟩)
        go_round
        case rel => exact ⟨k + 1, 48, by omega, rfl, by go_num, HN⟩
        case measure => simp [intOf]; omega
      · have hok : okDig false s[k] = false := by
          simp [okDig]
          omega
        have HD : Hid ((decide (48 ≤ (s[k].toNat : Int)) = true ∧ decide ((s[k].toNat : Int) ≤ 57) = false) ∨ decide (48 ≤ (s[k].toNat : Int)) = false) := Lib.hid (by
          by_cases h3 : 48 ≤ s[k].toNat
          · exact .inl ⟨decide_eq_true (by omega), decide_eq_false (by omega)⟩
          · exact .inr (decide_eq_false (by omega)))
        by_cases h95 : s[k].toNat = 95
        · have e95 : ((s[k].toNat : Int) == 95) = true := by simp [h95]
          by_cases hsaw : saw = 48
          · have HN : Hid (und0 s.data.toList = undGo false 95 (s.data.toList.drop (k + 1))) := Lib.hid (by rw [HE.out, undGo_us hok h95, if_pos hsaw])
            subst hsaw
            clear HE h1 hok h95
            rcases HD.out with ⟨d1, d2⟩ | d1
            all_goals
              go_wp2_with (go_at_call 69; refine (low_any _ _).mono ?_; rintro e w' ⟨rfl, rfl⟩)
              go_round
              case rel => exact ⟨k + 1, 95, by omega, rfl, by go_num, HN⟩
              case measure => simp [intOf]; omega
          · have HN : Hid (und0 s.data.toList = false) := Lib.hid (by rw [HE.out, undGo_us hok h95, if_neg hsaw])
            have e48 : ((saw : Int) != 48) = true := by simp; omega
            clear HE h1 hok h95 hsaw
            rcases HD.out with ⟨d1, d2⟩ | d1
            all_goals
              go_wp2_with (go_at_call 69; refine (low_any _ _).mono ?_; rintro e w' ⟨rfl, rfl⟩)
              go_ret
              rw [HN.out]
              exact ⟨rfl, rfl⟩
        · have e95 : ((s[k].toNat : Int) == 95) = false := by rw [beq_eq_false_iff_ne]; omega
          by_cases hsaw : saw = 95
          · have HN : Hid (und0 s.data.toList = false) := Lib.hid (by rw [HE.out, undGo_no hok h95, if_pos hsaw])
            subst hsaw
            clear HE h1 hok h95
            rcases HD.out with ⟨d1, d2⟩ | d1
            all_goals
              go_wp2_with (go_at_call 69; refine (low_any _ _).mono ?_; rintro e w' ⟨rfl, rfl⟩)
              go_ret
              rw [HN.out]
              exact ⟨rfl, rfl⟩
          · have HN : Hid (und0 s.data.toList = undGo false 33 (s.data.toList.drop (k + 1))) := Lib.hid (by rw [HE.out, undGo_no hok h95, if_neg hsaw])
            have e48 : ((saw : Int) == 95) = false := by rw [beq_eq_false_iff_ne]; omega
            clear HE h1 hok h95 hsaw
            rcases HD.out with ⟨d1, d2⟩ | d1
            all_goals
              go_wp2_with (go_at_call 69; refine (low_any _ _).mono ?_; rintro e w' ⟨rfl, rfl⟩)
              go_round
              case rel => exact ⟨k + 1, 33, by omega, rfl, by go_num, HN⟩
              case measure => simp [intOf]; omega
    · have HN : Hid (und0 s.data.toList = (saw != 95)) := Lib.hid (by rw [hh.out, List.drop_eq_nil_of_le (by simp; omega)]; rfl)
      have hb : ((saw : Int) != 95) = (saw != 95) := by
        cases h : (saw != 95) with
        | true => rw [bne_iff_ne] at h ⊢; omega
        | false => rw [bne_eq_false_iff_eq] at h ⊢; omega
      clear hh
      generalize (saw != 95) = r at *
      go_wp2_with (go_at_call 69; refine (low_any _ _).mono ?_; rintro e w' ⟨rfl, rfl⟩)
      go_ret
      rw [HN.out]
      exact ⟨rfl, rfl⟩
theorem und_any (s : ByteArray) (hs : s.size ≤ 2147483647) (h0 : 0 < s.size) (hsg : s[0].toNat ≠ 43 ∧ s[0].toNat ≠ 45) (w : World) :
    Calls Tryd.prog 70 #[.string s] w fun e w' => e = .returned (.bool (und0 s.data.toList)) ∧ w = w' := by
  by_cases h2 : 2 ≤ s.size
  · by_cases hz : s[0].toNat = 48
    · by_cases q1 : lw s[1] = 98
      · exact und_b s hs h0 hsg h2 hz q1 w
      · by_cases q2 : lw s[1] = 111
        · exact und_o s hs h0 hsg h2 hz q2 w
        · by_cases q3 : lw s[1] = 120
          · exact und_x s hs h0 hsg h2 hz q3 w
          · exact und_n s hs h0 hsg h2 hz ⟨q1, q2, q3⟩ w
    · exact und_d s hs h0 hsg h2 hz w
  · exact und_1 s hs h0 hsg (by omega) w
end Go.Proofs.YtfeijmoncadkiaaDoor
