/- The walk of the reference's without29. -/
import Derived.Test.YtlnnmionbflolaaDoorSpecUj
import Derived.Test.YtlnnmionbflolaaDoorWo0
namespace Go.Proofs.YtlnnmionbflolaaDoor
open Go.RowKit
set_option linter.unusedVariables false
set_option linter.unusedSimpArgs false

/-- What without29 hands back. -/
def WoIs (s : ByteArray) (e : Ending) : Prop := (okW s.data.toList = true ∧ ∃ t : ByteArray, e = .returned (.tuple #[.string t, .bool true]) ∧ t.data.toList = bare s.data.toList) ∨ (okW s.data.toList = false ∧ e = .returned (.tuple #[.string ⟨#[]⟩, .bool false]))
theorem infoU8 : (Tryd.prog.info? 5).map (fun i => (i.zero, i.size, i.bytes)) = some (some (.int .u8 0), 1, 1) := by kernel_rfl
def byteV (l : List UInt8) : List Value := l.map fun c => .int .u8 (c.toNat : Nat)
theorem byteV_snoc (l : List UInt8) (c : UInt8) : byteV (l ++ [c]) = byteV l ++ [.int .u8 (c.toNat : Nat)] := by simp [byteV]
theorem take_bare (s : ByteArray) (k : Nat) (h : k < s.size) : bare (s.data.toList.take (k + 1)) = if s[k].toNat = 95 then bare (s.data.toList.take k) else bare (s.data.toList.take k) ++ [s[k]] := by
  have e : s.data.toList.take (k + 1) = s.data.toList.take k ++ [s[k]] := by
    rw [List.take_succ_eq_append_getElem (by simpa using h)]; rfl
  rw [e, bare_snoc]
/-- What stands ahead of a place. -/
def prevAt (s : ByteArray) : Nat → Option UInt8
  | 0 => none
  | j + 1 => s.data.toList[j]?
theorem prev_succ (s : ByteArray) (k : Nat) (h : k < s.size) : prevAt s (k + 1) = some s[k] := toList_get s k h

/-- The flags that without29 takes of a text's beginning. -/
theorem hexB_of (s : ByteArray) : hexB s.data.toList = (if h : 2 ≤ s.size then decide (s[0].toNat = 48) && decide (lw s[1] = 120) else false) := by
  split
  · rename_i h; rw [two_heads s h]; rfl
  · by_cases h0 : s.size = 1
    · rw [one_head s h0]; rfl
    · have : s.data.toList = [] := List.length_eq_zero_iff.1 (by rw [Array.length_toList]; show s.size = 0; omega)
      rw [this]; rfl
theorem baseB_of (s : ByteArray) : baseB s.data.toList = (if h : 2 ≤ s.size then decide (s[0].toNat = 48) && (decide (10 ≤ dig0 s[1]) && decide (dig0 s[1] < 36)) else false) := by
  split
  · rename_i h; rw [two_heads s h]; rfl
  · by_cases h0 : s.size = 1
    · rw [one_head s h0]; rfl
    · have : s.data.toList = [] := List.length_eq_zero_iff.1 (by rw [Array.length_toList]; show s.size = 0; omega)
      rw [this]; rfl

set_option maxRecDepth 100000 in
set_option maxHeartbeats 6400000 in
theorem without_any (s : ByteArray) (hs : s.size ≤ 2147483647) (w : World) : Calls Tryd.prog 58 #[.string s] w fun e w' => WoIs s e ∧ Below w.heap.size w w' := by
  obtain ⟨hx, hhx⟩ : ∃ hx, hx = hexB s.data.toList := ⟨_, rfl⟩
  obtain ⟨bs, hbs⟩ : ∃ bs, bs = baseB s.data.toList := ⟨_, rfl⟩
  have HOK : Hid (okW s.data.toList = woB hx bs 0 none s.data.toList) := Lib.hid (by rw [okW, hhx, hbs])
  have HH := Lib.hid (hhx.trans (hexB_of s))
  have HS := Lib.hid (hbs.trans (baseB_of s))
  clear hhx hbs
  go_enter Tryd.func58, Tryd.ntmps58
  go_upto_region 2 with fail
  go_cut [5] from 11 to 28 (fun v5 wx => v5 = .bool hx ∧ wx = w.alloc (.cells #[] 5))
  case first =>
    by_cases h2 : 2 ≤ s.size
    · have l2 : decide (2 ≤ (s.size : Int)) = true := decide_eq_true (by omega)
      have hh := HH.out
      rw [dif_pos h2] at hh
      by_cases hz : s[0].toNat = 48
      · have e48 : ((s[0].toNat : Int) == 48) = true := by simp [hz]
        by_cases q1 : s[1].toNat = 120
        · have f1 : ((s[1].toNat : Int) == 120) = true := by simp [q1]
          have HT : Hid (hx = true) := Lib.hid (by rw [hh]; simp [hz, (lw_x s[1] 120 (by omega)).2 (.inl q1)])
          clear hh q1 hz
          go_wp2_with fail
          go_meet
          exact ⟨by rw [HT.out], rfl⟩
        · have f1 : ((s[1].toNat : Int) == 120) = false := by rw [beq_eq_false_iff_ne]; omega
          by_cases q2 : s[1].toNat = 88
          · have f2 : ((s[1].toNat : Int) == 88) = true := by simp [q2]
            have HT : Hid (hx = true) := Lib.hid (by rw [hh]; simp [hz, (lw_x s[1] 120 (by omega)).2 (.inr q2)])
            clear hh q1 q2 hz
            go_wp2_with fail
            go_meet
            exact ⟨by rw [HT.out], rfl⟩
          · have f2 : ((s[1].toNat : Int) == 88) = false := by rw [beq_eq_false_iff_ne]; omega
            have HT : Hid (hx = false) := Lib.hid (by
              have : lw s[1] ≠ 120 := fun h => by have := (lw_x s[1] 120 (by omega)).1 h; omega
              rw [hh]; simp [this])
            clear hh q1 q2 hz
            go_wp2_with fail
            go_meet
            exact ⟨by rw [HT.out], rfl⟩
      · have e48 : ((s[0].toNat : Int) == 48) = false := by rw [beq_eq_false_iff_ne]; omega
        have HT : Hid (hx = false) := Lib.hid (by rw [hh]; simp [hz])
        clear hh hz
        go_wp2_with fail
        go_meet
        exact ⟨by rw [HT.out], rfl⟩
    · have l2 : decide (2 ≤ (s.size : Int)) = false := decide_eq_false (by omega)
      have HT : Hid (hx = false) := Lib.hid (by rw [HH.out, dif_neg h2])
      go_wp2_with fail
      go_meet
      exact ⟨by rw [HT.out], rfl⟩
  case rest =>
  obtain ⟨rfl, rfl⟩ := hcut
  go_upto_region 3 with fail
  go_cut [6] from 29 to 42 (fun v6 wx => v6 = .bool bs ∧ wx = w.alloc (.cells #[] 5))
  case first =>
    by_cases h2 : 2 ≤ s.size
    · have l2 : decide (2 ≤ (s.size : Int)) = true := decide_eq_true (by omega)
      have hh := HS.out
      rw [dif_pos h2] at hh
      by_cases hz : s[0].toNat = 48
      · have e48 : ((s[0].toNat : Int) == 48) = true := by simp [hz]
        have C2 := Lib.hid (fun W => (show Calls Tryd.prog 52 #[.int .u8 (s[1].toNat : Nat), .int .u64 36] W fun e w' => e = .returned (.int .i64 (d29 s[1] 36)) ∧ W = w' from digit_any s[1] 36 (by omega) W))
        have HD : Hid (decide ((10 : Int) ≤ d29 s[1] 36) = bs) := Lib.hid (by
          rw [hh]
          unfold d29
          by_cases h36 : dig0 s[1] < 36
          · rw [if_pos h36]
            simp [hz, h36]
            omega
          · rw [if_neg h36]
            simp [h36])
        generalize d29 s[1] 36 = r at *
        have hdd := HD.out
        clear hh hz HD
        go_wp2_with (go_at_call 52; refine (C2.out _).mono ?_; rintro e w' ⟨rfl, rfl⟩)
        go_meet
        exact ⟨by first | rfl | (rw [← hdd]; rfl), rfl⟩
      · have e48 : ((s[0].toNat : Int) == 48) = false := by rw [beq_eq_false_iff_ne]; omega
        have HT : Hid (bs = false) := Lib.hid (by rw [hh]; simp [hz])
        clear hh hz
        go_wp2_with fail
        go_meet
        exact ⟨by rw [HT.out], rfl⟩
    · have l2 : decide (2 ≤ (s.size : Int)) = false := decide_eq_false (by omega)
      have HT : Hid (bs = false) := Lib.hid (by rw [HS.out, dif_neg h2])
      go_wp2_with fail
      go_meet
      exact ⟨by rw [HT.out], rfl⟩
  case rest =>
  obtain ⟨rfl, rfl⟩ := hcut
  have hb0 : Below w.heap.size w (w.alloc (.cells #[] 5)) := (Below.refl _ _).alloc (Nat.le_refl _) _
  have H0 : Hid (Below w.heap.size w (w.alloc (.cells #[] 5)) ∧ (w.alloc (.cells #[] 5)).ownsRow w.heap.size 5 1 (.slice (some ⟨w.heap.size, 0, none⟩) 0 0) (bare (s.data.toList.take 0)).length (byteV (bare (s.data.toList.take 0)))) := Lib.hid ⟨hb0, World.ownsRow_lit w #[] 0 (Nat.le_refl _) (Nat.zero_le _) rfl⟩
  clear hb0 HH HS
  go_wp2_with fail
  go_loopw [4, 45] (fun vo vi wr => ∃ (k ob oc : Nat), k ≤ s.size ∧ vi = .int .i64 (k : Nat) ∧ vo = .slice (some ⟨ob, 0, none⟩) (bare (s.data.toList.take k)).length oc ∧ Hid (Below w.heap.size w wr ∧ wr.ownsRow w.heap.size 5 1 (.slice (some ⟨ob, 0, none⟩) (bare (s.data.toList.take k)).length oc) (bare (s.data.toList.take k)).length (byteV (bare (s.data.toList.take k))) ∧ okW s.data.toList = woB hx bs k (prevAt s k) (s.data.toList.drop k))) (fun _ vi _ => s.size - (intOf vi).toNat)
  case atStart => exact ⟨0, w.heap.size, 0, Nat.zero_le _, rfl, rfl, Lib.hid ⟨H0.out.1, H0.out.2, HOK.out⟩⟩
  case round =>
    obtain ⟨k, ob, oc, hk, rfl, rfl, hh⟩ := hrel
    obtain ⟨hbel, hrow, hok⟩ := hh.out
    clear hh
    by_cases hlt : k < s.size
    · have hd := drop_get s k hlt
      have hblen : (bare (s.data.toList.take k)).length ≤ 2147483647 := by
        have h1 : (bare (s.data.toList.take k)).length ≤ (s.data.toList.take k).length := List.length_filter_le _ _
        have h2 : (s.data.toList.take k).length ≤ k := List.length_take_le _ _
        omega
      by_cases h95 : s[k].toNat = 95
      · have e95 : ((s[k].toNat : Int) != 95) = false := by simp [h95]
        have HB : Hid (bare (s.data.toList.take (k + 1)) = bare (s.data.toList.take k)) := Lib.hid (by rw [take_bare s k hlt, if_pos h95])
        have HK : Hid (okW s.data.toList = (aheadB hx bs k (prevAt s k) && behindB hx (s.data.toList.drop (k + 1)) && woB hx bs (k + 1) (some s[k]) (s.data.toList.drop (k + 1)))) := Lib.hid (by rw [hok, hd, woB, if_pos h95])
        have HR := Lib.hid hrow
        have HBL := Lib.hid hbel
        clear hd hok hrow hbel
        obtain ⟨av, hav⟩ : ∃ av, av = aheadB hx bs k (prevAt s k) := ⟨_, rfl⟩
        obtain ⟨bv, hbv⟩ : ∃ bv, bv = behindB hx (s.data.toList.drop (k + 1)) := ⟨_, rfl⟩
        rw [← hav, ← hbv] at HK
        have HAV := Lib.hid hav
        have HBV := Lib.hid hbv
        clear hav hbv h95
        go_upto_region 9 with fail
        go_cut [8] from 58 to 99 (fun v8 wx => v8 = .bool av ∧ wx = wr)
        case first =>
          cases k with
          | zero =>
            have HT : Hid (av = false) := Lib.hid HAV.out
            go_wp2_with fail
            go_meet
            exact ⟨by rw [HT.out], rfl⟩
          | succ j =>
            have hj : j < s.size := by omega
            have HA : Hid (av = ((isDec s[j] || (hx && decide (2 < j + 1) && isHex s[j])) || (decide (j + 1 = 2) && bs))) := Lib.hid (by rw [HAV.out, prev_succ s j hj]; rfl)
            have C2 := Lib.hid (fun W => (show Calls Tryd.prog 52 #[.int .u8 (s[j].toNat : Nat), .int .u64 16] W fun e w' => e = .returned (.int .i64 (d29 s[j] 16)) ∧ W = w' from digit_any s[j] 16 (by omega) W))
            have HD : Hid (decide ((0 : Int) ≤ d29 s[j] 16) = isHex s[j]) := Lib.hid (by
              unfold d29 isHex
              by_cases h16 : dig0 s[j] < 16
              · rw [if_pos h16]; simp [h16]
              · rw [if_neg h16]; simp [h16])
            have hc := s[j].toNat_lt
            generalize d29 s[j] 16 = r at *
            by_cases h48 : 48 ≤ s[j].toNat ∧ s[j].toNat ≤ 57
            · have HT : Hid (av = true) := Lib.hid (by rw [HA.out]; simp [isDec, h48])
              have f1 : decide (48 ≤ (s[j].toNat : Int)) = true := decide_eq_true (by omega)
              have f2 : decide ((s[j].toNat : Int) ≤ 57) = true := decide_eq_true (by omega)
              clear h48 HA HD
              go_wp2_with fail
              go_meet
              exact ⟨by rw [HT.out], rfl⟩
            · have hnd : isDec s[j] = false := by simp [isDec]; omega
              have HD2 : Hid ((decide (48 ≤ (s[j].toNat : Int)) = true ∧ decide ((s[j].toNat : Int) ≤ 57) = false) ∨ decide (48 ≤ (s[j].toNat : Int)) = false) := Lib.hid (by
                by_cases h3 : 48 ≤ s[j].toNat
                · exact .inl ⟨decide_eq_true (by omega), decide_eq_false (by omega)⟩
                · exact .inr (decide_eq_false (by omega)))
              have HA2 : Hid (av = ((hx && decide (2 < j + 1) && isHex s[j]) || (decide (j + 1 = 2) && bs))) := Lib.hid (by rw [HA.out, hnd]; rfl)
              have hdd := HD.out
              clear h48 hnd HA HD
              have HRT : Hid (∀ b, decide ((0 : Int) ≤ r) = b → isHex s[j] = b) := Lib.hid (fun b h => hdd ▸ h)
              clear hdd
              rcases HD2.out with ⟨f1, f2⟩ | f1
              all_goals
                by_cases h2 : 2 < j + 1
                · have g1 : decide (2 < (j : Int) + 1) = true := decide_eq_true (by omega)
                  have g2 : (((j : Int) + 1) == 2) = false := by rw [beq_eq_false_iff_ne]; omega
                  cases hx with
                  | false =>
                    have HT : Hid (av = false) := Lib.hid (by rw [HA2.out]; simp; intro h; omega)
                    clear HA2
                    go_wp2_with fail
                    go_meet
                    exact ⟨by rw [HT.out], rfl⟩
                  | true =>
                    by_cases hr : (0 : Int) ≤ r
                    · have HT : Hid (av = true) := Lib.hid (by rw [HA2.out, HRT.out true (decide_eq_true hr)]; simp [h2])
                      clear HA2 HRT
                      go_wp2_with (go_at_call 52; refine (C2.out _).mono ?_; rintro e w' ⟨rfl, rfl⟩)
                      go_meet
                      exact ⟨by rw [HT.out], rfl⟩
                    · have hr' : r < 0 := by omega
                      have HT : Hid (av = false) := Lib.hid (by rw [HA2.out, HRT.out false (decide_eq_false hr)]; simp; intro h; omega)
                      clear HA2 HRT hr
                      go_wp2_with (go_at_call 52; refine (C2.out _).mono ?_; rintro e w' ⟨rfl, rfl⟩)
                      go_meet
                      exact ⟨by rw [HT.out]; first | done | rfl | (simp only [Value.bool.injEq, decide_eq_false_iff_not]; omega), rfl⟩
                · have g1 : decide (2 < (j : Int) + 1) = false := decide_eq_false (by omega)
                  by_cases h1 : j = 1
                  · have g2 : (((j : Int) + 1) == 2) = true := by rw [beq_iff_eq]; omega
                    have HT : Hid (av = bs) := Lib.hid (by rw [HA2.out]; simp [h1])
                    clear HA2 h1
                    cases hx
                    all_goals
                      go_wp2_with fail
                      go_meet
                      exact ⟨by rw [HT.out], rfl⟩
                  · have g2 : (((j : Int) + 1) == 2) = false := by rw [beq_eq_false_iff_ne]; omega
                    have HT : Hid (av = false) := Lib.hid (by rw [HA2.out]; simp [h1]; omega)
                    clear HA2 h1
                    cases hx
                    all_goals
                      go_wp2_with fail
                      go_meet
                      exact ⟨by rw [HT.out], rfl⟩
        case rest =>
        obtain ⟨rfl, hwx⟩ := hcut
        have hwx' := hwx.symm
        subst hwx'
        go_upto_region 10 with fail
        go_cut [9] from 100 to 129 (fun v9 wx => v9 = .bool bv ∧ wx = wr)
        case first =>
          by_cases hlt2 : k + 1 < s.size
          · have HA : Hid (bv = (isDec s[k + 1] || (hx && isHex s[k + 1]))) := Lib.hid (by rw [HBV.out, drop_get s (k + 1) hlt2]; rfl)
            have C2 := Lib.hid (fun W => (show Calls Tryd.prog 52 #[.int .u8 (s[k + 1].toNat : Nat), .int .u64 16] W fun e w' => e = .returned (.int .i64 (d29 s[k + 1] 16)) ∧ W = w' from digit_any s[k + 1] 16 (by omega) W))
            have HD : Hid (decide ((0 : Int) ≤ d29 s[k + 1] 16) = isHex s[k + 1]) := Lib.hid (by
              unfold d29 isHex
              by_cases h16 : dig0 s[k + 1] < 16
              · rw [if_pos h16]; simp [h16]
              · rw [if_neg h16]; simp [h16])
            have hc := s[k + 1].toNat_lt
            have l1 : (k : Int) + 1 < (s.size : Int) := by omega
            generalize d29 s[k + 1] 16 = r at *
            by_cases h48 : 48 ≤ s[k + 1].toNat ∧ s[k + 1].toNat ≤ 57
            · have HT : Hid (bv = true) := Lib.hid (by rw [HA.out]; simp [isDec, h48])
              have f1 : decide (48 ≤ (s[k + 1].toNat : Int)) = true := decide_eq_true (by omega)
              have f2 : decide ((s[k + 1].toNat : Int) ≤ 57) = true := decide_eq_true (by omega)
              clear h48 HA HD
              go_wp2_with fail
              go_meet
              exact ⟨by rw [HT.out], rfl⟩
            · have hnd : isDec s[k + 1] = false := by simp [isDec]; omega
              have HD2 : Hid ((decide (48 ≤ (s[k + 1].toNat : Int)) = true ∧ decide ((s[k + 1].toNat : Int) ≤ 57) = false) ∨ decide (48 ≤ (s[k + 1].toNat : Int)) = false) := Lib.hid (by
                by_cases h3 : 48 ≤ s[k + 1].toNat
                · exact .inl ⟨decide_eq_true (by omega), decide_eq_false (by omega)⟩
                · exact .inr (decide_eq_false (by omega)))
              have HA2 : Hid (bv = (hx && isHex s[k + 1])) := Lib.hid (by rw [HA.out, hnd]; rfl)
              have HRT : Hid (∀ b, decide ((0 : Int) ≤ r) = b → isHex s[k + 1] = b) := Lib.hid (fun b h => HD.out ▸ h)
              clear h48 hnd HA HD
              rcases HD2.out with ⟨f1, f2⟩ | f1
              all_goals
                cases hx with
                | false =>
                  have HT : Hid (bv = false) := Lib.hid (by rw [HA2.out]; rfl)
                  clear HA2
                  go_wp2_with fail
                  go_meet
                  exact ⟨by rw [HT.out], rfl⟩
                | true =>
                  by_cases hr : (0 : Int) ≤ r
                  · have HT : Hid (bv = true) := Lib.hid (by rw [HA2.out, HRT.out true (decide_eq_true hr)]; rfl)
                    clear HA2 HRT
                    go_wp2_with (go_at_call 52; refine (C2.out _).mono ?_; rintro e w' ⟨rfl, rfl⟩)
                    go_meet
                    exact ⟨by rw [HT.out]; first | done | rfl | (simp only [Value.bool.injEq, decide_eq_true_eq]; omega), rfl⟩
                  · have hr' : r < 0 := by omega
                    have HT : Hid (bv = false) := Lib.hid (by rw [HA2.out, HRT.out false (decide_eq_false hr)]; rfl)
                    clear HA2 HRT hr
                    go_wp2_with (go_at_call 52; refine (C2.out _).mono ?_; rintro e w' ⟨rfl, rfl⟩)
                    go_meet
                    exact ⟨by rw [HT.out]; first | done | rfl | (simp only [Value.bool.injEq, decide_eq_false_iff_not]; omega), rfl⟩
          · have HT : Hid (bv = false) := Lib.hid (by rw [HBV.out, List.drop_eq_nil_of_le (by simp; omega)]; rfl)
            have l1 : (s.size : Int) ≤ (k : Int) + 1 := by omega
            go_wp2_with fail
            go_meet
            exact ⟨by rw [HT.out], rfl⟩
        case rest =>
        obtain ⟨rfl, hwx⟩ := hcut
        have hwx' := hwx.symm
        subst hwx'
        cases av with
        | false =>
          have HF : Hid (WoIs s (.returned (.tuple #[.string ⟨#[]⟩, .bool false]))) := Lib.hid (.inr ⟨by rw [HK.out]; rfl, rfl⟩)
          cases bv
          all_goals
            go_wp2_with fail
            go_ret2
            exact ⟨HF.out, HBL.out⟩
        | true =>
          cases bv with
          | false =>
            have HF : Hid (WoIs s (.returned (.tuple #[.string ⟨#[]⟩, .bool false]))) := Lib.hid (.inr ⟨by rw [HK.out]; rfl, rfl⟩)
            go_wp2_with fail
            go_ret2
            exact ⟨HF.out, HBL.out⟩
          | true =>
            have HN : Hid (Below w.heap.size w wr ∧ wr.ownsRow w.heap.size 5 1 (.slice (some ⟨ob, 0, none⟩) (bare (s.data.toList.take (k + 1))).length oc) (bare (s.data.toList.take (k + 1))).length (byteV (bare (s.data.toList.take (k + 1)))) ∧ okW s.data.toList = woB hx bs (k + 1) (prevAt s (k + 1)) (s.data.toList.drop (k + 1))) := Lib.hid ⟨HBL.out, by rw [HB.out]; exact HR.out, by rw [prev_succ s k hlt, HK.out]; rfl⟩
            have HB2 := Lib.hid (congrArg List.length HB.out)
            go_wp2_with fail
            go_roundw
            case rel => exact ⟨k + 1, ob, oc, by omega, by go_num, by rw [HB2.out], HN⟩
            case measure => simp [intOf]; omega
      · have e95 : ((s[k].toNat : Int) != 95) = true := by simp; omega
        have HB : Hid (bare (s.data.toList.take (k + 1)) = bare (s.data.toList.take k) ++ [s[k]]) := Lib.hid (by rw [take_bare s k hlt, if_neg h95])
        have HK : Hid (okW s.data.toList = woB hx bs (k + 1) (some s[k]) (s.data.toList.drop (k + 1))) := Lib.hid (by rw [hok, hd, woB, if_neg h95]; rfl)
        have HR := Lib.hid (hrow.alloc (.cells #[.int .u8 (s[k].toNat : Nat)] 5))
        have HBL := Lib.hid hbel
        have hws := hbel.size
        obtain ⟨i0, hi0, hz0, hz1, hz2⟩ := info_parts infoU8
        clear hd hok hrow hbel h95
        go_wp2_with (
          at_builtin
          refine wpList_append_lies _ (by rfl) _ _ _ (by rfl) w.heap.size 5 i0 _ 1 1 Tryd.underlying118 hi0 hz0 hz1 hz2 rfl (by omega) (.slice (some ⟨ob, 0, none⟩) (bare (s.data.toList.take k)).length oc) (bare (s.data.toList.take k)).length (byteV (bare (s.data.toList.take k))) (by rfl) HR.out
            ⟨wr.heap.size, 0, none⟩ 1 1 [.int .u8 (s[k].toNat : Nat)] (by rfl) (by rfl) (World.news_of_block (cs := #[.int .u8 (s[k].toNat : Nat)]) (t := 5) (fr := (0, 0)) (heap_at _ _ _ (by simp))) (by simp [Value.oneCell'])
            (by omega) (by unfold maxLen; omega) (by omega) (by simp only [World.size_alloc]; omega) (wr.heap.size + 1) (by simp only [World.size_alloc]) ?_
          intro gg gcp w5 hown1 hgrow hat hlt5
          have HOWN := Lib.hid hown1
          have HGROW := Lib.hid hgrow
          clear hown1 hgrow hat)
        have HB2 : Hid ((bare (s.data.toList.take (k + 1))).length = (bare (s.data.toList.take k)).length + 1) := Lib.hid (by rw [HB.out, List.length_append]; rfl)
        have HN : Hid (Below w.heap.size w w5 ∧ w5.ownsRow w.heap.size 5 1 (.slice (some ⟨gg, 0, none⟩) (bare (s.data.toList.take (k + 1))).length gcp) (bare (s.data.toList.take (k + 1))).length (byteV (bare (s.data.toList.take (k + 1)))) ∧ okW s.data.toList = woB hx bs (k + 1) (prevAt s (k + 1)) (s.data.toList.drop (k + 1))) := Lib.hid ⟨grown_below (HBL.out.alloc hws _) (by simp only [World.size_alloc]; omega) HR.out HGROW.out, by rw [HB2.out, HB.out, byteV_snoc]; exact HOWN.out, by rw [prev_succ s k hlt, HK.out]⟩
        go_roundw
        case rel => exact ⟨k + 1, gg, gcp, by omega, by go_num, by rw [HB2.out], HN⟩
        case measure => simp [intOf]; omega
    · have ek : s.data.toList.take k = s.data.toList := List.take_of_length_le (by simp; omega)
      have HF : Hid (WoIs s (.returned (.tuple #[.string ⟨(bare s.data.toList).toArray⟩, .bool true]))) := Lib.hid (.inl ⟨by rw [hok, List.drop_eq_nil_of_le (by simp; omega)]; rfl, _, rfl, rfl⟩)
      have HBL := Lib.hid hbel
      rw [ek] at hrow
      rw [ek]
      have hcv := run_convert_bytes_back (P := Tryd.prog) wr 118 9 5 ⟨ob, 0, none⟩ oc (bare s.data.toList) Tryd.underlying118 Tryd.underlying5 Tryd.underlying9 (fun j hj => hrow.cells rfl j _ (by simp [byteV, hj]))
      clear ek hrow hok hbel
      go_wp2_with fail
      go_ret2
      exact ⟨HF.out, HBL.out⟩
end Go.Proofs.YtlnnmionbflolaaDoor
