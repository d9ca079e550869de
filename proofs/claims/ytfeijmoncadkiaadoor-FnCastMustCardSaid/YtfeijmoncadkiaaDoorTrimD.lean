/- The whole part of a text that is a decimal number: the walks of zzIndex at a point, zzContains, zzNumber, trimDecimal. (Printed by gen_trim2.py.) -/
import Derived.Test.YtfeijmoncadkiaaDoorH
import Derived.Test.YtfeijmoncadkiaaDoorPu1b
import Derived.Deep.CutBlock
namespace Go.Proofs.YtfeijmoncadkiaaDoor
open Go.RowKit
set_option linter.unusedVariables false
set_option linter.unusedSimpArgs false

theorem one_toList (s : ByteArray) (k : Nat) (h : k < s.size) : (s.extract k (k + 1)).toList = [s[k]] := by
  have h1 : (s.extract k (k + 1)).toList = (s.extract k (k + 1)).data.toList := ByteArray.toList_eq _
  rw [h1, ByteArray.data_extract]
  apply List.ext_getElem?
  intro i
  rw [Array.getElem?_toList, Array.getElem?_extract]
  have e : s.data.size = s.size := rfl
  by_cases hi : i = 0
  · subst hi
    rw [if_pos (by omega)]
    simp only [Nat.add_zero]
    rw [Array.getElem?_eq_getElem (by omega)]
    rfl
  · rw [if_neg (by omega)]
    rw [List.getElem?_eq_none (by simp; omega)]

/-- Whether a text has a point. -/
def HasDot (s : ByteArray) : Prop := ∃ (j : Nat) (h : j < s.size), s[j].toNat = 46
open Classical in
noncomputable def hasDot (s : ByteArray) : Bool := decide (HasDot s)
open Classical in
theorem hasDot_yes {s : ByteArray} (h : HasDot s) : hasDot s = true := decide_eq_true h
open Classical in
theorem hasDot_no {s : ByteArray} (h : ¬ HasDot s) : hasDot s = false := decide_eq_false h
set_option maxRecDepth 100000 in
theorem dotIndex_any (s : ByteArray) (hs : s.size ≤ 2147483647) (w : World) :
    Calls Tryd.prog 68 #[.string s, .string ⟨#[46]⟩] w fun e w' => ∃ r : Int, e = .returned (.int .i64 r) ∧ w = w' ∧ decide (0 ≤ r) = hasDot s := by
  go_enter Tryd.func68, Tryd.ntmps68
  go_wp2_with fail
  go_loop [5] (fun i => ∃ k : Nat, k ≤ s.size ∧ i = .int .i64 k ∧ ∀ j (h : j < s.size), j < k → s[j].toNat ≠ 46) (fun i => s.size - (intOf i).toNat)
  case atStart => exact ⟨0, Nat.zero_le _, rfl, fun j _ h => by omega⟩
  case round =>
    obtain ⟨k, hk, rfl, hh⟩ := hrel
    have HH := Lib.hid hh
    clear hh
    by_cases hlt : k < s.size
    · have ht := one_toList s k hlt
      by_cases hc : s[k].toNat = 46
      · have e1 : ((s.extract k (k + 1)).toList == [46]) = true := by
          rw [ht]
          have : s[k] = 46 := UInt8.toNat_inj.1 hc
          rw [this]; rfl
        have HC := Lib.hid hc
        clear ht hc
        go_wp2_with fail
        go_ret
        refine ⟨_, rfl, rfl, ?_⟩
        rw [hasDot_yes ⟨k, hlt, HC.out⟩]
        exact decide_eq_true (by omega)
      · have e1 : ((s.extract k (k + 1)).toList == [46]) = false := by
          rw [ht]
          have : s[k] ≠ 46 := fun e => hc (by rw [e]; rfl)
          simp [this]
        have HN : Hid (∀ j (h : j < s.size), j < k + 1 → s[j].toNat ≠ 46) := Lib.hid (fun j h hj => by
          by_cases e : j = k
          · subst e; exact hc
          · exact HH.out j h (by omega))
        clear ht hc
        go_wp2_with fail
        go_round
        case rel => exact ⟨k + 1, by omega, by go_num, HN.out⟩
        case measure => simp [intOf]; omega
    · go_wp2_with fail
      go_ret
      refine ⟨_, rfl, rfl, ?_⟩
      rw [hasDot_no]
      · exact decide_eq_false (by omega)
      rintro ⟨j, h, hj⟩
      exact HH.out j h (by omega) hj
theorem dotIn_any (s : ByteArray) (hs : s.size ≤ 2147483647) (w : World) :
    Calls Tryd.prog 60 #[.string s, .string ⟨#[46]⟩] w fun e w' => e = .returned (.bool (hasDot s)) ∧ w = w' := by
  have C := Lib.hid (dotIndex_any s hs w)
  go_enter Tryd.func60, Tryd.ntmps60
  go_wp2_with fail
  refine C.out.mono ?_
  rintro e w1 ⟨r, rfl, rfl, hr⟩
  go_wp2_with fail
  go_ret
  refine ⟨?_, rfl⟩
  rw [← hr]
  rfl

/-- A digit. -/
def isD (c : UInt8) : Bool := decide (48 ≤ c.toNat) && decide (c.toNat ≤ 57)
/-- Where the digits from a place on end. -/
def toD (s : ByteArray) (k : Nat) : Nat := k + ((s.data.toList.drop k).takeWhile isD).length
theorem toD_yes (s : ByteArray) (k : Nat) (h : k < s.size) (hd : isD s[k] = true) : toD s k = toD s (k + 1) := by
  unfold toD
  rw [drop_get s k h, List.takeWhile_cons, hd]
  simp only [if_true, List.length_cons]
  omega
theorem toD_no (s : ByteArray) (k : Nat) (h : k < s.size) (hd : isD s[k] = false) : toD s k = k := by
  unfold toD
  rw [drop_get s k h, List.takeWhile_cons, hd]
  simp
theorem toD_end (s : ByteArray) : toD s s.size = s.size := by
  unfold toD
  rw [List.drop_eq_nil_of_le (by rw [Array.length_toList]; exact Nat.le_refl _)]
  simp
theorem toD_le (s : ByteArray) (k : Nat) (h : k ≤ s.size) : toD s k ≤ s.size := by
  unfold toD
  have h1 : ((s.data.toList.drop k).takeWhile isD).length ≤ (s.data.toList.drop k).length := (List.takeWhile_sublist isD).length_le
  have h2 : (s.data.toList.drop k).length = s.size - k := by rw [List.length_drop, Array.length_toList]; rfl
  rw [h2] at h1
  generalize ((s.data.toList.drop k).takeWhile isD).length = n at h1 ⊢
  omega
def sgnD (s : ByteArray) : Nat := match s.data.toList with
  | a :: _ => if a.toNat = 45 ∨ a.toNat = 43 then 1 else 0
  | [] => 0
theorem sgnD_at (s : ByteArray) (h : 0 < s.size) : sgnD s = if s[0].toNat = 45 ∨ s[0].toNat = 43 then 1 else 0 := by
  have := drop_get s 0 h
  rw [List.drop_zero] at this
  unfold sgnD
  rw [this]
theorem sgnD_nil (s : ByteArray) (h : ¬ 0 < s.size) : sgnD s = 0 := by
  have : s.data.toList = [] := List.eq_nil_of_length_eq_zero (by rw [Array.length_toList]; show s.size = 0; omega)
  unfold sgnD
  rw [this]
theorem sgnD_le (s : ByteArray) : sgnD s ≤ s.size := by
  by_cases h : 0 < s.size
  · rw [sgnD_at s h]; split <;> omega
  · rw [sgnD_nil s h]; omega
def numE (s : ByteArray) : Nat := toD s (sgnD s)
def dotAt (s : ByteArray) (k : Nat) : Bool := match s.data.toList.drop k with
  | a :: _ => decide (a.toNat = 46)
  | [] => false
theorem dotAt_at (s : ByteArray) (k : Nat) (h : k < s.size) : dotAt s k = decide (s[k].toNat = 46) := by
  unfold dotAt
  rw [drop_get s k h]
theorem dotAt_end (s : ByteArray) (k : Nat) (h : ¬ k < s.size) : dotAt s k = false := by
  unfold dotAt
  rw [List.drop_eq_nil_of_le (by rw [Array.length_toList]; show s.size ≤ k; omega)]
def numF (s : ByteArray) : Nat := if dotAt s (numE s) = true then toD s (numE s + 1) else numE s
def numW (s : ByteArray) : ByteArray := s.extract 0 (numE s)
def numOk (s : ByteArray) : Bool := ((numF s : Nat) : Int) == (s.size : Int)


set_option maxRecDepth 100000 in
theorem number_any (s : ByteArray) (hs : s.size ≤ 2147483647) (w : World) :
    Calls Tryd.prog 61 #[.string s] w fun e w' => e = .returned (.tuple #[.string (numW s), .bool (numOk s)]) ∧ w = w' := by
  go_enter Tryd.func61, Tryd.ntmps61
  obtain ⟨b, hb⟩ : ∃ b : Bool, b = decide (sgnD s = 1) := ⟨_, rfl⟩
  have HBB := Lib.hid hb
  clear hb
  go_upto_region 2 with fail
  go_cut [21] from 6 to 21 (fun v wx => v = .bool b ∧ wx = w)
  case first =>
    by_cases h0 : 0 < s.size
    · have hsg := sgnD_at s h0
      by_cases c1 : s[0].toNat = 45
      · have HG : Hid (b = true) := Lib.hid (by rw [HBB.out, hsg, if_pos (.inl c1)]; rfl)
        have d1 : ((s[0].toNat : Int) == 45) = true := by simp [c1]
        clear hsg c1
        go_wp2_with fail
        go_meet
        exact ⟨by rw [HG.out], rfl⟩
      · have d1 : ((s[0].toNat : Int) == 45) = false := by rw [beq_eq_false_iff_ne]; omega
        by_cases c2 : s[0].toNat = 43
        · have HG : Hid (b = true) := Lib.hid (by rw [HBB.out, hsg, if_pos (.inr c2)]; rfl)
          have d2 : ((s[0].toNat : Int) == 43) = true := by simp [c2]
          clear hsg c1 c2
          go_wp2_with fail
          go_meet
          exact ⟨by rw [HG.out], rfl⟩
        · have HG : Hid (b = false) := Lib.hid (by rw [HBB.out, hsg, if_neg (by omega)]; rfl)
          have d2 : ((s[0].toNat : Int) == 43) = false := by rw [beq_eq_false_iff_ne]; omega
          clear hsg c1 c2
          go_wp2_with fail
          go_meet
          exact ⟨by rw [HG.out], rfl⟩
    · have HG : Hid (b = false) := Lib.hid (by rw [HBB.out, sgnD_nil s h0]; rfl)
      go_wp2_with fail
      go_meet
      exact ⟨by rw [HG.out], rfl⟩
  case rest =>
  obtain ⟨rfl, rfl⟩ := hcut
  have HG : Hid (sgnD s = if b then 1 else 0) := Lib.hid (by
    have h := HBB.out
    rw [h]
    by_cases h0 : 0 < s.size
    · rw [sgnD_at s h0]; split <;> simp
    · rw [sgnD_nil s h0]; simp)
  clear HBB
  go_upto_if 21 with fail
  go_cut [4] from 21 to 23 (fun v4 wx => v4 = .int .i64 (sgnD s : Nat) ∧ wx = wc)
  case first =>
    cases b with
    | true =>
      go_wp2_with fail
      go_meet
      exact ⟨by rw [HG.out]; rfl, rfl⟩
    | false =>
      go_wp2_with fail
      go_meet
      exact ⟨by rw [HG.out]; rfl, rfl⟩
  case rest =>
  obtain ⟨rfl, rfl⟩ := hcut
  have hg := sgnD_le s
  obtain ⟨g, hge⟩ : ∃ g, g = sgnD s := ⟨_, rfl⟩
  have HGE := Lib.hid hge
  rw [← hge] at hg ⊢
  clear hge
  go_upto_block 0 with fail
  go_cut [4] from 24 to 41 (fun v4 wx => v4 = .int .i64 (numE s : Nat) ∧ wx = wc)
  case first =>
    go_wp2_with fail
    go_loop [4] (fun i => ∃ k : Nat, k ≤ s.size ∧ i = .int .i64 k ∧ Hid (toD s k = numE s)) (fun i => s.size - (intOf i).toNat)
    case atStart => exact ⟨g, hg, rfl, Lib.hid (by rw [HGE.out]; rfl)⟩
    case round =>
      obtain ⟨k, hk, rfl, HT⟩ := hrel
      by_cases hlt : k < s.size
      · by_cases h1 : 48 ≤ s[k].toNat
        · have d1 : decide (48 ≤ (s[k].toNat : Int)) = true := decide_eq_true (by omega)
          by_cases h2 : s[k].toNat ≤ 57
          · have d2 : decide ((s[k].toNat : Int) ≤ 57) = true := decide_eq_true (by omega)
            have HN : Hid (toD s (k + 1) = numE s) := Lib.hid (by rw [← toD_yes s k hlt (by simp [isD, h1, h2])]; exact HT.out)
            clear h1 h2
            go_wp2_with fail
            go_round
            case rel => exact ⟨k + 1, by omega, by go_num, HN⟩
            case measure => simp [intOf]; omega
          · have d2 : decide ((s[k].toNat : Int) ≤ 57) = false := decide_eq_false (by omega)
            have HN : Hid (k = numE s) := Lib.hid (by rw [← HT.out, toD_no s k hlt (by simp [isD, h2])])
            clear h1 h2
            go_wp2_with fail
            go_meet
            exact ⟨by rw [← HN.out], rfl⟩
        · have d1 : decide (48 ≤ (s[k].toNat : Int)) = false := decide_eq_false (by omega)
          have HN : Hid (k = numE s) := Lib.hid (by rw [← HT.out, toD_no s k hlt (by simp [isD, h1])])
          clear h1
          go_wp2_with fail
          go_meet
          exact ⟨by rw [← HN.out], rfl⟩
      · have HN : Hid (k = numE s) := Lib.hid (by
          have e : k = s.size := by omega
          rw [← HT.out, e, toD_end])
        go_wp2_with fail
        go_meet
        exact ⟨by rw [← HN.out], rfl⟩
  case rest =>
  obtain ⟨rfl, rfl⟩ := hcut
  have he : numE s ≤ s.size := toD_le s _ (by rw [← HGE.out]; exact hg)
  obtain ⟨E, hEe⟩ : ∃ E, E = numE s := ⟨_, rfl⟩
  have HEE := Lib.hid hEe
  rw [← hEe] at he ⊢
  clear hEe hg HGE
  by_cases hd : dotAt s E = true
  case neg =>
    have HR : Hid (numW s = s.extract 0 E ∧ numOk s = ((E : Int) == (s.size : Int))) := Lib.hid (by
      have e : numF s = E := by rw [numF, ← HEE.out, if_neg hd]
      exact ⟨by rw [numW, ← HEE.out], by rw [numOk, e]⟩)
    by_cases hlt : E < s.size
    · have d1 : ((s[E].toNat : Int) == 46) = false := by
        rw [dotAt_at s E hlt] at hd
        rw [beq_eq_false_iff_ne]
        intro h
        exact hd (decide_eq_true (by omega))
      clear hd
      go_wp2_with fail
      go_ret2
      exact ⟨by rw [HR.out.1, HR.out.2]; rfl, rfl⟩
    · clear hd
      go_wp2_with fail
      go_ret2
      exact ⟨by rw [HR.out.1, HR.out.2]; rfl, rfl⟩
  have hlt : E < s.size := by
    by_cases h : E < s.size
    · exact h
    · rw [dotAt_end s E h] at hd; cases hd
  have HF : Hid (toD s (E + 1) = numF s) := Lib.hid (by rw [numF, ← HEE.out, if_pos hd])
  have HW : Hid (numW s = s.extract 0 E) := Lib.hid (by rw [numW, ← HEE.out])
  have d1 : ((s[E].toNat : Int) == 46) = true := by
    rw [dotAt_at s E hlt, decide_eq_true_eq] at hd
    simp [hd]
  clear hd
  go_wp2_with fail
  go_loop [4] (fun i => ∃ k : Nat, k ≤ s.size ∧ i = .int .i64 k ∧ Hid (toD s k = numF s)) (fun i => s.size - (intOf i).toNat)
  case atStart => exact ⟨E + 1, by omega, by go_num, Lib.hid HF.out⟩
  case round =>
    obtain ⟨k, hk, rfl, HT⟩ := hrel
    by_cases hlt : k < s.size
    · by_cases h1 : 48 ≤ s[k].toNat
      · have d1 : decide (48 ≤ (s[k].toNat : Int)) = true := decide_eq_true (by omega)
        by_cases h2 : s[k].toNat ≤ 57
        · have d2 : decide ((s[k].toNat : Int) ≤ 57) = true := decide_eq_true (by omega)
          have HN : Hid (toD s (k + 1) = numF s) := Lib.hid (by rw [← toD_yes s k hlt (by simp [isD, h1, h2])]; exact HT.out)
          clear h1 h2
          go_wp2_with fail
          go_round
          case rel => exact ⟨k + 1, by omega, by go_num, HN⟩
          case measure => simp [intOf]; omega
        · have d2 : decide ((s[k].toNat : Int) ≤ 57) = false := decide_eq_false (by omega)
          have HN : Hid (k = numF s) := Lib.hid (by rw [← HT.out, toD_no s k hlt (by simp [isD, h2])])
          clear h1 h2
          go_wp2_with fail
          go_ret2
          exact ⟨by rw [HW.out, numOk, ← HN.out]; rfl, rfl⟩
      · have d1 : decide (48 ≤ (s[k].toNat : Int)) = false := decide_eq_false (by omega)
        have HN : Hid (k = numF s) := Lib.hid (by rw [← HT.out, toD_no s k hlt (by simp [isD, h1])])
        clear h1
        go_wp2_with fail
        go_ret2
        exact ⟨by rw [HW.out, numOk, ← HN.out]; rfl, rfl⟩
    · have HN : Hid (k = numF s) := Lib.hid (by
        have e : k = s.size := by omega
        rw [← HT.out, e, toD_end])
      go_wp2_with fail
      go_ret2
      exact ⟨by rw [HW.out, numOk, ← HN.out]; rfl, rfl⟩

/-- What trimDecimal makes of a text. -/
noncomputable def trimD (s : ByteArray) : ByteArray :=
  if hasDot s = true then (if numOk s = true then (if numW s = ⟨#[45]⟩ ∨ numW s = ⟨#[43]⟩ then numW s ++ ⟨#[48]⟩ else if numW s = ⟨#[]⟩ then ⟨#[48]⟩ else numW s) else s) else s
theorem numW_size (s : ByteArray) : (numW s).size ≤ s.size := by
  rw [numW, ByteArray.size_extract]; omega
theorem trimD_size (s : ByteArray) (hs : s.size ≤ 2147483646) : (trimD s).size ≤ 2147483647 := by
  have := numW_size s
  unfold trimD
  split
  · split
    · split
      · rw [ByteArray.size_append]
        show _ + 1 ≤ _
        omega
      · split
        · show 1 ≤ _; omega
        · omega
    · omega
  · omega
theorem is_list {t : ByteArray} {l : List UInt8} : ((t.toList == l) = true) ↔ t = ⟨l.toArray⟩ := by
  rw [beq_iff_eq, ByteArray.toList_eq]
  constructor
  · intro h
    apply ByteArray.ext
    rw [← h]
  · rintro rfl
    simp
set_option maxRecDepth 100000 in
theorem trimD_any (s : ByteArray) (hs : s.size ≤ 2147483646) (w : World) :
    Calls Tryd.prog 52 #[.string s] w fun e w' => e = .returned (.string (trimD s)) ∧ w = w' := by
  have C := Lib.hid (dotIn_any s (by omega) w)
  have C2 := Lib.hid (number_any s (by omega) w)
  have hn := numW_size s
  have HD : Hid (trimD s = trimD s) := Lib.hid rfl
  by_cases h1 : hasDot s = true
  case neg =>
    have h1' : hasDot s = false := by simpa using h1
    have HR : Hid (trimD s = s) := Lib.hid (by rw [trimD, if_neg h1])
    rw [h1'] at C
    clear h1 h1'
    go_enter Tryd.func52, Tryd.ntmps52
    go_wp2_with fail
    refine C.out.mono ?_
    rintro e w1 ⟨rfl, rfl⟩
    go_wp2_with fail
    go_ret
    exact ⟨by rw [HR.out]; rfl, rfl⟩
  rw [h1] at C
  by_cases h2 : numOk s = true
  case neg =>
    have h2' : numOk s = false := by simpa using h2
    have HR : Hid (trimD s = s) := Lib.hid (by rw [trimD, if_pos h1, if_neg h2])
    rw [h2'] at C2
    clear h1 h2 h2'
    generalize numW s = t at *
    go_enter Tryd.func52, Tryd.ntmps52
    go_wp2_with fail
    refine C.out.mono ?_
    rintro e w1 ⟨rfl, rfl⟩
    go_wp2_with fail
    refine C2.out.mono ?_
    rintro e w1 ⟨rfl, rfl⟩
    go_wp2_with fail
    go_ret
    exact ⟨by rw [HR.out]; rfl, rfl⟩
  rw [h2] at C2
  have HR : Hid (trimD s = if numW s = ⟨#[45]⟩ ∨ numW s = ⟨#[43]⟩ then numW s ++ ⟨#[48]⟩ else if numW s = ⟨#[]⟩ then ⟨#[48]⟩ else numW s) := Lib.hid (by rw [trimD, if_pos h1, if_pos h2])
  clear h1 h2
  generalize numW s = t at *
  generalize trimD s = R at *
  have ht : t.size + 1 ≤ 9223372036854775807 := by omega
  by_cases t1 : (t.toList == [45]) = true
  · have HR2 : Hid (R = t ++ ⟨#[48]⟩) := Lib.hid (by rw [HR.out, if_pos (.inl (is_list.1 t1))])
    clear HR
    go_enter Tryd.func52, Tryd.ntmps52
    go_wp2_with fail
    refine C.out.mono ?_
    rintro e w1 ⟨rfl, rfl⟩
    go_wp2_with fail
    refine C2.out.mono ?_
    rintro e w1 ⟨rfl, rfl⟩
    go_wp2_with fail
    go_ret
    exact ⟨by rw [HR2.out]; rfl, rfl⟩
  have n1 : ¬ t = ⟨#[45]⟩ := fun h => t1 (is_list.2 h)
  have t1' : (t.toList == [45]) = false := by simpa using t1
  clear t1
  by_cases t2 : (t.toList == [43]) = true
  · have HR2 : Hid (R = t ++ ⟨#[48]⟩) := Lib.hid (by rw [HR.out, if_pos (.inr (is_list.1 t2))])
    clear HR n1
    go_enter Tryd.func52, Tryd.ntmps52
    go_wp2_with fail
    refine C.out.mono ?_
    rintro e w1 ⟨rfl, rfl⟩
    go_wp2_with fail
    refine C2.out.mono ?_
    rintro e w1 ⟨rfl, rfl⟩
    go_wp2_with fail
    go_ret
    exact ⟨by rw [HR2.out]; rfl, rfl⟩
  have n2 : ¬ t = ⟨#[43]⟩ := fun h => t2 (is_list.2 h)
  have t2' : (t.toList == [43]) = false := by simpa using t2
  clear t2
  have HR3 : Hid (R = if t = ⟨#[]⟩ then ⟨#[48]⟩ else t) := Lib.hid (by rw [HR.out, if_neg (fun h => h.elim n1 n2)])
  clear HR n1 n2
  by_cases t3 : (t.toList == []) = true
  · have HR2 : Hid (R = ⟨#[48]⟩) := Lib.hid (by rw [HR3.out, if_pos (is_list.1 t3)])
    clear HR3
    go_enter Tryd.func52, Tryd.ntmps52
    go_wp2_with fail
    refine C.out.mono ?_
    rintro e w1 ⟨rfl, rfl⟩
    go_wp2_with fail
    refine C2.out.mono ?_
    rintro e w1 ⟨rfl, rfl⟩
    go_wp2_with fail
    go_ret
    exact ⟨by rw [HR2.out]; rfl, rfl⟩
  · have HR2 : Hid (R = t) := Lib.hid (by rw [HR3.out, if_neg (fun h => t3 (is_list.2 h))])
    have t3' : (t.toList == []) = false := by simpa using t3
    clear HR3 t3
    go_enter Tryd.func52, Tryd.ntmps52
    go_wp2_with fail
    refine C.out.mono ?_
    rintro e w1 ⟨rfl, rfl⟩
    go_wp2_with fail
    refine C2.out.mono ?_
    rintro e w1 ⟨rfl, rfl⟩
    go_wp2_with fail
    go_ret
    exact ⟨by rw [HR2.out]; rfl, rfl⟩
end Go.Proofs.YtfeijmoncadkiaaDoor
