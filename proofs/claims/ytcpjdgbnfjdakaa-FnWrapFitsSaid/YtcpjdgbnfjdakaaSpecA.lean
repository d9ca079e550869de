/- The walks of the reference's small functions: letter, byteAt, Bare, has, Fold. -/
import Derived.Test.YtcpjdgbnfjdakaaNorm
namespace Go.Proofs.Ytcpjdgbnfjdakaa
open Go.RowKit
set_option linter.unusedVariables false
set_option linter.unusedSimpArgs false

def letterF (c : UInt8) : Bool := (decide (97 ≤ c.toNat) && decide (c.toNat ≤ 122)) || (decide (65 ≤ c.toNat) && decide (c.toNat ≤ 90)) || (decide (48 ≤ c.toNat) && decide (c.toNat ≤ 57))

theorem letter_kinds (c : UInt8) (n : Int) (h : (c.toNat : Int) = n) :
    (decide (97 ≤ n) = true ∧ decide (n ≤ 122) = true ∧ letterF c = true) ∨
    (decide (97 ≤ n) = true ∧ decide (n ≤ 122) = false ∧ decide (65 ≤ n) = true ∧ decide (n ≤ 90) = false ∧ decide (48 ≤ n) = true ∧ decide (n ≤ 57) = false ∧ letterF c = false) ∨
    (decide (97 ≤ n) = false ∧ decide (65 ≤ n) = true ∧ decide (n ≤ 90) = true ∧ letterF c = true) ∨
    (decide (97 ≤ n) = false ∧ decide (65 ≤ n) = true ∧ decide (n ≤ 90) = false ∧ decide (48 ≤ n) = true ∧ decide (n ≤ 57) = false ∧ letterF c = false) ∨
    (decide (97 ≤ n) = false ∧ decide (65 ≤ n) = false ∧ decide (48 ≤ n) = true ∧ decide (n ≤ 57) = true ∧ letterF c = true) ∨
    (decide (97 ≤ n) = false ∧ decide (65 ≤ n) = false ∧ decide (48 ≤ n) = true ∧ decide (n ≤ 57) = false ∧ letterF c = false) ∨
    (decide (97 ≤ n) = false ∧ decide (65 ≤ n) = false ∧ decide (48 ≤ n) = false ∧ letterF c = false) := by
  subst h
  simp only [letterF, decide_eq_true_eq, decide_eq_false_iff_not, Bool.or_eq_true, Bool.and_eq_true, Bool.or_eq_false_iff, Bool.and_eq_false_iff]
  omega

theorem letter_any (c : UInt8) (w : World) : Calls Try.prog 46 #[.int .u8 c.toNat] w fun e w' => e = .returned (.bool (letterF c)) ∧ w' = w := by
  have hk := letter_kinds c _ rfl
  have hb := c.toNat_lt
  generalize letterF c = b at *
  generalize hn : (c.toNat : Int) = n at *
  have hn0 : 0 ≤ n := by omega
  have hn1 : n < 256 := by omega
  clear hn hb
  rcases hk with ⟨h1, h2, rfl⟩ | ⟨h1, h2, h3, h4, h5, h6, rfl⟩ | ⟨h1, h2, h3, rfl⟩ | ⟨h1, h2, h3, h4, h5, rfl⟩ | ⟨h1, h2, h3, h4, rfl⟩ | ⟨h1, h2, h3, h4, rfl⟩ | ⟨h1, h2, h3, rfl⟩
  all_goals
    go_enter Try.func46, Try.ntmps46
    go_wp2_with fail
    go_ret
    exact ⟨rfl, rfl⟩

theorem byteAt_any (s : ByteArray) (c : UInt8) (w : World) (hs : s.size ≤ 2147483647) :
    Calls Try.prog 47 #[.string s, .int .u8 c.toNat] w fun e w' => e = .returned (.int .i64 (firstFrom (fun b => b == c) s 0 : Nat)) ∧ w' = w := by
  go_enter Try.func47, Try.ntmps47
  go_wp2
  go_loop [5] (fun i => ∃ k : Nat, k ≤ s.size ∧ i = .int .i64 k ∧ firstFrom (fun b => b == c) s 0 = firstFrom (fun b => b == c) s k) (fun i => s.size - (intOf i).toNat)
  case atStart => exact ⟨0, Nat.zero_le _, rfl, rfl⟩
  case round =>
    obtain ⟨k, hk, rfl, hl⟩ := hrel
    have HL := Lib.hid hl
    clear hl
    by_cases hlt : k < s.size
    · by_cases hc : s[k] = c
      · have hh : ((s[k].toNat : Int) == (c.toNat : Int)) = true := by simp [hc]
        go_wp2
        go_ret
        exact ⟨by rw [HL.out, firstFrom_yes _ s k hlt (by simp [hc])]; rfl, rfl⟩
      · have hh : ((s[k].toNat : Int) == (c.toNat : Int)) = false := by
          rw [beq_eq_false_iff_ne]
          intro h
          exact hc (UInt8.toNat_inj.mp (by omega))
        have HC := Lib.hid hc
        clear hc
        go_wp2
        go_round
        case rel => exact ⟨k + 1, by omega, by go_num, by rw [HL.out, firstFrom_no _ s k hlt (by simp [HC.out])]⟩
        case measure => simp [intOf]; omega
    · go_wp2
      go_ret
      exact ⟨by rw [HL.out, firstFrom_end _ s k (by omega)]; rfl, rfl⟩

theorem byteO_zero {s : ByteArray} (h : 0 < s.size) : byteO s 0 = some s[0] := byteO_some h

theorem bareS_cases (s : ByteArray) : (s.size = 0 ∧ bareF s = true) ∨ (∃ h : 0 < s.size, s[0] ≠ 45 ∧ bareF s = true) ∨ (∃ h : 0 < s.size, s[0] = 45 ∧ s.size = 1 ∧ bareF s = true) ∨ (∃ h : 0 < s.size, s[0] = 45 ∧ s.size ≠ 1 ∧ bareF s = false) := by
  by_cases h0 : s.size = 0
  · exact .inl ⟨h0, by simp [bareF, h0]⟩
  · have h1 : 0 < s.size := by omega
    by_cases e : s[0] = 45
    · by_cases h2 : s.size = 1
      · exact .inr (.inr (.inl ⟨h1, e, h2, by simp [bareF, h2]⟩))
      · refine .inr (.inr (.inr ⟨h1, e, h2, ?_⟩))
        simp [bareF, byteO_some h1, e]; omega
    · exact .inr (.inl ⟨h1, e, by simp [bareF, byteO_some h1, e]⟩)

theorem toList_of_empty {s : ByteArray} (h : s.size = 0) : s.toList = [] := by
  rw [ByteArray.toList_eq]
  have : s.data.size = 0 := h
  rw [Array.toList_eq_nil_iff]; exact Array.eq_empty_of_size_eq_zero this
theorem toList_one {s : ByteArray} (h : s.size = 1) : s.toList = [s[0]] := by
  rw [ByteArray.toList_eq]
  obtain ⟨⟨l⟩⟩ := s
  match l, h with
  | [a], _ => rfl
theorem length_toList (s : ByteArray) : s.toList.length = s.size := by
  rw [ByteArray.toList_eq]; simp

theorem bare_any (s : ByteArray) (w : World) : Calls Try.prog 71 #[.string s] w fun e w' => e = .returned (.bool (bareF s)) ∧ w' = w := by
  have h45 : ((45 : UInt8).toNat : Int) = 45 := rfl
  rcases bareS_cases s with ⟨h0, hb⟩ | ⟨h0, h1, hb⟩ | ⟨h0, h1, h2, hb⟩ | ⟨h0, h1, h2, hb⟩
  · have e1 : (s.toList == []) = true := by rw [toList_of_empty h0]; rfl
    rw [hb]; clear hb
    go_enter Try.func71, Try.ntmps71
    go_wp2_with fail
    go_ret
    exact ⟨rfl, rfl⟩
  · have e1 : (s.toList == []) = false := by rw [beq_eq_false_iff_ne]; intro e; have := length_toList s; rw [e] at this; simp at this; omega
    have e2 : ((s[0].toNat : Int) != 45) = true := by
      rw [bne_iff_ne]; intro e; exact h1 (UInt8.toNat_inj.mp (by show s[0].toNat = 45; omega))
    rw [hb]; clear hb
    go_enter Try.func71, Try.ntmps71
    go_wp2_with fail
    go_ret
    exact ⟨rfl, rfl⟩
  · have e1 : (s.toList == []) = false := by rw [beq_eq_false_iff_ne]; intro e; have := length_toList s; rw [e] at this; simp at this; omega
    have e2 : ((s[0].toNat : Int) != 45) = false := by rw [h1]; rfl
    have e3 : (s.toList == [45]) = true := by rw [toList_one h2, h1]; rfl
    rw [hb]; clear hb
    go_enter Try.func71, Try.ntmps71
    go_wp2_with fail
    go_ret
    exact ⟨rfl, rfl⟩
  · have e1 : (s.toList == []) = false := by rw [beq_eq_false_iff_ne]; intro e; have := length_toList s; rw [e] at this; simp at this; omega
    have e2 : ((s[0].toNat : Int) != 45) = false := by rw [h1]; rfl
    have e3 : (s.toList == [45]) = false := by rw [beq_eq_false_iff_ne]; intro e; have := length_toList s; rw [e] at this; simp at this; omega
    rw [hb]; clear hb
    go_enter Try.func71, Try.ntmps71
    go_wp2_with fail
    go_ret
    exact ⟨rfl, rfl⟩

theorem hasS_any (v : Value) (l : List ByteArray) (s : ByteArray) (w : World) (hv : Strs w v l) (hl : l.length ≤ 2147483647) :
    Calls Try.prog 100 #[v, .string s] w fun e w' => e = .returned (.bool (hasB l s)) ∧ w' = w := by
  obtain ⟨a, cap, rfl⟩ := hv.len
  have hcell : ∀ i (h : i < l.length), ∃ b off, a = some ⟨b, off, none⟩ ∧ w.cell? ⟨b, off + i, none⟩ = some (.string l[i]) := by
    intro i h
    obtain ⟨b, off, e, f⟩ := hv.cell (by omega)
    exact ⟨b, off, e, f i h⟩
  have HC := Lib.hid hcell
  clear hcell hv
  go_enter Try.func100, Try.ntmps100
  go_wp2_with fail
  go_loop [9] (fun i => ∃ k : Nat, k ≤ l.length ∧ i = .int .i64 k ∧ hasB l s = hasB (l.drop k) s) (fun i => l.length - (intOf i).toNat)
  case atStart => exact ⟨0, Nat.zero_le _, rfl, rfl⟩
  case round =>
    obtain ⟨k, hk, rfl, hh⟩ := hrel
    have HH := Lib.hid hh
    clear hh
    by_cases hlt : k < l.length
    · obtain ⟨b, off, rfl, hc⟩ := HC.out k hlt
      have hd : l.drop k = l[k] :: l.drop (k + 1) := List.drop_eq_getElem_cons hlt
      have HD := Lib.hid hd
      clear hd
      cases he : eqB l[k] s with
      | true =>
        have he' : (l[k].toList == s.toList) = true := he
        go_wp2_with fail
        go_ret
        exact ⟨by rw [HH.out, HD.out, hasB, List.any_cons, he]; rfl, rfl⟩
      | false =>
        have he' : (l[k].toList == s.toList) = false := he
        have HE := Lib.hid he
        clear he
        go_wp2_with fail
        go_round
        case rel => exact ⟨k + 1, by omega, by go_num, by rw [HH.out, HD.out, hasB, List.any_cons, HE.out]; rfl⟩
        case measure => simp [intOf]; omega
    · have e : l.drop k = [] := List.drop_eq_nil_of_le (by omega)
      have HE := Lib.hid e
      clear e
      go_wp2_with fail
      go_ret
      exact ⟨by rw [HH.out, HE.out]; rfl, rfl⟩
end Go.Proofs.Ytcpjdgbnfjdakaa
