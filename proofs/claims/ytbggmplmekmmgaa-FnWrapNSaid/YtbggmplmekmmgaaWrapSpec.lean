/- The walks of the reference's Blank and WrapN, and of the statement FnWrapN. -/
import Derived.Test.YtbggmplmekmmgaaWrapWalks
namespace Go.Proofs.Ytbggmplmekmmgaa
open Go.RowKit
set_option linter.unusedVariables false
set_option linter.unusedSimpArgs false

theorem beqByte (c : UInt8) (n : Nat) (hn : n < 256) : ((c.toNat : Int) == (n : Int)) = (c == UInt8.ofNat n) := by
  rw [Bool.eq_iff_iff]
  simp only [beq_iff_eq]
  constructor
  · intro h
    apply UInt8.toNat_inj.mp
    rw [UInt8.toNat_ofNat']
    omega
  · intro h
    rw [h, UInt8.toNat_ofNat']
    omega

theorem blank_any (c : UInt8) (w : World) :
    Calls Try.prog 13 #[.int .u8 c.toNat] w fun e w' => e = .returned (.bool (isBlank c)) ∧ w' = w := by
  have e1 := beqByte c 32 (by decide)
  have e2 := beqByte c 9 (by decide)
  have e3 := beqByte c 10 (by decide)
  have f1 : isBlank c = ((c == UInt8.ofNat 32) || (c == UInt8.ofNat 9) || (c == UInt8.ofNat 10)) := rfl
  have F1 := Lib.hid f1
  clear f1
  generalize (c == UInt8.ofNat 32) = b1 at *
  generalize (c == UInt8.ofNat 9) = b2 at *
  generalize (c == UInt8.ofNat 10) = b3 at *
  cases b1 <;> cases b2
  all_goals
    have e1 : ((c.toNat : Int) == 32) = _ := e1
    have e2 : ((c.toNat : Int) == 9) = _ := e2
    have e3 : ((c.toNat : Int) == 10) = _ := e3
    go_enter Try.func13, Try.ntmps13
    go_wp2
    go_ret
    exact ⟨by rw [F1.out]; simp, rfl⟩

set_option maxHeartbeats 1000000 in
theorem specWrapN_any (n slop : Nat) (s : ByteArray) (w : World) (hn : n ≤ 1048576) (hl : slop ≤ 1048576) (hs : s.size ≤ 2147483647) :
    Calls Try.prog 6 #[.int .i64 n, .int .i64 slop, .string s] w fun e w' => e = .returned (.tuple #[.string (wrapNF n slop s).1, .string (wrapNF n slop s).2]) ∧ Drawn w w' := by
  by_cases h1 : s.size < n + slop
  · have h1' : decide ((s.size : Int) < (n : Int) + (slop : Int)) = true := by simp; omega
    go_enter Try.func6, Try.ntmps6
    go_wp2_with fail
    go_ret2
    exact ⟨by simp [wrapNF, h1], Drawn.refl _⟩
  · have h1' : decide ((s.size : Int) < (n : Int) + (slop : Int)) = false := by simp; omega
    have HW := wrapNF_nat n slop s h1
    have HW' := Lib.hid HW
    clear HW
    go_enter Try.func6, Try.ntmps6
    go_wp2_with fail
    go_loop [8, 9, 10] (fun l f i => ∃ k : Nat, 1 ≤ k ∧ (k ≤ n ∨ k = 1) ∧ i = .int .i64 k ∧ l = .int .i64 (lastNat isBlank s k : Nat) ∧ f = .int .i64 (lastNat isFeed s k : Nat)) (fun _ _ i => n - (intOf i).toNat)
    case atStart =>
      exact ⟨1, Nat.le_refl _, Or.inr rfl, rfl, by rw [lastNat_one]; rfl, by rw [lastNat_one]; rfl⟩
    case round =>
      obtain ⟨k, k1, k2, rfl, rfl, rfl⟩ := hrel
      by_cases hlt : k < n
      · have hks : k < s.size := by omega
        have b1 : (k : Int) < (s.size : Int) := by omega
        have e3 : ((s[k].toNat : Int) == 10) = isFeed s[k] := beqByte s[k] 10 (by decide)
        cases hb : isBlank s[k] <;> cases hf : isFeed s[k]
        all_goals
          rw [hf] at e3
          have HB := Lib.hid hb
          have HF := Lib.hid hf
          clear hb hf
          go_wp2_with (go_at_call 13; refine (blank_any s[k] _).mono ?_; rintro e w' ⟨rfl, rfl⟩; rw [HB.out])
          go_round
          case rel => exact ⟨k + 1, by omega, by omega, by go_num, by first | rw [lastNat_yes _ s k hks HB.out] | rw [lastNat_no _ s k hks HB.out], by first | rw [lastNat_yes _ s k hks HF.out] | rw [lastNat_no _ s k hks HF.out]⟩
          case measure => simp [intOf]; omega
      · have lb1 := lastNat_lt isBlank s n
        have lf1 := lastNat_lt isFeed s n
        have eq1 : ∀ p, lastNat p s k = lastNat p s n := by
          intro p
          rcases k2 with h | h
          · rw [show k = n by omega]
          · subst h
            by_cases hn1 : n = 1
            · rw [hn1]
            · rw [show n = 0 by omega, lastNat_one, lastNat_zero]
        have eb := eq1 isBlank
        have ef := eq1 isFeed
        rw [eb, ef]
        clear eb ef eq1
        generalize lastNat isBlank s n = B at *
        generalize lastNat isFeed s n = F at *
        by_cases c1 : B = 0
        · have d1 : ((B : Int) == 0) = true := by rw [beq_iff_eq]; omega
          have c1' := Lib.hid c1
          clear c1
          go_wp2_with fail
          go_ret2
          exact ⟨by rw [HW'.out, if_pos c1'.out]; rfl, by repeat (first | exact Drawn.refl _ | assumption | apply Drawn.n | apply Drawn.one)⟩
        · have d1 : ((B : Int) == 0) = false := by rw [beq_eq_false_iff_ne]; omega
          have k1 : 0 < B := by omega
          have k2' : (B : Int) < (s.size : Int) := by omega
          by_cases c2 : 0 < F
          · have d2 : decide (0 < (F : Int)) = true := by rw [decide_eq_true_eq]; omega
            have k3' : (F : Int) < (s.size : Int) := by omega
            go_wp2_with fail
            go_quiet (fail)
            go_wp2_with fail
            go_ret2
            exact ⟨by rw [HW'.out, if_neg (by omega), if_pos (by omega)]; rfl, by repeat (first | exact Drawn.refl _ | assumption | apply Drawn.n | apply Drawn.one)⟩
          · have d2 : decide (0 < (F : Int)) = false := by rw [decide_eq_false_iff_not]; omega
            go_wp2_with fail
            go_quiet (fail)
            go_wp2_with fail
            go_ret2
            exact ⟨by rw [HW'.out, if_neg (by omega), if_neg (by omega)]; rfl, by repeat (first | exact Drawn.refl _ | assumption | apply Drawn.n | apply Drawn.one)⟩
end Go.Proofs.Ytbggmplmekmmgaa
