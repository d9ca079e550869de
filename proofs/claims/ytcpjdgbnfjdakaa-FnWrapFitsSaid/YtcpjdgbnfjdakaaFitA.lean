/- The walks of wrapN and what it calls (at the seat of FnWrapFits), and of spec.Blank. -/
import Derived.Test.YtcpjdgbnfjdakaaGuard
import Derived.Test.YtcpjdgbnfjdakaaWrapPlain
namespace Go.Proofs.Ytcpjdgbnfjdakaa
open Go.RowKit
set_option linter.unusedVariables false
set_option linter.unusedSimpArgs false

theorem lastByte_any (s : ByteArray) (c : UInt8) (w : World) (hs : s.size ≤ maxLen) :
    Calls Try.prog 128 #[.string s, .int .u8 c.toNat] w fun e w' => e = .returned (.int .i64 (lastFrom (fun b => b == c) s s.size)) ∧ w' = w := by
  unfold maxLen at hs
  go_enter Try.func128, Try.ntmps128
  go_wp2
  go_loop [5] (fun i => ∃ k : Nat, k ≤ s.size ∧ i = .int .i64 ((k : Int) - 1) ∧ lastFrom (fun b => b == c) s s.size = lastFrom (fun b => b == c) s k) (fun i => (intOf i + 1).toNat)
  case atStart => exact ⟨s.size, Nat.le_refl _, rfl, rfl⟩
  case round =>
    obtain ⟨k, hk, rfl, hl⟩ := hrel
    have HL := Lib.hid hl
    clear hl
    cases k with
    | zero =>
      go_wp2
      go_ret
      exact ⟨by rw [HL.out]; rfl, rfl⟩
    | succ k =>
      have e1 : (((k + 1 : Nat) : Int) - 1) = (k : Int) := by omega
      rw [e1]
      by_cases hc : s[k] = c
      · have hh : ((s[k].toNat : Int) == (c.toNat : Int)) = true := by simp [hc]
        go_wp2
        go_ret
        exact ⟨by rw [HL.out, lastFrom_yes _ s k (by omega) (by simp [hc])]; rfl, rfl⟩
      · have hh : ((s[k].toNat : Int) == (c.toNat : Int)) = false := by
          rw [beq_eq_false_iff_ne]
          intro h
          exact hc (UInt8.toNat_inj.mp (by omega))
        go_wp2
        go_round
        case rel => exact ⟨k, by omega, rfl, by rw [HL.out, lastFrom_no _ s k (by omega) (by simp [hc])]⟩
        case measure => simp [intOf]

theorem setIs_snoc (s : ByteArray) (b : UInt8) (k : Nat) (h : k < s.size) (hn : ∀ t (ht : t < s.size), t < k → s[t] ≠ b) (hk : s[k] ≠ b) : ∀ t (ht : t < s.size), t < k + 1 → s[t] ≠ b := by
  intro t ht hlt
  by_cases e : t = k
  · subst e; exact hk
  · exact hn t ht (by omega)

/-- A byte is one of a set's. -/
def inSet (set : ByteArray) (b : UInt8) : Bool := decide (∃ t, ∃ h : t < set.size, set[t] = b)

set_option maxHeartbeats 800000 in
theorem lastAny_any (s set : ByteArray) (w : World) (hs : s.size ≤ maxLen) (ht : set.size ≤ maxLen) :
    Calls Try.prog 120 #[.string s, .string set] w fun e w' => e = .returned (.int .i64 (lastFrom (inSet set) s s.size)) ∧ Drawn w w' := by
  unfold maxLen at hs ht
  go_enter Try.func120, Try.ntmps120
  go_wp2
  go_loopw [5, 6] (fun i _ wr => (∃ n, wr = w.drewN n) ∧ ∃ k : Nat, k ≤ s.size ∧ i = .int .i64 ((k : Int) - 1) ∧ lastFrom (inSet set) s s.size = lastFrom (inSet set) s k) (fun i _ _ => (intOf i + 1).toNat)
  case atStart => exact ⟨⟨0, rfl⟩, s.size, Nat.le_refl _, rfl, rfl⟩
  case round =>
    obtain ⟨⟨n, rfl⟩, k, hk, rfl, hl⟩ := hrel
    have HL := Lib.hid hl
    clear hl
    cases k with
    | zero =>
      go_wp2
      go_ret
      exact ⟨by rw [HL.out]; rfl, ⟨_, rfl⟩⟩
    | succ k =>
      have e1 : (((k + 1 : Nat) : Int) - 1) = (k : Int) := by omega
      rw [e1]
      go_wp2
      obtain ⟨wo, hwo⟩ : ∃ wo : World, wo = w.drewN n := ⟨_, rfl⟩
      go_loopw [6] (fun j wr => (∃ n, wr = w.drewN n) ∧ ∃ t : Nat, t ≤ set.size ∧ j = .int .i64 t ∧ ∀ u (hu : u < set.size), u < t → set[u] ≠ s[k]) (fun j _ => set.size - (intOf j).toNat)
      case atStart => exact ⟨⟨n, rfl⟩, 0, Nat.zero_le _, rfl, fun _ _ h => absurd h (Nat.not_lt_zero _)⟩
      case round =>
        clear hwo
        obtain ⟨⟨m, rfl⟩, t, htt, rfl, hn⟩ := hrel
        have HN := Lib.hid hn
        clear hn
        by_cases hlt : t < set.size
        · by_cases hc : s[k] = set[t]
          · have hh : ((s[k].toNat : Int) == (set[t].toNat : Int)) = true := by simp [hc]
            go_wp2
            go_quiet (fail)
            go_wp2
            go_ret
            exact ⟨by rw [HL.out, lastFrom_yes _ s k (by omega) (decide_eq_true ⟨t, hlt, hc.symm⟩)]; rfl, by repeat (first | exact Drawn.refl _ | assumption | apply Drawn.n | apply Drawn.one)⟩
          · have hh : ((s[k].toNat : Int) == (set[t].toNat : Int)) = false := by
              rw [beq_eq_false_iff_ne]
              intro h
              exact hc (UInt8.toNat_inj.mp (by omega))
            have HC := Lib.hid hc
            clear hc
            have b1 : (k : Int) < (s.size : Int) := by omega
            have b2 : (t : Int) < (set.size : Int) := by omega
            go_wp2
            go_quiet (fail)
            go_wp2
            go_roundw
            case rel => exact ⟨⟨_, rfl⟩, t + 1, by omega, by go_num, fun u hu hlu => by
              by_cases e : u = t
              · subst e; exact fun h => HC.out h.symm
              · exact HN.out u hu (by omega)⟩
            case measure => simp [intOf]; omega
        · go_wp2
          go_roundw
          case rel => exact ⟨⟨_, rfl⟩, k, by omega, rfl, by rw [HL.out, lastFrom_no _ s k (by omega) (decide_eq_false (fun ⟨u, hu, e⟩ => HN.out u hu (by omega) e))]⟩
          case measure => simp [intOf]

theorem inSet_blank (b : UInt8) : inSet ⟨#[32, 9, 10]⟩ b = isBlank b := by
  rw [Bool.eq_iff_iff]
  simp only [inSet, isBlank, decide_eq_true_eq, Bool.or_eq_true, beq_iff_eq]
  constructor
  · rintro ⟨t, h, e⟩
    have : t < 3 := h
    match t, h, e with
    | 0, _, e => exact Or.inl (Or.inl e.symm)
    | 1, _, e => exact Or.inl (Or.inr e.symm)
    | 2, _, e => exact Or.inr e.symm
  · rintro ((e | e) | e)
    · exact ⟨0, by decide, e.symm⟩
    · exact ⟨1, by decide, e.symm⟩
    · exact ⟨2, by decide, e.symm⟩

theorem lastFeed_any (s : ByteArray) (w : World) (hs : s.size ≤ maxLen) :
    Calls Try.prog 121 #[.string s, .string ⟨#[10]⟩] w fun e w' => e = .returned (.int .i64 (lastFrom isFeed s s.size)) ∧ w' = w := by
  have h10 := fun w => lastByte_any s 10 w hs
  have e10 : (fun b : UInt8 => b == 10) = isFeed := rfl
  simp only [e10] at h10
  unfold maxLen at hs
  go_enter Try.func121, Try.ntmps121
  go_wp2_with fail
  refine (h10 _).mono ?_
  rintro e w' ⟨rfl, rfl⟩
  go_wp2_with fail
  go_ret
  exact ⟨rfl, rfl⟩

set_option maxHeartbeats 800000 in
theorem wrapN_any (n slop : Nat) (s : ByteArray) (w : World) (hn : n ≤ 1048576) (hl : slop ≤ 1048576) (hs : s.size ≤ 2147483647) :
    Calls Try.prog 110 #[.int .i64 n, .int .i64 slop, .string s] w fun e w' => e = .returned (.tuple #[.string (wrapNF n slop s).1, .string (wrapNF n slop s).2]) ∧ Drawn w w' := by
  by_cases h1 : s.size < n + slop
  · have h1' : decide ((s.size : Int) < (n : Int) + (slop : Int)) = true := by simp; omega
    go_enter Try.func110, Try.ntmps110
    go_wp2_with fail
    go_ret2
    exact ⟨by simp [wrapNF, h1], Drawn.refl _⟩
  · have h1' : decide ((s.size : Int) < (n : Int) + (slop : Int)) = false := by simp; omega
    go_enter Try.func110, Try.ntmps110
    go_wp2_with fail
    have hz : (s.extract 0 n).size = n := by rw [ByteArray.size_extract]; omega
    refine (lastAny_any (s.extract 0 n) _ _ (by unfold maxLen; omega) (by decide)).mono ?_
    rintro e w1 ⟨rfl, ⟨n1, rfl⟩⟩
    have hb : lastFrom (inSet ⟨#[32, 9, 10]⟩) (s.extract 0 n) (s.extract 0 n).size = lastFrom isBlank s n := by
      rw [hz, lastFrom_congr (inSet ⟨#[32, 9, 10]⟩) isBlank (s.extract 0 n) (s.extract 0 n) n (by omega) (by omega) (fun i a b c => inSet_blank _), lastFrom_extract _ _ _ (by omega)]
    rw [hb]
    have hf : lastFrom isFeed (s.extract 0 n) (s.extract 0 n).size = lastFrom isFeed s n := by
      rw [hz, lastFrom_extract _ _ _ (by omega)]
    have b1 := lastFrom_ge isFeed s n
    have b2 := lastFrom_lt isBlank s n
    have b3 : lastFrom isFeed s n ≤ lastFrom isBlank s n := lastFrom_mono _ _ s n (fun b h => by simp [isFeed, isBlank] at *; exact Or.inr h)
    clear hb
    have HW : wrapNF n slop s = if lastFrom isBlank s n ≤ 0 then (s, ⟨#[]⟩) else if 0 < lastFrom isFeed s n then cutAt s (lastFrom isFeed s n) else cutAt s (lastFrom isBlank s n) := by rw [wrapNF, if_neg h1]
    have HW' := Lib.hid HW
    clear HW
    have HF := Lib.hid hf
    clear hf
    generalize lastFrom isBlank s n = B at *
    by_cases c1 : B ≤ 0
    · have d1 : decide (B ≤ 0) = true := decide_eq_true c1
      go_wp2_with fail
      go_ret2
      exact ⟨by rw [HW'.out, if_pos c1]; rfl, by repeat (first | exact Drawn.refl _ | assumption | apply Drawn.n | apply Drawn.one)⟩
    · have d1 : decide (B ≤ 0) = false := decide_eq_false c1
      go_wp2_with fail
      refine (lastFeed_any (s.extract 0 n) _ (by unfold maxLen; omega)).mono ?_
      rintro e w2 ⟨rfl, rfl⟩
      rw [HF.out]
      generalize lastFrom isFeed s n = F at *
      have k1 : 0 ≤ B := by omega
      have k2 : B < (s.size : Int) := by omega
      by_cases c2 : 0 < F
      · have d2 : decide (0 < F) = true := decide_eq_true c2
        by_cases c3 : F < B
        · have d3 : decide (F < B) = true := decide_eq_true c3
          go_wp2_with fail
          go_quiet (fail)
          go_wp2_with fail
          go_ret2
          exact ⟨by rw [HW'.out, if_neg (by omega), if_pos (by omega)]; rfl, by repeat (first | exact Drawn.refl _ | assumption | apply Drawn.n | apply Drawn.one)⟩
        · have d3 : decide (F < B) = false := decide_eq_false c3
          have e3 : F = B := by omega
          go_wp2_with fail
          go_quiet (fail)
          go_wp2_with fail
          go_ret2
          exact ⟨by rw [HW'.out, if_neg (by omega), if_pos (by omega), e3]; rfl, by repeat (first | exact Drawn.refl _ | assumption | apply Drawn.n | apply Drawn.one)⟩
      · have d2 : decide (0 < F) = false := decide_eq_false c2
        go_wp2_with fail
        go_quiet (fail)
        go_wp2_with fail
        go_ret2
        exact ⟨by rw [HW'.out, if_neg (by omega), if_neg (by omega)]; rfl, by repeat (first | exact Drawn.refl _ | assumption | apply Drawn.n | apply Drawn.one)⟩
theorem beqByteW (c : UInt8) (n : Nat) (hn : n < 256) : ((c.toNat : Int) == (n : Int)) = (c == UInt8.ofNat n) := by
  rw [Bool.eq_iff_iff]
  simp only [beq_iff_eq]
  constructor
  · intro h
    apply UInt8.toNat_inj.mp
    rw [UInt8.toNat_ofNat']
    omega
  · intro h
    rw [h, UInt8.toNat_ofNat']
    omega

theorem blankW_any (c : UInt8) (w : World) :
    Calls Try.prog 43 #[.int .u8 c.toNat] w fun e w' => e = .returned (.bool (isBlank c)) ∧ w' = w := by
  have e1 := beqByteW c 32 (by decide)
  have e2 := beqByteW c 9 (by decide)
  have e3 := beqByteW c 10 (by decide)
  have f1 : isBlank c = ((c == UInt8.ofNat 32) || (c == UInt8.ofNat 9) || (c == UInt8.ofNat 10)) := rfl
  have F1 := Lib.hid f1
  clear f1
  generalize (c == UInt8.ofNat 32) = b1 at *
  generalize (c == UInt8.ofNat 9) = b2 at *
  generalize (c == UInt8.ofNat 10) = b3 at *
  cases b1 <;> cases b2
  all_goals
    have e1 : ((c.toNat : Int) == 32) = _ := e1
    have e2 : ((c.toNat : Int) == 9) = _ := e2
    have e3 : ((c.toNat : Int) == 10) = _ := e3
    go_enter Try.func43, Try.ntmps43
    go_wp2
    go_ret
    exact ⟨by rw [F1.out]; simp, rfl⟩

end Go.Proofs.Ytcpjdgbnfjdakaa
