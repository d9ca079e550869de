/- The walks of byteAt, UnquoteUsage, impl.Unquote, spec.Unquote. -/
import Derived.Test.YtbggmplmekmmgaaBase
import Derived.Test.YtbggmplmekmmgaaUnqPlain
namespace Go.Proofs.Ytbggmplmekmmgaa
open Go.RowKit
set_option linter.unusedVariables false
set_option linter.unusedSimpArgs false

theorem beqByte (c : UInt8) (n : Nat) (hn : n < 256) : ((c.toNat : Int) == (n : Int)) = (c == UInt8.ofNat n) := by
  rw [Bool.eq_iff_iff]
  simp only [beq_iff_eq]
  constructor
  · intro h
    apply UInt8.toNat_inj.mp
    rw [UInt8.toNat_ofNat']
    omega
  · intro h
    rw [h, UInt8.toNat_ofNat']
    omega

theorem byteAt_any (s : ByteArray) (c : UInt8) (w : World) (hs : s.size ≤ 2147483647) :
    Calls Try.prog 15 #[.string s, .int .u8 c.toNat] w fun e w' => e = .returned (.int .i64 (firstFrom (fun b => b == c) s 0 : Nat)) ∧ w' = w := by
  go_enter Try.func15, Try.ntmps15
  go_wp2
  go_loop [5] (fun i => ∃ k : Nat, k ≤ s.size ∧ i = .int .i64 k ∧ firstFrom (fun b => b == c) s 0 = firstFrom (fun b => b == c) s k) (fun i => s.size - (intOf i).toNat)
  case atStart => exact ⟨0, Nat.zero_le _, rfl, rfl⟩
  case round =>
    obtain ⟨k, hk, rfl, hl⟩ := hrel
    have HL := Lib.hid hl
    clear hl
    by_cases hlt : k < s.size
    · by_cases hc : s[k] = c
      · have hh : ((s[k].toNat : Int) == (c.toNat : Int)) = true := by simp [hc]
        go_wp2
        go_ret
        exact ⟨by rw [HL.out, firstFrom_yes _ s k hlt (by simp [hc])]; rfl, rfl⟩
      · have hh : ((s[k].toNat : Int) == (c.toNat : Int)) = false := by
          rw [beq_eq_false_iff_ne]
          intro h
          exact hc (UInt8.toNat_inj.mp (by omega))
        have HC := Lib.hid hc
        clear hc
        go_wp2
        go_round
        case rel => exact ⟨k + 1, by omega, by go_num, by rw [HL.out, firstFrom_no _ s k hlt (by simp [HC.out])]⟩
        case measure => simp [intOf]; omega
    · go_wp2
      go_ret
      exact ⟨by rw [HL.out, firstFrom_end _ s k (by omega)]; rfl, rfl⟩

set_option maxHeartbeats 1000000 in
theorem unquoteUsage_any (kind u : ByteArray) (w : World) (b : Nat) (hu : u.size ≤ 2147483647)
    (h2 : w.cell? ⟨b, 2, none⟩ = some (.string u)) (h3 : w.cell? ⟨b, 3, none⟩ = some (.iface 34 (.string kind))) :
    Calls Try.prog 14 #[.pointer (some ⟨b, 0, none⟩)] w fun e w' => e = .returned (.tuple #[.string (unquoteF kind u).1, .string (unquoteF kind u).2]) ∧ Drawn w w' := by
  have hm : ∀ w, (method 166 34 (.string kind) "Type").run Try.prog w = .ok (40, .string kind) w := fun _ => by kernel_rfl
  go_enter Try.func14, Try.ntmps14
  go_wp2_with fail
  go_loopw [3, 4] (fun us i wr => Drawn w wr ∧ us = .string u ∧ ∃ k : Nat, k ≤ u.size ∧ i = .int .i64 k ∧ firstFrom isQuote u 0 = firstFrom isQuote u k) (fun _ i _ => u.size - (intOf i).toNat)
  case atStart => exact ⟨Drawn.refl _, rfl, 0, Nat.zero_le _, rfl, rfl⟩
  case round =>
    obtain ⟨⟨n0, rfl⟩, rfl, k, hk, rfl, hl⟩ := hrel
    have HL := Lib.hid hl
    clear hl
    by_cases hlt : k < u.size
    · have b1 : (k : Int) < (u.size : Int) := by omega
      cases hq : isQuote u[k] with
      | true =>
        have hh : ((u[k].toNat : Int) == 96) = true := (beqByte u[k] 96 (by decide)).trans hq
        have HF := Lib.hid (HL.out.trans (firstFrom_yes _ u k hlt hq))
        clear HL hq
        go_wp2_with fail
        go_loopw [3, 5] (fun us j wr => Drawn w wr ∧ us = .string u ∧ ∃ t : Nat, k + 1 ≤ t ∧ t ≤ u.size ∧ j = .int .i64 t ∧ firstFrom isQuote u (k + 1) = firstFrom isQuote u t) (fun _ j _ => u.size - (intOf j).toNat)
        case atStart => exact ⟨⟨_, rfl⟩, rfl, k + 1, by omega, by omega, by go_num, rfl⟩
        case round =>
          obtain ⟨⟨n1, rfl⟩, rfl, t, ht1, ht2, rfl, hl⟩ := hrel
          have HT := Lib.hid hl
          clear hl
          by_cases hlt2 : t < u.size
          · have b2 : (t : Int) < (u.size : Int) := by omega
            cases hq : isQuote u[t] with
            | true =>
              have hh : ((u[t].toNat : Int) == 96) = true := (beqByte u[t] 96 (by decide)).trans hq
              have hf := HT.out.trans (firstFrom_yes _ u t hlt2 hq)
              have hu2 : unquoteF kind u = (u.extract (k + 1) t, u.extract 0 k ++ u.extract (k + 1) t ++ u.extract (t + 1) u.size) := by
                rw [unquoteF, HF.out, if_pos hlt, hf, if_pos hlt2]
              have HU := Lib.hid hu2
              clear hu2 hf hq HT
              have b3 : (k : Int) + 1 ≤ (t : Int) := by omega
              go_wp2_with fail
              go_quiet (fail)
              go_wp2_with fail
              go_ret2
              exact ⟨by rw [HU.out]; rfl, by repeat (first | exact Drawn.refl _ | assumption | apply Drawn.n | apply Drawn.one)⟩
            | false =>
              have hh : ((u[t].toNat : Int) == 96) = false := (beqByte u[t] 96 (by decide)).trans hq
              have HQ := Lib.hid hq
              clear hq
              go_wp2_with fail
              go_roundw
              case rel => exact ⟨⟨_, rfl⟩, rfl, t + 1, by omega, by omega, by go_num, by rw [HT.out, firstFrom_no _ u t hlt2 HQ.out]⟩
              case measure => simp [intOf]; omega
          · have hu2 : unquoteF kind u = (wordOf kind, u) := by
              rw [unquoteF, HF.out, if_pos hlt, HT.out, if_neg (by rw [firstFrom_end _ u t (by omega)]; omega)]
            have HU := Lib.hid hu2
            clear hu2
            cases e0 : kind.toList == [98, 111, 111, 108] with
            | true =>
              have HW := Lib.hid (show wordOf kind = ⟨#[]⟩ from by simp only [wordOf, e0]; rfl)
              go_wp2_with (go_at_call 40; go_in)
              go_ret2
              exact ⟨by rw [HU.out, HW.out]; rfl, by repeat (first | exact Drawn.refl _ | assumption | apply Drawn.n | apply Drawn.one)⟩
            | false =>
              cases e1 : kind.toList == [98, 111, 111, 108, 102, 117, 110, 99] with
              | true =>
                have HW := Lib.hid (show wordOf kind = ⟨#[]⟩ from by simp only [wordOf, e0, e1]; rfl)
                go_wp2_with (go_at_call 40; go_in)
                go_ret2
                exact ⟨by rw [HU.out, HW.out]; rfl, by repeat (first | exact Drawn.refl _ | assumption | apply Drawn.n | apply Drawn.one)⟩
              | false =>
                cases e2 : kind.toList == [102, 117, 110, 99] with
                | true =>
                  have HW := Lib.hid (show wordOf kind = ⟨#[118, 97, 108, 117, 101]⟩ from by simp only [wordOf, e0, e1, e2]; rfl)
                  go_wp2_with (go_at_call 40; go_in)
                  go_ret2
                  exact ⟨by rw [HU.out, HW.out]; rfl, by repeat (first | exact Drawn.refl _ | assumption | apply Drawn.n | apply Drawn.one)⟩
                | false =>
                  cases e3 : kind.toList == [102, 108, 111, 97, 116, 54, 52] with
                  | true =>
                    have HW := Lib.hid (show wordOf kind = ⟨#[102, 108, 111, 97, 116]⟩ from by simp only [wordOf, e0, e1, e2, e3]; rfl)
                    go_wp2_with (go_at_call 40; go_in)
                    go_ret2
                    exact ⟨by rw [HU.out, HW.out]; rfl, by repeat (first | exact Drawn.refl _ | assumption | apply Drawn.n | apply Drawn.one)⟩
                  | false =>
                    cases e4 : kind.toList == [105, 110, 116, 54, 52] with
                    | true =>
                      have HW := Lib.hid (show wordOf kind = ⟨#[105, 110, 116]⟩ from by simp only [wordOf, e0, e1, e2, e3, e4]; rfl)
                      go_wp2_with (go_at_call 40; go_in)
                      go_ret2
                      exact ⟨by rw [HU.out, HW.out]; rfl, by repeat (first | exact Drawn.refl _ | assumption | apply Drawn.n | apply Drawn.one)⟩
                    | false =>
                      cases e5 : kind.toList == [117, 105, 110, 116, 54, 52] with
                      | true =>
                        have HW := Lib.hid (show wordOf kind = ⟨#[117, 105, 110, 116]⟩ from by simp only [wordOf, e0, e1, e2, e3, e4, e5]; rfl)
                        go_wp2_with (go_at_call 40; go_in)
                        go_ret2
                        exact ⟨by rw [HU.out, HW.out]; rfl, by repeat (first | exact Drawn.refl _ | assumption | apply Drawn.n | apply Drawn.one)⟩
                      | false =>
                        cases e6 : kind.toList == [115, 116, 114, 105, 110, 103, 83, 108, 105, 99, 101] with
                        | true =>
                          have HW := Lib.hid (show wordOf kind = ⟨#[115, 116, 114, 105, 110, 103, 115]⟩ from by simp only [wordOf, e0, e1, e2, e3, e4, e5, e6]; rfl)
                          go_wp2_with (go_at_call 40; go_in)
                          go_ret2
                          exact ⟨by rw [HU.out, HW.out]; rfl, by repeat (first | exact Drawn.refl _ | assumption | apply Drawn.n | apply Drawn.one)⟩
                        | false =>
                          cases e7 : kind.toList == [105, 110, 116, 83, 108, 105, 99, 101] with
                          | true =>
                            have HW := Lib.hid (show wordOf kind = ⟨#[105, 110, 116, 115]⟩ from by simp only [wordOf, e0, e1, e2, e3, e4, e5, e6, e7]; rfl)
                            go_wp2_with (go_at_call 40; go_in)
                            go_ret2
                            exact ⟨by rw [HU.out, HW.out]; rfl, by repeat (first | exact Drawn.refl _ | assumption | apply Drawn.n | apply Drawn.one)⟩
                          | false =>
                            cases e8 : kind.toList == [117, 105, 110, 116, 83, 108, 105, 99, 101] with
                            | true =>
                              have HW := Lib.hid (show wordOf kind = ⟨#[117, 105, 110, 116, 115]⟩ from by simp only [wordOf, e0, e1, e2, e3, e4, e5, e6, e7, e8]; rfl)
                              go_wp2_with (go_at_call 40; go_in)
                              go_ret2
                              exact ⟨by rw [HU.out, HW.out]; rfl, by repeat (first | exact Drawn.refl _ | assumption | apply Drawn.n | apply Drawn.one)⟩
                            | false =>
                              cases e9 : kind.toList == [98, 111, 111, 108, 83, 108, 105, 99, 101] with
                              | true =>
                                have HW := Lib.hid (show wordOf kind = ⟨#[98, 111, 111, 108, 115]⟩ from by simp only [wordOf, e0, e1, e2, e3, e4, e5, e6, e7, e8, e9]; rfl)
                                go_wp2_with (go_at_call 40; go_in)
                                go_ret2
                                exact ⟨by rw [HU.out, HW.out]; rfl, by repeat (first | exact Drawn.refl _ | assumption | apply Drawn.n | apply Drawn.one)⟩
                              | false =>
                                have HW := Lib.hid (show wordOf kind = kind from by simp only [wordOf, e0, e1, e2, e3, e4, e5, e6, e7, e8, e9]; rfl)
                                go_wp2_with (go_at_call 40; go_in)
                                go_ret2
                                exact ⟨by rw [HU.out, HW.out]; rfl, by repeat (first | exact Drawn.refl _ | assumption | apply Drawn.n | apply Drawn.one)⟩
      | false =>
        have hh : ((u[k].toNat : Int) == 96) = false := (beqByte u[k] 96 (by decide)).trans hq
        have HQ := Lib.hid hq
        clear hq
        go_wp2_with fail
        go_roundw
        case rel => exact ⟨⟨_, rfl⟩, rfl, k + 1, by omega, by go_num, by rw [HL.out, firstFrom_no _ u k hlt HQ.out]⟩
        case measure => simp [intOf]; omega
    · have hu2 : unquoteF kind u = (wordOf kind, u) := by
        rw [unquoteF, HL.out, if_neg (by rw [firstFrom_end _ u k (by omega)]; omega)]
      have HU := Lib.hid hu2
      clear hu2
      cases e0 : kind.toList == [98, 111, 111, 108] with
      | true =>
        have HW := Lib.hid (show wordOf kind = ⟨#[]⟩ from by simp only [wordOf, e0]; rfl)
        go_wp2_with (go_at_call 40; go_in)
        go_ret2
        exact ⟨by rw [HU.out, HW.out]; rfl, by repeat (first | exact Drawn.refl _ | assumption | apply Drawn.n | apply Drawn.one)⟩
      | false =>
        cases e1 : kind.toList == [98, 111, 111, 108, 102, 117, 110, 99] with
        | true =>
          have HW := Lib.hid (show wordOf kind = ⟨#[]⟩ from by simp only [wordOf, e0, e1]; rfl)
          go_wp2_with (go_at_call 40; go_in)
          go_ret2
          exact ⟨by rw [HU.out, HW.out]; rfl, by repeat (first | exact Drawn.refl _ | assumption | apply Drawn.n | apply Drawn.one)⟩
        | false =>
          cases e2 : kind.toList == [102, 117, 110, 99] with
          | true =>
            have HW := Lib.hid (show wordOf kind = ⟨#[118, 97, 108, 117, 101]⟩ from by simp only [wordOf, e0, e1, e2]; rfl)
            go_wp2_with (go_at_call 40; go_in)
            go_ret2
            exact ⟨by rw [HU.out, HW.out]; rfl, by repeat (first | exact Drawn.refl _ | assumption | apply Drawn.n | apply Drawn.one)⟩
          | false =>
            cases e3 : kind.toList == [102, 108, 111, 97, 116, 54, 52] with
            | true =>
              have HW := Lib.hid (show wordOf kind = ⟨#[102, 108, 111, 97, 116]⟩ from by simp only [wordOf, e0, e1, e2, e3]; rfl)
              go_wp2_with (go_at_call 40; go_in)
              go_ret2
              exact ⟨by rw [HU.out, HW.out]; rfl, by repeat (first | exact Drawn.refl _ | assumption | apply Drawn.n | apply Drawn.one)⟩
            | false =>
              cases e4 : kind.toList == [105, 110, 116, 54, 52] with
              | true =>
                have HW := Lib.hid (show wordOf kind = ⟨#[105, 110, 116]⟩ from by simp only [wordOf, e0, e1, e2, e3, e4]; rfl)
                go_wp2_with (go_at_call 40; go_in)
                go_ret2
                exact ⟨by rw [HU.out, HW.out]; rfl, by repeat (first | exact Drawn.refl _ | assumption | apply Drawn.n | apply Drawn.one)⟩
              | false =>
                cases e5 : kind.toList == [117, 105, 110, 116, 54, 52] with
                | true =>
                  have HW := Lib.hid (show wordOf kind = ⟨#[117, 105, 110, 116]⟩ from by simp only [wordOf, e0, e1, e2, e3, e4, e5]; rfl)
                  go_wp2_with (go_at_call 40; go_in)
                  go_ret2
                  exact ⟨by rw [HU.out, HW.out]; rfl, by repeat (first | exact Drawn.refl _ | assumption | apply Drawn.n | apply Drawn.one)⟩
                | false =>
                  cases e6 : kind.toList == [115, 116, 114, 105, 110, 103, 83, 108, 105, 99, 101] with
                  | true =>
                    have HW := Lib.hid (show wordOf kind = ⟨#[115, 116, 114, 105, 110, 103, 115]⟩ from by simp only [wordOf, e0, e1, e2, e3, e4, e5, e6]; rfl)
                    go_wp2_with (go_at_call 40; go_in)
                    go_ret2
                    exact ⟨by rw [HU.out, HW.out]; rfl, by repeat (first | exact Drawn.refl _ | assumption | apply Drawn.n | apply Drawn.one)⟩
                  | false =>
                    cases e7 : kind.toList == [105, 110, 116, 83, 108, 105, 99, 101] with
                    | true =>
                      have HW := Lib.hid (show wordOf kind = ⟨#[105, 110, 116, 115]⟩ from by simp only [wordOf, e0, e1, e2, e3, e4, e5, e6, e7]; rfl)
                      go_wp2_with (go_at_call 40; go_in)
                      go_ret2
                      exact ⟨by rw [HU.out, HW.out]; rfl, by repeat (first | exact Drawn.refl _ | assumption | apply Drawn.n | apply Drawn.one)⟩
                    | false =>
                      cases e8 : kind.toList == [117, 105, 110, 116, 83, 108, 105, 99, 101] with
                      | true =>
                        have HW := Lib.hid (show wordOf kind = ⟨#[117, 105, 110, 116, 115]⟩ from by simp only [wordOf, e0, e1, e2, e3, e4, e5, e6, e7, e8]; rfl)
                        go_wp2_with (go_at_call 40; go_in)
                        go_ret2
                        exact ⟨by rw [HU.out, HW.out]; rfl, by repeat (first | exact Drawn.refl _ | assumption | apply Drawn.n | apply Drawn.one)⟩
                      | false =>
                        cases e9 : kind.toList == [98, 111, 111, 108, 83, 108, 105, 99, 101] with
                        | true =>
                          have HW := Lib.hid (show wordOf kind = ⟨#[98, 111, 111, 108, 115]⟩ from by simp only [wordOf, e0, e1, e2, e3, e4, e5, e6, e7, e8, e9]; rfl)
                          go_wp2_with (go_at_call 40; go_in)
                          go_ret2
                          exact ⟨by rw [HU.out, HW.out]; rfl, by repeat (first | exact Drawn.refl _ | assumption | apply Drawn.n | apply Drawn.one)⟩
                        | false =>
                          have HW := Lib.hid (show wordOf kind = kind from by simp only [wordOf, e0, e1, e2, e3, e4, e5, e6, e7, e8, e9]; rfl)
                          go_wp2_with (go_at_call 40; go_in)
                          go_ret2
                          exact ⟨by rw [HU.out, HW.out]; rfl, by repeat (first | exact Drawn.refl _ | assumption | apply Drawn.n | apply Drawn.one)⟩
end Go.Proofs.Ytbggmplmekmmgaa
