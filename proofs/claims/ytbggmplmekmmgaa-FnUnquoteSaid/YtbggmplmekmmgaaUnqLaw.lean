/- The walks of impl.Unquote, spec.Unquote, and the statement FnUnquote. -/
import Derived.Test.YtbggmplmekmmgaaUnqWalks
namespace Go.Proofs.Ytbggmplmekmmgaa
open Go.RowKit
set_option linter.unusedVariables false
set_option linter.unusedSimpArgs false

theorem quote_any (s : ByteArray) (w : World) (hs : s.size ≤ 2147483647) :
    Calls Try.prog 15 #[.string s, .int .u8 96] w fun e w' => e = .returned (.int .i64 (firstFrom isQuote s 0 : Nat)) ∧ w' = w := byteAt_any s 96 w hs

set_option maxHeartbeats 1000000 in
theorem specUnquote_any (kind u : ByteArray) (w : World) (hu : u.size ≤ 2147483647) :
    Calls Try.prog 9 #[.string kind, .string u] w fun e w' => e = .returned (.tuple #[.string (unquoteF kind u).1, .string (unquoteF kind u).2]) ∧ Drawn w w' := by
  have l1 := firstFrom_le isQuote u 0
  go_enter Try.func9, Try.ntmps9
  go_wp2_with fail
  refine (quote_any u _ hu).mono ?_
  rintro e w1 ⟨rfl, rfl⟩
  have hF : unquoteF kind u = unquoteF kind u := rfl
  conv at hF => rhs; unfold unquoteF
  have HF := Lib.hid hF
  clear hF
  generalize firstFrom isQuote u 0 = i at *
  by_cases h1 : i < u.size
  · have b1 : (i : Int) < (u.size : Int) := by omega
    go_wp2_with fail
    have hz : (u.extract (i + 1) u.size).size ≤ 2147483647 := by rw [ByteArray.size_extract]; omega
    refine (quote_any (u.extract (i + 1) u.size) _ hz).mono ?_
    rintro e w1 ⟨rfl, rfl⟩
    have hq := firstFrom_extract isQuote u (i + 1) 0 (by omega)
    have l2 := firstFrom_le isQuote u (i + 1)
    rw [Nat.zero_add] at hq
    have hj : ∃ d, firstFrom isQuote (u.extract (i + 1) u.size) 0 = d ∧ firstFrom isQuote u (i + 1) = d + (i + 1) := ⟨_, rfl, hq.symm⟩
    clear hq
    obtain ⟨d, hd1, hd2⟩ := hj
    rw [hd2] at l2
    have HD2 := Lib.hid hd2
    clear hd2
    rw [hd1]
    clear hd1 hz
    by_cases h2 : d + (i + 1) < u.size
    · have b2 : (i : Int) + 1 + (d : Int) < (u.size : Int) := by omega
      have b3 : (i : Int) + 1 ≤ (i : Int) + 1 + (d : Int) := by omega
      have hu2 : unquoteF kind u = (u.extract (i + 1) (i + 1 + d), u.extract 0 i ++ u.extract (i + 1) (i + 1 + d) ++ u.extract (i + 1 + d + 1) u.size) := by
        rw [HF.out, HD2.out, if_pos h1, if_pos h2, show d + (i + 1) = i + 1 + d from by omega]
      have HU := Lib.hid hu2
      clear hu2
      go_wp2_with fail
      go_quiet (fail)
      go_wp2_with fail
      go_ret2
      exact ⟨by rw [HU.out]; rfl, by repeat (first | exact Drawn.refl _ | assumption | apply Drawn.n | apply Drawn.one)⟩
    · have hu2 : unquoteF kind u = (wordOf kind, u) := by
        rw [HF.out, HD2.out, if_pos h1, if_neg h2]
      have HU := Lib.hid hu2
      clear hu2
      have b2 : ¬ (i : Int) + 1 + (d : Int) < (u.size : Int) := by omega
      cases e0 : kind.toList == [98, 111, 111, 108] with
      | true =>
        have HW := Lib.hid (show wordOf kind = ⟨#[]⟩ from by simp only [wordOf, e0]; rfl)
        go_wp2_with fail
        go_ret2
        exact ⟨by rw [HU.out, HW.out]; rfl, by repeat (first | exact Drawn.refl _ | assumption | apply Drawn.n | apply Drawn.one)⟩
      | false =>
        cases e1 : kind.toList == [98, 111, 111, 108, 102, 117, 110, 99] with
        | true =>
          have HW := Lib.hid (show wordOf kind = ⟨#[]⟩ from by simp only [wordOf, e0, e1]; rfl)
          go_wp2_with fail
          go_ret2
          exact ⟨by rw [HU.out, HW.out]; rfl, by repeat (first | exact Drawn.refl _ | assumption | apply Drawn.n | apply Drawn.one)⟩
        | false =>
          cases e2 : kind.toList == [102, 117, 110, 99] with
          | true =>
            have HW := Lib.hid (show wordOf kind = ⟨#[118, 97, 108, 117, 101]⟩ from by simp only [wordOf, e0, e1, e2]; rfl)
            go_wp2_with fail
            go_ret2
            exact ⟨by rw [HU.out, HW.out]; rfl, by repeat (first | exact Drawn.refl _ | assumption | apply Drawn.n | apply Drawn.one)⟩
          | false =>
            cases e3 : kind.toList == [102, 108, 111, 97, 116, 54, 52] with
            | true =>
              have HW := Lib.hid (show wordOf kind = ⟨#[102, 108, 111, 97, 116]⟩ from by simp only [wordOf, e0, e1, e2, e3]; rfl)
              go_wp2_with fail
              go_ret2
              exact ⟨by rw [HU.out, HW.out]; rfl, by repeat (first | exact Drawn.refl _ | assumption | apply Drawn.n | apply Drawn.one)⟩
            | false =>
              cases e4 : kind.toList == [105, 110, 116, 54, 52] with
              | true =>
                have HW := Lib.hid (show wordOf kind = ⟨#[105, 110, 116]⟩ from by simp only [wordOf, e0, e1, e2, e3, e4]; rfl)
                go_wp2_with fail
                go_ret2
                exact ⟨by rw [HU.out, HW.out]; rfl, by repeat (first | exact Drawn.refl _ | assumption | apply Drawn.n | apply Drawn.one)⟩
              | false =>
                cases e5 : kind.toList == [117, 105, 110, 116, 54, 52] with
                | true =>
                  have HW := Lib.hid (show wordOf kind = ⟨#[117, 105, 110, 116]⟩ from by simp only [wordOf, e0, e1, e2, e3, e4, e5]; rfl)
                  go_wp2_with fail
                  go_ret2
                  exact ⟨by rw [HU.out, HW.out]; rfl, by repeat (first | exact Drawn.refl _ | assumption | apply Drawn.n | apply Drawn.one)⟩
                | false =>
                  cases e6 : kind.toList == [115, 116, 114, 105, 110, 103, 83, 108, 105, 99, 101] with
                  | true =>
                    have HW := Lib.hid (show wordOf kind = ⟨#[115, 116, 114, 105, 110, 103, 115]⟩ from by simp only [wordOf, e0, e1, e2, e3, e4, e5, e6]; rfl)
                    go_wp2_with fail
                    go_ret2
                    exact ⟨by rw [HU.out, HW.out]; rfl, by repeat (first | exact Drawn.refl _ | assumption | apply Drawn.n | apply Drawn.one)⟩
                  | false =>
                    cases e7 : kind.toList == [105, 110, 116, 83, 108, 105, 99, 101] with
                    | true =>
                      have HW := Lib.hid (show wordOf kind = ⟨#[105, 110, 116, 115]⟩ from by simp only [wordOf, e0, e1, e2, e3, e4, e5, e6, e7]; rfl)
                      go_wp2_with fail
                      go_ret2
                      exact ⟨by rw [HU.out, HW.out]; rfl, by repeat (first | exact Drawn.refl _ | assumption | apply Drawn.n | apply Drawn.one)⟩
                    | false =>
                      cases e8 : kind.toList == [117, 105, 110, 116, 83, 108, 105, 99, 101] with
                      | true =>
                        have HW := Lib.hid (show wordOf kind = ⟨#[117, 105, 110, 116, 115]⟩ from by simp only [wordOf, e0, e1, e2, e3, e4, e5, e6, e7, e8]; rfl)
                        go_wp2_with fail
                        go_ret2
                        exact ⟨by rw [HU.out, HW.out]; rfl, by repeat (first | exact Drawn.refl _ | assumption | apply Drawn.n | apply Drawn.one)⟩
                      | false =>
                        cases e9 : kind.toList == [98, 111, 111, 108, 83, 108, 105, 99, 101] with
                        | true =>
                          have HW := Lib.hid (show wordOf kind = ⟨#[98, 111, 111, 108, 115]⟩ from by simp only [wordOf, e0, e1, e2, e3, e4, e5, e6, e7, e8, e9]; rfl)
                          go_wp2_with fail
                          go_ret2
                          exact ⟨by rw [HU.out, HW.out]; rfl, by repeat (first | exact Drawn.refl _ | assumption | apply Drawn.n | apply Drawn.one)⟩
                        | false =>
                          have HW := Lib.hid (show wordOf kind = kind from by simp only [wordOf, e0, e1, e2, e3, e4, e5, e6, e7, e8, e9]; rfl)
                          go_wp2_with fail
                          go_ret2
                          exact ⟨by rw [HU.out, HW.out]; rfl, by repeat (first | exact Drawn.refl _ | assumption | apply Drawn.n | apply Drawn.one)⟩
  · have hu2 : unquoteF kind u = (wordOf kind, u) := by
      rw [HF.out, if_neg h1]
    have HU := Lib.hid hu2
    clear hu2
    cases e0 : kind.toList == [98, 111, 111, 108] with
    | true =>
      have HW := Lib.hid (show wordOf kind = ⟨#[]⟩ from by simp only [wordOf, e0]; rfl)
      go_wp2_with fail
      go_ret2
      exact ⟨by rw [HU.out, HW.out]; rfl, by repeat (first | exact Drawn.refl _ | assumption | apply Drawn.n | apply Drawn.one)⟩
    | false =>
      cases e1 : kind.toList == [98, 111, 111, 108, 102, 117, 110, 99] with
      | true =>
        have HW := Lib.hid (show wordOf kind = ⟨#[]⟩ from by simp only [wordOf, e0, e1]; rfl)
        go_wp2_with fail
        go_ret2
        exact ⟨by rw [HU.out, HW.out]; rfl, by repeat (first | exact Drawn.refl _ | assumption | apply Drawn.n | apply Drawn.one)⟩
      | false =>
        cases e2 : kind.toList == [102, 117, 110, 99] with
        | true =>
          have HW := Lib.hid (show wordOf kind = ⟨#[118, 97, 108, 117, 101]⟩ from by simp only [wordOf, e0, e1, e2]; rfl)
          go_wp2_with fail
          go_ret2
          exact ⟨by rw [HU.out, HW.out]; rfl, by repeat (first | exact Drawn.refl _ | assumption | apply Drawn.n | apply Drawn.one)⟩
        | false =>
          cases e3 : kind.toList == [102, 108, 111, 97, 116, 54, 52] with
          | true =>
            have HW := Lib.hid (show wordOf kind = ⟨#[102, 108, 111, 97, 116]⟩ from by simp only [wordOf, e0, e1, e2, e3]; rfl)
            go_wp2_with fail
            go_ret2
            exact ⟨by rw [HU.out, HW.out]; rfl, by repeat (first | exact Drawn.refl _ | assumption | apply Drawn.n | apply Drawn.one)⟩
          | false =>
            cases e4 : kind.toList == [105, 110, 116, 54, 52] with
            | true =>
              have HW := Lib.hid (show wordOf kind = ⟨#[105, 110, 116]⟩ from by simp only [wordOf, e0, e1, e2, e3, e4]; rfl)
              go_wp2_with fail
              go_ret2
              exact ⟨by rw [HU.out, HW.out]; rfl, by repeat (first | exact Drawn.refl _ | assumption | apply Drawn.n | apply Drawn.one)⟩
            | false =>
              cases e5 : kind.toList == [117, 105, 110, 116, 54, 52] with
              | true =>
                have HW := Lib.hid (show wordOf kind = ⟨#[117, 105, 110, 116]⟩ from by simp only [wordOf, e0, e1, e2, e3, e4, e5]; rfl)
                go_wp2_with fail
                go_ret2
                exact ⟨by rw [HU.out, HW.out]; rfl, by repeat (first | exact Drawn.refl _ | assumption | apply Drawn.n | apply Drawn.one)⟩
              | false =>
                cases e6 : kind.toList == [115, 116, 114, 105, 110, 103, 83, 108, 105, 99, 101] with
                | true =>
                  have HW := Lib.hid (show wordOf kind = ⟨#[115, 116, 114, 105, 110, 103, 115]⟩ from by simp only [wordOf, e0, e1, e2, e3, e4, e5, e6]; rfl)
                  go_wp2_with fail
                  go_ret2
                  exact ⟨by rw [HU.out, HW.out]; rfl, by repeat (first | exact Drawn.refl _ | assumption | apply Drawn.n | apply Drawn.one)⟩
                | false =>
                  cases e7 : kind.toList == [105, 110, 116, 83, 108, 105, 99, 101] with
                  | true =>
                    have HW := Lib.hid (show wordOf kind = ⟨#[105, 110, 116, 115]⟩ from by simp only [wordOf, e0, e1, e2, e3, e4, e5, e6, e7]; rfl)
                    go_wp2_with fail
                    go_ret2
                    exact ⟨by rw [HU.out, HW.out]; rfl, by repeat (first | exact Drawn.refl _ | assumption | apply Drawn.n | apply Drawn.one)⟩
                  | false =>
                    cases e8 : kind.toList == [117, 105, 110, 116, 83, 108, 105, 99, 101] with
                    | true =>
                      have HW := Lib.hid (show wordOf kind = ⟨#[117, 105, 110, 116, 115]⟩ from by simp only [wordOf, e0, e1, e2, e3, e4, e5, e6, e7, e8]; rfl)
                      go_wp2_with fail
                      go_ret2
                      exact ⟨by rw [HU.out, HW.out]; rfl, by repeat (first | exact Drawn.refl _ | assumption | apply Drawn.n | apply Drawn.one)⟩
                    | false =>
                      cases e9 : kind.toList == [98, 111, 111, 108, 83, 108, 105, 99, 101] with
                      | true =>
                        have HW := Lib.hid (show wordOf kind = ⟨#[98, 111, 111, 108, 115]⟩ from by simp only [wordOf, e0, e1, e2, e3, e4, e5, e6, e7, e8, e9]; rfl)
                        go_wp2_with fail
                        go_ret2
                        exact ⟨by rw [HU.out, HW.out]; rfl, by repeat (first | exact Drawn.refl _ | assumption | apply Drawn.n | apply Drawn.one)⟩
                      | false =>
                        have HW := Lib.hid (show wordOf kind = kind from by simp only [wordOf, e0, e1, e2, e3, e4, e5, e6, e7, e8, e9]; rfl)
                        go_wp2_with fail
                        go_ret2
                        exact ⟨by rw [HU.out, HW.out]; rfl, by repeat (first | exact Drawn.refl _ | assumption | apply Drawn.n | apply Drawn.one)⟩

theorem implUnquote_any (kind u : ByteArray) (w : World) (hu : u.size ≤ 2147483647) :
    Calls Try.prog 8 #[.string kind, .string u] w fun e w' => e = .returned (.tuple #[.string (unquoteF kind u).1, .string (unquoteF kind u).2]) ∧ Below w.heap.size w w' := by
  go_enter Try.func8, Try.ntmps8
  go_wp2_with fail
  refine (unquoteUsage_any kind u _ _ hu ?_ ?_).mono ?_
  · simp [go_sem]
  · simp [go_sem]
  rintro e w1 ⟨rfl, ⟨m, rfl⟩⟩
  go_wp2_with fail
  go_ret2
  exact ⟨rfl, by (repeat (first | (with_reducible exact Below.refl _ _) | (with_reducible assumption) | ((with_reducible refine Below.alloc ?_ ?_ _); rotate_left; focus ((try simp only [World.size_alloc, size_setCell, World.heap_drewN]); (try omega); done)) | ((with_reducible refine Below.setCell ?_ ?_ _); rotate_left; focus ((try simp only [World.size_alloc, size_setCell, World.heap_drewN]); (try omega); done)) | (with_reducible refine Below.drewN' ?_) | (with_reducible refine Below.drew ?_)))⟩

theorem fnUnquote_walk (kind : ByteArray) (hk : kind.size ≤ maxLen) (u : ByteArray) (hu : u.size ≤ maxLen) (w : World) :
    Calls Try.prog 4 #[.string kind, .string u] w fun e w' => e = .returned (.bool true) ∧ Below w.heap.size w w' := by
  unfold maxLen at hk hu
  by_cases c0 : 2147483647 < kind.size
  · have d0 : decide (2147483647 < (kind.size : Int)) = true := by rw [decide_eq_true_eq]; omega
    go_enter Try.func4, Try.ntmps4
    go_wp2_with fail
    go_ret
    exact ⟨rfl, Below.refl _ _⟩
  have d0 : decide (2147483647 < (kind.size : Int)) = false := by rw [decide_eq_false_iff_not]; omega
  by_cases c1 : 2147483647 < u.size
  · have d1 : decide (2147483647 < (u.size : Int)) = true := by rw [decide_eq_true_eq]; omega
    go_enter Try.func4, Try.ntmps4
    go_wp2_with fail
    go_ret
    exact ⟨rfl, Below.refl _ _⟩
  have d1 : decide (2147483647 < (u.size : Int)) = false := by rw [decide_eq_false_iff_not]; omega
  go_enter Try.func4, Try.ntmps4
  go_wp2_with fail
  refine (fits14_any _ [[kind, u]] _ (StrRows.made1 (v := .slice (some ⟨w.heap.size, 0, none⟩) 2 2) (ty := 26) (fz := (0, 0)) 1 ?_ (Strs.made (b := w.heap.size) [kind, u] 2 (ty := 9) (fz := (0, 0)) ?_)) (by simp) (by simp; omega)).mono ?_
  · (repeat (first | (with_reducible assumption) | ((with_reducible refine heap_past' ?_ ?_); focus ((try simp only [World.size_alloc, size_setCell, World.heap_drewN]); (try omega); done)) | ((with_reducible refine heap_at _ _ _ ?_); focus ((try simp only [World.size_alloc, size_setCell, World.heap_drewN]); (try omega); done)) | ((with_reducible refine heap_ne' ?_ ?_); focus ((try simp only [World.size_alloc, size_setCell, World.heap_drewN]); (try omega); done)) | (with_reducible refine heap_drew' ?_)))
  · (repeat (first | (with_reducible assumption) | ((with_reducible refine heap_past' ?_ ?_); focus ((try simp only [World.size_alloc, size_setCell, World.heap_drewN]); (try omega); done)) | ((with_reducible refine heap_at _ _ _ ?_); focus ((try simp only [World.size_alloc, size_setCell, World.heap_drewN]); (try omega); done)) | ((with_reducible refine heap_ne' ?_ ?_); focus ((try simp only [World.size_alloc, size_setCell, World.heap_drewN]); (try omega); done)) | (with_reducible refine heap_drew' ?_)))
    exact heap_at _ _ _ rfl
  rintro e w1 ⟨rfl, rfl⟩
  cases hf : fitsF [[kind, u]] with
  | false =>
    go_wp2_with fail
    go_ret
    exact ⟨rfl, by (repeat (first | (with_reducible exact Below.refl _ _) | (with_reducible assumption) | ((with_reducible refine Below.alloc ?_ ?_ _); rotate_left; focus ((try simp only [World.size_alloc, size_setCell, World.heap_drewN]); (try omega); done)) | ((with_reducible refine Below.setCell ?_ ?_ _); rotate_left; focus ((try simp only [World.size_alloc, size_setCell, World.heap_drewN]); (try omega); done)) | (with_reducible refine Below.drewN' ?_) | (with_reducible refine Below.drew ?_)))⟩
  | true =>
    go_wp2_with fail
    refine (implUnquote_any kind u _ (by omega)).mono ?_
    rintro e w1 ⟨rfl, hb1⟩
    go_wp2_with fail
    refine (specUnquote_any kind u _ (by omega)).mono ?_
    rintro e w2 ⟨rfl, ⟨m, rfl⟩⟩
    generalize unquoteF kind u = r
    go_wp2_with fail
    go_ret
    exact ⟨by simp, Below.drewN' (Below.trans (by (repeat (first | (with_reducible exact Below.refl _ _) | (with_reducible assumption) | ((with_reducible refine Below.alloc ?_ ?_ _); rotate_left; focus ((try simp only [World.size_alloc, size_setCell, World.heap_drewN]); (try omega); done)) | ((with_reducible refine Below.setCell ?_ ?_ _); rotate_left; focus ((try simp only [World.size_alloc, size_setCell, World.heap_drewN]); (try omega); done)) | (with_reducible refine Below.drewN' ?_) | (with_reducible refine Below.drew ?_)))) (hb1.mono (by simp; omega)))⟩
end Go.Proofs.Ytbggmplmekmmgaa
