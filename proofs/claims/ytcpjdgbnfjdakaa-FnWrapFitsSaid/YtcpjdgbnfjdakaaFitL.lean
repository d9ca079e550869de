/- The walks of impl.Wrap, wraps14, and of the law FnWrapFits. (Printed by gen_fit.py.) -/
import Derived.Test.YtcpjdgbnfjdakaaFitV
import Derived.Test.YtcpjdgbnfjdakaaLives
namespace Go.Proofs.Ytcpjdgbnfjdakaa
open Go.RowKit
set_option linter.unusedVariables false
set_option linter.unusedSimpArgs false

set_option maxRecDepth 100000 in
theorem implWrap_any (W : Int) (i n : Nat) (s : ByteArray) (hW : W = n + 5 + i) (hi : i ≤ 1024) (hn : 19 ≤ n) (hn2 : n ≤ 1048576) (hs : s.size ≤ 4096) (w : World) :
    Calls Try.prog 44 #[.int .i64 i, .int .i64 W, .string s] w fun e w' => WrapIs n i s e ∧ Below w.heap.size w w' := by
  have hmf : ∀ (fn : Fn) (first cap : Array Value) (w : World), (Instr.makeFunc fn first cap).run Try.prog w = .ok (.func fn first cap) w := fun _ _ _ _ => rfl
  have C := Lib.hid (fun w b0 b1 b2 b3 h0 h1 h2 h3 => wrap_closure W i n s ⟨#[]⟩ w b0 b1 b2 b3 hW hi hn hn2 hs h0 h1 h2 h3)
  clear hW hi hn hn2 hs
  go_enter Try.func44, Try.ntmps44
  go_wp2_with fail
  refine (guarded_ok 73 _ _ (fun w' => Below w.heap.size w w' ∧ (∃ t, w'.heap[w.heap.size + 1 + 1 + 1]? = some (.cells #[.string t] 9 (0, 0)) ∧ t.data.toList = wrapF n i s ∧ t.size ≤ 5000000) ∧ w'.heap[w.heap.size + 1 + 1 + 1 + 1]? = some (.cells #[.bool false] 4 (0, 0))) (w.heap.size + 1 + 1 + 1 + 1) (by (simp only [World.size_alloc, size_setCell, World.heap_drewN])) (fun w => by simp [go_sem]) ?_ ?_).mono ?_
  · refine (C.out _ _ _ _ _ ?_ ?_ ?_ ?_).mono ?_
    · (repeat (first | (with_reducible assumption) | ((with_reducible refine heap_past' ?_ ?_); focus ((try simp only [World.size_alloc, size_setCell, World.heap_drewN]); (try omega); done)) | ((with_reducible refine heap_at _ _ _ ?_); focus ((try simp only [World.size_alloc, size_setCell, World.heap_drewN]); (try omega); done)) | ((with_reducible refine heap_ne' ?_ ?_); focus ((try simp only [World.size_alloc, size_setCell, World.heap_drewN]); (try omega); done)) | (with_reducible refine heap_drew' ?_)))
    · (repeat (first | (with_reducible assumption) | ((with_reducible refine heap_past' ?_ ?_); focus ((try simp only [World.size_alloc, size_setCell, World.heap_drewN]); (try omega); done)) | ((with_reducible refine heap_at _ _ _ ?_); focus ((try simp only [World.size_alloc, size_setCell, World.heap_drewN]); (try omega); done)) | ((with_reducible refine heap_ne' ?_ ?_); focus ((try simp only [World.size_alloc, size_setCell, World.heap_drewN]); (try omega); done)) | (with_reducible refine heap_drew' ?_)))
    · (repeat (first | (with_reducible assumption) | ((with_reducible refine heap_past' ?_ ?_); focus ((try simp only [World.size_alloc, size_setCell, World.heap_drewN]); (try omega); done)) | ((with_reducible refine heap_at _ _ _ ?_); focus ((try simp only [World.size_alloc, size_setCell, World.heap_drewN]); (try omega); done)) | ((with_reducible refine heap_ne' ?_ ?_); focus ((try simp only [World.size_alloc, size_setCell, World.heap_drewN]); (try omega); done)) | (with_reducible refine heap_drew' ?_)))
    · (repeat (first | (with_reducible assumption) | ((with_reducible refine heap_past' ?_ ?_); focus ((try simp only [World.size_alloc, size_setCell, World.heap_drewN]); (try omega); done)) | ((with_reducible refine heap_at _ _ _ ?_); focus ((try simp only [World.size_alloc, size_setCell, World.heap_drewN]); (try omega); done)) | ((with_reducible refine heap_ne' ?_ ?_); focus ((try simp only [World.size_alloc, size_setCell, World.heap_drewN]); (try omega); done)) | (with_reducible refine heap_drew' ?_)))
    rintro e w1 ⟨rfl, t, w2, hb, ht, rfl⟩
    have k : ∀ {b o}, b < w.heap.size + 1 + 1 + 1 + 1 + 1 → _ → w2.heap[b]? = some o := fun {b o} hlt (h : _ = some o) => (hb.block b (by simp only [World.size_alloc]; omega)).trans h
    refine ⟨rfl, ?_, ⟨t, ?_, ht⟩, ?_⟩
    · refine Below.setCell (Below.trans ?_ (hb.mono (by simp only [World.size_alloc]; omega))) (by show w.heap.size ≤ w.heap.size + 1 + 1 + 1; omega) _
      (repeat (first | (with_reducible exact Below.refl _ _) | (with_reducible assumption) | ((with_reducible refine Below.alloc ?_ ?_ _); rotate_left; focus ((try simp only [World.size_alloc, size_setCell, World.heap_drewN]); (try omega); done)) | ((with_reducible refine Below.setCell ?_ ?_ _); rotate_left; focus ((try simp only [World.size_alloc, size_setCell, World.heap_drewN]); (try omega); done)) | (with_reducible refine Below.drewN' ?_) | (with_reducible refine Below.drew ?_)))
    · refine heap_set (c := #[.string ⟨#[]⟩]) (k (by omega) ?_) 0 _
      (repeat (first | (with_reducible assumption) | ((with_reducible refine heap_past' ?_ ?_); focus ((try simp only [World.size_alloc, size_setCell, World.heap_drewN]); (try omega); done)) | ((with_reducible refine heap_at _ _ _ ?_); focus ((try simp only [World.size_alloc, size_setCell, World.heap_drewN]); (try omega); done)) | ((with_reducible refine heap_ne' ?_ ?_); focus ((try simp only [World.size_alloc, size_setCell, World.heap_drewN]); (try omega); done)) | (with_reducible refine heap_drew' ?_)))
    · refine heap_ne' (by simp) (k (by omega) ?_)
      (repeat (first | (with_reducible assumption) | ((with_reducible refine heap_past' ?_ ?_); focus ((try simp only [World.size_alloc, size_setCell, World.heap_drewN]); (try omega); done)) | ((with_reducible refine heap_at _ _ _ ?_); focus ((try simp only [World.size_alloc, size_setCell, World.heap_drewN]); (try omega); done)) | ((with_reducible refine heap_ne' ?_ ?_); focus ((try simp only [World.size_alloc, size_setCell, World.heap_drewN]); (try omega); done)) | (with_reducible refine heap_drew' ?_)))
  · exact fun w' h => h.2.2
  rintro e w1 ⟨rfl, hb, ⟨t, h3, ht⟩, h4⟩
  have c3 := cell_of_one h3
  have H := Lib.hid (And.intro ht hb)
  clear h3 h4 ht hb
  go_wp2_with fail
  go_ret
  exact ⟨⟨_, rfl, H.out.1⟩, H.out.2⟩

/-- A text, an indent and a width that are not too great. -/
def WrapsOk (a b : Int) (s : ByteArray) : Prop := 0 ≤ a ∧ a ≤ 1024 ∧ 0 ≤ b ∧ b ≤ 1048576 ∧ s.size ≤ 4096
set_option maxRecDepth 100000 in
theorem wraps14_any (a b : Int) (s : ByteArray) (hs : s.size ≤ 2147483647) (w : World) :
    Calls Try.prog 42 #[.int .i64 a, .int .i64 b, .string s] w fun e w' => Tells (WrapsOk a b s) e ∧ w' = w := by
  by_cases c1 : 0 ≤ a
  case neg =>
    have d0 : decide (0 ≤ a) = false := decide_eq_false c1
    go_enter Try.func42, Try.ntmps42
    go_wp2_with fail
    go_ret
    exact ⟨⟨_, rfl, fun h => by cases h⟩, rfl⟩
  have d0 : decide (0 ≤ a) = true := decide_eq_true c1
  by_cases c2 : a ≤ 1024
  case neg =>
    have d1 : decide (a ≤ 1024) = false := decide_eq_false c2
    go_enter Try.func42, Try.ntmps42
    go_wp2_with fail
    go_ret
    exact ⟨⟨_, rfl, fun h => by cases h⟩, rfl⟩
  have d1 : decide (a ≤ 1024) = true := decide_eq_true c2
  by_cases c3 : 0 ≤ b
  case neg =>
    have d2 : decide (0 ≤ b) = false := decide_eq_false c3
    go_enter Try.func42, Try.ntmps42
    go_wp2_with fail
    go_ret
    exact ⟨⟨_, rfl, fun h => by cases h⟩, rfl⟩
  have d2 : decide (0 ≤ b) = true := decide_eq_true c3
  by_cases c4 : b ≤ 1048576
  case neg =>
    have d3 : decide (b ≤ 1048576) = false := decide_eq_false c4
    go_enter Try.func42, Try.ntmps42
    go_wp2_with fail
    go_ret
    exact ⟨⟨_, rfl, fun h => by cases h⟩, rfl⟩
  have d3 : decide (b ≤ 1048576) = true := decide_eq_true c4
  by_cases c5 : (s.size : Int) ≤ 4096
  case neg =>
    have d4 : decide ((s.size : Int) ≤ 4096) = false := decide_eq_false c5
    go_enter Try.func42, Try.ntmps42
    go_wp2_with fail
    go_ret
    exact ⟨⟨_, rfl, fun h => by cases h⟩, rfl⟩
  have d4 : decide ((s.size : Int) ≤ 4096) = true := decide_eq_true c5
  have HF : Hid (WrapsOk a b s) := Lib.hid ⟨c1, c2, c3, c4, by omega⟩
  go_enter Try.func42, Try.ntmps42
  go_wp2_with fail
  go_ret
  exact ⟨⟨_, rfl, fun _ => HF.out⟩, rfl⟩

/-- What the first loop keeps. -/
def Runs10 (s : ByteArray) (k long : Nat) : Prop := long ≤ 10 ∧ (long = k ∨ ∃ (j : Nat) (h : j < s.size), j + long + 1 = k ∧ isBlank s[j] = true) ∧ ∀ a, a + 10 < k → ∃ (j : Nat) (h : j < s.size), a ≤ j ∧ j ≤ a + 10 ∧ isBlank s[j] = true
theorem Runs10.blank {s : ByteArray} {k long : Nat} (h : Runs10 s k long) (hk : k < s.size) (hb : isBlank s[k] = true) : Runs10 s (k + 1) 0 := by
  obtain ⟨h1, h2, h3⟩ := h
  refine ⟨by omega, .inr ⟨k, hk, by omega, hb⟩, fun a ha => ?_⟩
  by_cases e : a + 10 = k
  · exact ⟨k, hk, by omega, by omega, hb⟩
  · exact h3 a (by omega)
theorem Runs10.other {s : ByteArray} {k long : Nat} (h : Runs10 s k long) (hk : k < s.size) (hl : long + 1 ≤ 10) : Runs10 s (k + 1) (long + 1) := by
  obtain ⟨h1, h2, h3⟩ := h
  refine ⟨hl, ?_, fun a ha => ?_⟩
  · rcases h2 with h2 | ⟨j, hj, e, hb⟩
    · exact .inl (by omega)
    · exact .inr ⟨j, hj, by omega, hb⟩
  · by_cases e : a + 10 = k
    · rcases h2 with h2 | ⟨j, hj, e2, hb⟩
      · omega
      · exact ⟨j, hj, by omega, by omega, hb⟩
    · exact h3 a (by omega)
theorem drop_data (s : ByteArray) (k : Nat) (h : k < s.size) : s.data.toList.drop k = s[k] :: s.data.toList.drop (k + 1) := by
  have h1 : k < s.data.toList.length := by rw [Array.length_toList]; exact h
  rw [List.drop_eq_getElem_cons h1]
  rfl

set_option maxRecDepth 100000 in
set_option maxHeartbeats 800000 in
theorem fnWrapFits_walk (a : Int) (wa : (Lit.int .i64 a).wf = true) (b : Int) (wb : (Lit.int .i64 b).wf = true) (s : ByteArray) (hs : s.size ≤ maxLen) (w : World) :
    Calls Try.prog 14 #[.int .i64 a, .int .i64 b, .string s] w fun e w' => e = .returned (.bool true) ∧ Below w.heap.size w w' := by
  unfold maxLen at hs
  have CL := Lib.hid (fun W => lives14_any W)
  clear wa wb
  by_cases c0 : 2147483647 < s.size
  · have d0 : decide (2147483647 < (s.size : Int)) = true := by rw [decide_eq_true_eq]; omega
    go_enter Try.func14, Try.ntmps14
    go_wp2_with fail
    go_ret
    exact ⟨rfl, Below.refl _ _⟩
  have d0 : decide (2147483647 < (s.size : Int)) = false := by rw [decide_eq_false_iff_not]; omega
  have CW := Lib.hid (wraps14_any a b s (by omega) w)
  clear c0
  go_enter Try.func14, Try.ntmps14
  go_wp2_with fail
  refine CW.out.mono ?_
  rintro e w1 ⟨⟨q, rfl, hq⟩, rfl⟩
  have HQ := Lib.hid hq
  clear hq CW
  cases q with
  | false =>
    go_wp2_with fail
    refine (CL.out _).mono ?_
    rintro e w2 ⟨rfl, hb⟩
    have HB := Lib.hid hb
    clear hb
    go_wp2_with fail
    go_ret
    exact ⟨rfl, HB.out⟩
  | true =>
  obtain ⟨k1, k2, k3, k4, k5⟩ := HQ.out (by simp)
  clear HQ hs
  by_cases h24 : b - a < 24
  · have d24 : decide (b - a < 24) = true := decide_eq_true h24
    go_wp2_with fail
    refine (CL.out _).mono ?_
    rintro e w2 ⟨rfl, hb⟩
    have HB := Lib.hid hb
    clear hb
    go_wp2_with fail
    go_ret
    exact ⟨rfl, HB.out⟩
  have d24 : decide (b - a < 24) = false := decide_eq_false h24
  obtain ⟨i, rfl⟩ : ∃ i : Nat, a = i := ⟨a.toNat, by omega⟩
  obtain ⟨n, hn⟩ : ∃ n : Nat, b = (n : Int) + 5 + i := ⟨(b - i - 5).toNat, by omega⟩
  have CI := Lib.hid (implWrap_any b i n s hn (by omega) (by omega) (by omega) k5)
  have HNN : Hid (b = (n : Int) + 5 + i ∧ 19 ≤ n ∧ i ≤ 1024 ∧ b ≤ 1048576 ∧ s.size ≤ 4096) := Lib.hid ⟨hn, by omega, by omega, k4, k5⟩
  clear hn h24
  go_wp2_with fail
  go_loop [7, 8] (fun l k => ∃ long j : Nat, l = .int .i64 long ∧ k = .int .i64 j ∧ j ≤ s.size ∧ long ≤ 10 ∧ Hid (Runs10 s j long)) (fun _ k => s.size - (intOf k).toNat)
  case atStart => exact ⟨0, 0, rfl, rfl, Nat.zero_le _, by omega, Lib.hid ⟨by omega, .inl rfl, fun a ha => by omega⟩⟩
  case round =>
    obtain ⟨long, j, rfl, rfl, hj, hlong, HR⟩ := hrel
    by_cases hlt : j < s.size
    · have CB := Lib.hid (fun W => blankW_any s[j] W)
      go_wp2_with fail
      refine (CB.out _).mono ?_
      rintro e w2 ⟨rfl, rfl⟩
      cases hb : isBlank s[j] with
      | true =>
        have HN := Lib.hid (HR.out.blank hlt hb)
        clear hb
        go_wp2_with fail
        go_round
        case rel => exact ⟨0, j + 1, rfl, by go_num, by omega, by omega, HN⟩
        case measure => simp [intOf]; omega
      | false =>
        clear hb
        by_cases h10 : long + 1 ≤ 10
        · have dl : decide ((10 : Int) < (long : Int) + 1) = false := decide_eq_false (by omega)
          have HN := Lib.hid (HR.out.other hlt h10)
          go_wp2_with fail
          go_round
          case rel => exact ⟨long + 1, j + 1, by go_num, by go_num, by omega, h10, HN⟩
          case measure => simp [intOf]; omega
        · have dl : decide ((10 : Int) < (long : Int) + 1) = true := decide_eq_true (by omega)
          go_wp2_with fail
          refine (CL.out _).mono ?_
          rintro e w2 ⟨rfl, hb⟩
          have HB := Lib.hid hb
          clear hb
          go_wp2_with fail
          go_ret
          exact ⟨rfl, HB.out⟩
    · have HWd : Hid (Words s) := Lib.hid (fun a ha => HR.out.2.2 a (by omega))
      clear HR hlong
      go_wp2_with fail
      refine (CI.out _).mono ?_
      rintro e w2 ⟨⟨t, rfl, ht, hz⟩, hb⟩
      have HB := Lib.hid hb
      have HOK : Hid (okC (n + 5 + i) i (t.data.toList.drop 0)) := Lib.hid (by
        rw [List.drop_zero, ht]
        exact wrapF_ok n i HNN.out.2.1 s HWd.out)
      clear ht hb hlt hj
      go_wp2_with fail
      go_loop [9, 11] (fun l k => ∃ line j : Nat, l = .int .i64 line ∧ k = .int .i64 j ∧ j ≤ t.size ∧ line ≤ 1048576 ∧ Hid (okC (n + 5 + i) line (t.data.toList.drop j))) (fun _ k => t.size - (intOf k).toNat)
      case atStart => exact ⟨i, 0, rfl, rfl, Nat.zero_le _, by omega, HOK⟩
      case round =>
        obtain ⟨line, j, rfl, rfl, hj, hline, HR⟩ := hrel
        have hWn : (b : Int) = ((n + 5 + i : Nat) : Int) := by have := HNN.out.1; omega
        by_cases hlt : j < t.size
        · have ho := HR.out
          rw [drop_data t j hlt] at ho
          obtain ⟨o1, o2⟩ := ho
          by_cases h10 : t[j] = 10
          · have d10 : ((t[j].toNat : Int) == 10) = true := by rw [h10]; rfl
            rw [colS, if_pos h10] at o1 o2
            have HN := Lib.hid o2
            have hw0 : decide (b < (0 : Int)) = false := decide_eq_false (by omega)
            clear h10 o1 o2 hWn
            go_wp2_with fail
            go_round
            case rel => exact ⟨0, j + 1, rfl, by go_num, by omega, by omega, HN⟩
            case measure => simp [intOf]; omega
          · have d10 : ((t[j].toNat : Int) == 10) = false := by
              rw [beq_eq_false_iff_ne]
              intro h
              exact h10 (UInt8.toNat_inj.mp (by show t[j].toNat = 10; omega))
            rw [colS, if_neg h10] at o1 o2
            have HN := Lib.hid o2
            have hw0 : decide (b < (line : Int) + 1) = false := decide_eq_false (by omega)
            have hl2 : line + 1 ≤ 1048576 := by omega
            clear h10 o1 o2 hWn
            go_wp2_with fail
            go_round
            case rel => exact ⟨line + 1, j + 1, by go_num, by go_num, by omega, hl2, HN⟩
            case measure => simp [intOf]; omega
        · clear HR hWn
          go_wp2_with fail
          refine (CL.out _).mono ?_
          rintro e w3 ⟨rfl, hb3⟩
          have HB3 := Lib.hid (belowAfter HB.out hb3)
          clear hb3
          go_wp2_with fail
          go_ret
          exact ⟨rfl, HB3.out⟩
end Go.Proofs.Ytcpjdgbnfjdakaa
