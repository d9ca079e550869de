/- The walks of wrapN and what it calls. -/
import Derived.Test.YtbggmplmekmmgaaGuard
import Derived.Test.YtbggmplmekmmgaaWrapPlain
namespace Go.Proofs.Ytbggmplmekmmgaa
open Go.RowKit
set_option linter.unusedVariables false
set_option linter.unusedSimpArgs false

theorem lastByte_any (s : ByteArray) (c : UInt8) (w : World) (hs : s.size ≤ maxLen) :
    Calls Try.prog 20 #[.string s, .int .u8 c.toNat] w fun e w' => e = .returned (.int .i64 (lastFrom (fun b => b == c) s s.size)) ∧ w' = w := by
  unfold maxLen at hs
  go_enter Try.func20, Try.ntmps20
  go_wp2
  go_loop [5] (fun i => ∃ k : Nat, k ≤ s.size ∧ i = .int .i64 ((k : Int) - 1) ∧ lastFrom (fun b => b == c) s s.size = lastFrom (fun b => b == c) s k) (fun i => (intOf i + 1).toNat)
  case atStart => exact ⟨s.size, Nat.le_refl _, rfl, rfl⟩
  case round =>
    obtain ⟨k, hk, rfl, hl⟩ := hrel
    have HL := Lib.hid hl
    clear hl
    cases k with
    | zero =>
      go_wp2
      go_ret
      exact ⟨by rw [HL.out]; rfl, rfl⟩
    | succ k =>
      have e1 : (((k + 1 : Nat) : Int) - 1) = (k : Int) := by omega
      rw [e1]
      by_cases hc : s[k] = c
      · have hh : ((s[k].toNat : Int) == (c.toNat : Int)) = true := by simp [hc]
        go_wp2
        go_ret
        exact ⟨by rw [HL.out, lastFrom_yes _ s k (by omega) (by simp [hc])]; rfl, rfl⟩
      · have hh : ((s[k].toNat : Int) == (c.toNat : Int)) = false := by
          rw [beq_eq_false_iff_ne]
          intro h
          exact hc (UInt8.toNat_inj.mp (by omega))
        go_wp2
        go_round
        case rel => exact ⟨k, by omega, rfl, by rw [HL.out, lastFrom_no _ s k (by omega) (by simp [hc])]⟩
        case measure => simp [intOf]

theorem setIs_snoc (s : ByteArray) (b : UInt8) (k : Nat) (h : k < s.size) (hn : ∀ t (ht : t < s.size), t < k → s[t] ≠ b) (hk : s[k] ≠ b) : ∀ t (ht : t < s.size), t < k + 1 → s[t] ≠ b := by
  intro t ht hlt
  by_cases e : t = k
  · subst e; exact hk
  · exact hn t ht (by omega)

/-- A byte is one of a set's. -/
def inSet (set : ByteArray) (b : UInt8) : Bool := decide (∃ t, ∃ h : t < set.size, set[t] = b)

set_option maxHeartbeats 800000 in
theorem lastAny_any (s set : ByteArray) (w : World) (hs : s.size ≤ maxLen) (ht : set.size ≤ maxLen) :
    Calls Try.prog 18 #[.string s, .string set] w fun e w' => e = .returned (.int .i64 (lastFrom (inSet set) s s.size)) ∧ Drawn w w' := by
  unfold maxLen at hs ht
  go_enter Try.func18, Try.ntmps18
  go_wp2
  go_loopw [5, 6] (fun i _ wr => (∃ n, wr = w.drewN n) ∧ ∃ k : Nat, k ≤ s.size ∧ i = .int .i64 ((k : Int) - 1) ∧ lastFrom (inSet set) s s.size = lastFrom (inSet set) s k) (fun i _ _ => (intOf i + 1).toNat)
  case atStart => exact ⟨⟨0, rfl⟩, s.size, Nat.le_refl _, rfl, rfl⟩
  case round =>
    obtain ⟨⟨n, rfl⟩, k, hk, rfl, hl⟩ := hrel
    have HL := Lib.hid hl
    clear hl
    cases k with
    | zero =>
      go_wp2
      go_ret
      exact ⟨by rw [HL.out]; rfl, ⟨_, rfl⟩⟩
    | succ k =>
      have e1 : (((k + 1 : Nat) : Int) - 1) = (k : Int) := by omega
      rw [e1]
      go_wp2
      obtain ⟨wo, hwo⟩ : ∃ wo : World, wo = w.drewN n := ⟨_, rfl⟩
      go_loopw [6] (fun j wr => (∃ n, wr = w.drewN n) ∧ ∃ t : Nat, t ≤ set.size ∧ j = .int .i64 t ∧ ∀ u (hu : u < set.size), u < t → set[u] ≠ s[k]) (fun j _ => set.size - (intOf j).toNat)
      case atStart => exact ⟨⟨n, rfl⟩, 0, Nat.zero_le _, rfl, fun _ _ h => absurd h (Nat.not_lt_zero _)⟩
      case round =>
        clear hwo
        obtain ⟨⟨m, rfl⟩, t, htt, rfl, hn⟩ := hrel
        have HN := Lib.hid hn
        clear hn
        by_cases hlt : t < set.size
        · by_cases hc : s[k] = set[t]
          · have hh : ((s[k].toNat : Int) == (set[t].toNat : Int)) = true := by simp [hc]
            go_wp2
            go_quiet (fail)
            go_wp2
            go_ret
            exact ⟨by rw [HL.out, lastFrom_yes _ s k (by omega) (decide_eq_true ⟨t, hlt, hc.symm⟩)]; rfl, by repeat (first | exact Drawn.refl _ | assumption | apply Drawn.n | apply Drawn.one)⟩
          · have hh : ((s[k].toNat : Int) == (set[t].toNat : Int)) = false := by
              rw [beq_eq_false_iff_ne]
              intro h
              exact hc (UInt8.toNat_inj.mp (by omega))
            have HC := Lib.hid hc
            clear hc
            have b1 : (k : Int) < (s.size : Int) := by omega
            have b2 : (t : Int) < (set.size : Int) := by omega
            go_wp2
            go_quiet (fail)
            go_wp2
            go_roundw
            case rel => exact ⟨⟨_, rfl⟩, t + 1, by omega, by go_num, fun u hu hlu => by
              by_cases e : u = t
              · subst e; exact fun h => HC.out h.symm
              · exact HN.out u hu (by omega)⟩
            case measure => simp [intOf]; omega
        · go_wp2
          go_roundw
          case rel => exact ⟨⟨_, rfl⟩, k, by omega, rfl, by rw [HL.out, lastFrom_no _ s k (by omega) (decide_eq_false (fun ⟨u, hu, e⟩ => HN.out u hu (by omega) e))]⟩
          case measure => simp [intOf]

theorem inSet_blank (b : UInt8) : inSet ⟨#[32, 9, 10]⟩ b = isBlank b := by
  rw [Bool.eq_iff_iff]
  simp only [inSet, isBlank, decide_eq_true_eq, Bool.or_eq_true, beq_iff_eq]
  constructor
  · rintro ⟨t, h, e⟩
    have : t < 3 := h
    match t, h, e with
    | 0, _, e => exact Or.inl (Or.inl e.symm)
    | 1, _, e => exact Or.inl (Or.inr e.symm)
    | 2, _, e => exact Or.inr e.symm
  · rintro ((e | e) | e)
    · exact ⟨0, by decide, e.symm⟩
    · exact ⟨1, by decide, e.symm⟩
    · exact ⟨2, by decide, e.symm⟩

theorem lastFeed_any (s : ByteArray) (w : World) (hs : s.size ≤ maxLen) :
    Calls Try.prog 19 #[.string s, .string ⟨#[10]⟩] w fun e w' => e = .returned (.int .i64 (lastFrom isFeed s s.size)) ∧ w' = w := by
  have h10 := fun w => lastByte_any s 10 w hs
  have e10 : (fun b : UInt8 => b == 10) = isFeed := rfl
  simp only [e10] at h10
  unfold maxLen at hs
  go_enter Try.func19, Try.ntmps19
  go_wp2_with fail
  refine (h10 _).mono ?_
  rintro e w' ⟨rfl, rfl⟩
  go_wp2_with fail
  go_ret
  exact ⟨rfl, rfl⟩

set_option maxHeartbeats 800000 in
theorem wrapN_any (n slop : Nat) (s : ByteArray) (w : World) (hn : n ≤ 1048576) (hl : slop ≤ 1048576) (hs : s.size ≤ 2147483647) :
    Calls Try.prog 17 #[.int .i64 n, .int .i64 slop, .string s] w fun e w' => e = .returned (.tuple #[.string (wrapNF n slop s).1, .string (wrapNF n slop s).2]) ∧ Drawn w w' := by
  by_cases h1 : s.size < n + slop
  · have h1' : decide ((s.size : Int) < (n : Int) + (slop : Int)) = true := by simp; omega
    go_enter Try.func17, Try.ntmps17
    go_wp2_with fail
    go_ret2
    exact ⟨by simp [wrapNF, h1], Drawn.refl _⟩
  · have h1' : decide ((s.size : Int) < (n : Int) + (slop : Int)) = false := by simp; omega
    go_enter Try.func17, Try.ntmps17
    go_wp2_with fail
    have hz : (s.extract 0 n).size = n := by rw [ByteArray.size_extract]; omega
    refine (lastAny_any (s.extract 0 n) _ _ (by unfold maxLen; omega) (by decide)).mono ?_
    rintro e w1 ⟨rfl, ⟨n1, rfl⟩⟩
    have hb : lastFrom (inSet ⟨#[32, 9, 10]⟩) (s.extract 0 n) (s.extract 0 n).size = lastFrom isBlank s n := by
      rw [hz, lastFrom_congr (inSet ⟨#[32, 9, 10]⟩) isBlank (s.extract 0 n) (s.extract 0 n) n (by omega) (by omega) (fun i a b c => inSet_blank _), lastFrom_extract _ _ _ (by omega)]
    rw [hb]
    have hf : lastFrom isFeed (s.extract 0 n) (s.extract 0 n).size = lastFrom isFeed s n := by
      rw [hz, lastFrom_extract _ _ _ (by omega)]
    have b1 := lastFrom_ge isFeed s n
    have b2 := lastFrom_lt isBlank s n
    have b3 : lastFrom isFeed s n ≤ lastFrom isBlank s n := lastFrom_mono _ _ s n (fun b h => by simp [isFeed, isBlank] at *; exact Or.inr h)
    clear hb
    have HW : wrapNF n slop s = if lastFrom isBlank s n ≤ 0 then (s, ⟨#[]⟩) else if 0 < lastFrom isFeed s n then cutAt s (lastFrom isFeed s n) else cutAt s (lastFrom isBlank s n) := by rw [wrapNF, if_neg h1]
    have HW' := Lib.hid HW
    clear HW
    have HF := Lib.hid hf
    clear hf
    generalize lastFrom isBlank s n = B at *
    by_cases c1 : B ≤ 0
    · have d1 : decide (B ≤ 0) = true := decide_eq_true c1
      go_wp2_with fail
      go_ret2
      exact ⟨by rw [HW'.out, if_pos c1]; rfl, by repeat (first | exact Drawn.refl _ | assumption | apply Drawn.n | apply Drawn.one)⟩
    · have d1 : decide (B ≤ 0) = false := decide_eq_false c1
      go_wp2_with fail
      refine (lastFeed_any (s.extract 0 n) _ (by unfold maxLen; omega)).mono ?_
      rintro e w2 ⟨rfl, rfl⟩
      rw [HF.out]
      generalize lastFrom isFeed s n = F at *
      have k1 : 0 ≤ B := by omega
      have k2 : B < (s.size : Int) := by omega
      by_cases c2 : 0 < F
      · have d2 : decide (0 < F) = true := decide_eq_true c2
        by_cases c3 : F < B
        · have d3 : decide (F < B) = true := decide_eq_true c3
          go_wp2_with fail
          go_quiet (fail)
          go_wp2_with fail
          go_ret2
          exact ⟨by rw [HW'.out, if_neg (by omega), if_pos (by omega)]; rfl, by repeat (first | exact Drawn.refl _ | assumption | apply Drawn.n | apply Drawn.one)⟩
        · have d3 : decide (F < B) = false := decide_eq_false c3
          have e3 : F = B := by omega
          go_wp2_with fail
          go_quiet (fail)
          go_wp2_with fail
          go_ret2
          exact ⟨by rw [HW'.out, if_neg (by omega), if_pos (by omega), e3]; rfl, by repeat (first | exact Drawn.refl _ | assumption | apply Drawn.n | apply Drawn.one)⟩
      · have d2 : decide (0 < F) = false := decide_eq_false c2
        go_wp2_with fail
        go_quiet (fail)
        go_wp2_with fail
        go_ret2
        exact ⟨by rw [HW'.out, if_neg (by omega), if_neg (by omega)]; rfl, by repeat (first | exact Drawn.refl _ | assumption | apply Drawn.n | apply Drawn.one)⟩

theorem zzWrapN_any (n slop : Nat) (s : ByteArray) (w : World) (hn : n ≤ 1048576) (hl : slop ≤ 1048576) (hs : s.size ≤ 2147483647) :
    Calls Try.prog 12 #[.int .i64 n, .int .i64 slop, .string s] w fun e w' => e = .returned (.tuple #[.string (wrapNF n slop s).1, .string (wrapNF n slop s).2]) ∧ Drawn w w' := by
  go_enter Try.func12, Try.ntmps12
  go_wp2_with fail
  refine (wrapN_any n slop s _ hn hl hs).mono ?_
  rintro e w1 ⟨rfl, ⟨n1, rfl⟩⟩
  go_wp2_with fail
  go_ret2
  exact ⟨rfl, ⟨_, rfl⟩⟩

/-- The closure of impl.WrapN: it reads its three captured variables and stores into the other two. -/
theorem wrapN_closure (n slop : Nat) (s x y : ByteArray) (w : World) (b0 b1 b2 b3 b4 : Nat) (hn : n ≤ 1048576) (hl : slop ≤ 1048576) (hs : s.size ≤ 2147483647)
    (h0 : w.heap[b0]? = some (.cells #[.int .i64 n] 3 (0, 0))) (h1 : w.heap[b1]? = some (.cells #[.int .i64 slop] 3 (0, 0))) (h2 : w.heap[b2]? = some (.cells #[.string s] 9 (0, 0)))
    (h3 : w.heap[b3]? = some (.cells #[.string x] 9 (0, 0))) (h4 : w.heap[b4]? = some (.cells #[.string y] 9 (0, 0))) (hne : b4 ≠ b3) :
    Calls Try.prog 11 #[.pointer (some ⟨b0, 0, none⟩), .pointer (some ⟨b1, 0, none⟩), .pointer (some ⟨b2, 0, none⟩), .pointer (some ⟨b3, 0, none⟩), .pointer (some ⟨b4, 0, none⟩)] w fun e w' => e = .returned (.tuple #[]) ∧
      ∃ m, w' = ((w.setCell ⟨b3, 0, none⟩ (.string (wrapNF n slop s).1)).setCell ⟨b4, 0, none⟩ (.string (wrapNF n slop s).2)).drewN m := by
  have c0 := cell_of_one h0
  have c1 := cell_of_one h1
  have c2 := cell_of_one h2
  have c3 := cell_of_one h3
  have c4 := cell_of_one h4
  have z3 := free_of_one h3
  have z4 := free_of_one h4
  clear h0 h1 h2 h3 h4
  go_enter Try.func11, Try.ntmps11
  go_wp2_with fail
  refine (zzWrapN_any n slop s _ hn hl hs).mono ?_
  rintro e w1 ⟨rfl, ⟨n1, rfl⟩⟩
  go_wp2_with fail
  go_end0
  exact ⟨rfl, _, rfl⟩

/-- impl.WrapN. -/
theorem implWrapN_any (n slop : Nat) (s : ByteArray) (w : World) (hn : n ≤ 1048576) (hl : slop ≤ 1048576) (hs : s.size ≤ 2147483647) :
    Calls Try.prog 5 #[.int .i64 n, .int .i64 slop, .string s] w fun e w' => e = .returned (.tuple #[.string (wrapNF n slop s).1, .string (wrapNF n slop s).2]) ∧ Below w.heap.size w w' := by
  have hmf : ∀ (fn : Fn) (first cap : Array Value) (w : World), (Instr.makeFunc fn first cap).run Try.prog w = .ok (.func fn first cap) w := fun _ _ _ _ => rfl
  go_enter Try.func5, Try.ntmps5
  go_wp2_with fail
  refine (guarded_ok 11 _ _ (fun w' => Below w.heap.size w w' ∧ w'.heap[w.heap.size + 1 + 1 + 1]? = some (.cells #[.string (wrapNF n slop s).1] 9 (0, 0)) ∧ w'.heap[w.heap.size + 1 + 1 + 1 + 1]? = some (.cells #[.string (wrapNF n slop s).2] 9 (0, 0)) ∧ w'.heap[w.heap.size + 1 + 1 + 1 + 1 + 1]? = some (.cells #[.bool false] 4 (0, 0))) (w.heap.size + 1 + 1 + 1 + 1 + 1) (by (simp only [World.size_alloc, size_setCell, World.heap_drewN])) (fun w => by simp [go_sem]) ?_ ?_).mono ?_
  · refine (wrapN_closure n slop s ⟨#[]⟩ ⟨#[]⟩ _ _ _ _ _ _ hn hl hs ?_ ?_ ?_ ?_ ?_ ?_).mono ?_
    · (repeat (first | (with_reducible assumption) | ((with_reducible refine heap_past' ?_ ?_); focus ((try simp only [World.size_alloc, size_setCell, World.heap_drewN]); (try omega); done)) | ((with_reducible refine heap_at _ _ _ ?_); focus ((try simp only [World.size_alloc, size_setCell, World.heap_drewN]); (try omega); done)) | ((with_reducible refine heap_ne' ?_ ?_); focus ((try simp only [World.size_alloc, size_setCell, World.heap_drewN]); (try omega); done)) | (with_reducible refine heap_drew' ?_)))
    · (repeat (first | (with_reducible assumption) | ((with_reducible refine heap_past' ?_ ?_); focus ((try simp only [World.size_alloc, size_setCell, World.heap_drewN]); (try omega); done)) | ((with_reducible refine heap_at _ _ _ ?_); focus ((try simp only [World.size_alloc, size_setCell, World.heap_drewN]); (try omega); done)) | ((with_reducible refine heap_ne' ?_ ?_); focus ((try simp only [World.size_alloc, size_setCell, World.heap_drewN]); (try omega); done)) | (with_reducible refine heap_drew' ?_)))
    · (repeat (first | (with_reducible assumption) | ((with_reducible refine heap_past' ?_ ?_); focus ((try simp only [World.size_alloc, size_setCell, World.heap_drewN]); (try omega); done)) | ((with_reducible refine heap_at _ _ _ ?_); focus ((try simp only [World.size_alloc, size_setCell, World.heap_drewN]); (try omega); done)) | ((with_reducible refine heap_ne' ?_ ?_); focus ((try simp only [World.size_alloc, size_setCell, World.heap_drewN]); (try omega); done)) | (with_reducible refine heap_drew' ?_)))
    · (repeat (first | (with_reducible assumption) | ((with_reducible refine heap_past' ?_ ?_); focus ((try simp only [World.size_alloc, size_setCell, World.heap_drewN]); (try omega); done)) | ((with_reducible refine heap_at _ _ _ ?_); focus ((try simp only [World.size_alloc, size_setCell, World.heap_drewN]); (try omega); done)) | ((with_reducible refine heap_ne' ?_ ?_); focus ((try simp only [World.size_alloc, size_setCell, World.heap_drewN]); (try omega); done)) | (with_reducible refine heap_drew' ?_)))
    · (repeat (first | (with_reducible assumption) | ((with_reducible refine heap_past' ?_ ?_); focus ((try simp only [World.size_alloc, size_setCell, World.heap_drewN]); (try omega); done)) | ((with_reducible refine heap_at _ _ _ ?_); focus ((try simp only [World.size_alloc, size_setCell, World.heap_drewN]); (try omega); done)) | ((with_reducible refine heap_ne' ?_ ?_); focus ((try simp only [World.size_alloc, size_setCell, World.heap_drewN]); (try omega); done)) | (with_reducible refine heap_drew' ?_)))
    · omega
    rintro e w1 ⟨rfl, m, rfl⟩
    refine ⟨rfl, ?_, ?_, ?_, ?_⟩
    · (repeat (first | (with_reducible exact Below.refl _ _) | (with_reducible assumption) | ((with_reducible refine Below.alloc ?_ ?_ _); rotate_left; focus ((try simp only [World.size_alloc, size_setCell, World.heap_drewN]); (try omega); done)) | ((with_reducible refine Below.setCell ?_ ?_ _); rotate_left; focus ((try simp only [World.size_alloc, size_setCell, World.heap_drewN]); (try omega); done)) | (with_reducible refine Below.drewN' ?_) | (with_reducible refine Below.drew ?_)))
    · refine heap_drew' (heap_ne' (by simp) (heap_set (c := #[.string ⟨#[]⟩]) ?_ 0 _))
      (repeat (first | (with_reducible assumption) | ((with_reducible refine heap_past' ?_ ?_); focus ((try simp only [World.size_alloc, size_setCell, World.heap_drewN]); (try omega); done)) | ((with_reducible refine heap_at _ _ _ ?_); focus ((try simp only [World.size_alloc, size_setCell, World.heap_drewN]); (try omega); done)) | ((with_reducible refine heap_ne' ?_ ?_); focus ((try simp only [World.size_alloc, size_setCell, World.heap_drewN]); (try omega); done)) | (with_reducible refine heap_drew' ?_)))
    · refine heap_drew' (heap_set (c := #[.string ⟨#[]⟩]) ?_ 0 _)
      (repeat (first | (with_reducible assumption) | ((with_reducible refine heap_past' ?_ ?_); focus ((try simp only [World.size_alloc, size_setCell, World.heap_drewN]); (try omega); done)) | ((with_reducible refine heap_at _ _ _ ?_); focus ((try simp only [World.size_alloc, size_setCell, World.heap_drewN]); (try omega); done)) | ((with_reducible refine heap_ne' ?_ ?_); focus ((try simp only [World.size_alloc, size_setCell, World.heap_drewN]); (try omega); done)) | (with_reducible refine heap_drew' ?_)))
    · (repeat (first | (with_reducible assumption) | ((with_reducible refine heap_past' ?_ ?_); focus ((try simp only [World.size_alloc, size_setCell, World.heap_drewN]); (try omega); done)) | ((with_reducible refine heap_at _ _ _ ?_); focus ((try simp only [World.size_alloc, size_setCell, World.heap_drewN]); (try omega); done)) | ((with_reducible refine heap_ne' ?_ ?_); focus ((try simp only [World.size_alloc, size_setCell, World.heap_drewN]); (try omega); done)) | (with_reducible refine heap_drew' ?_)))
  · exact fun w' h => h.2.2.2
  rintro e w1 ⟨rfl, hb, h3, h4, h5⟩
  have c3 := cell_of_one h3
  have c4 := cell_of_one h4
  go_wp2_with fail
  go_quiet (fail)
  go_wp2_with fail
  go_ret2
  exact ⟨rfl, Below.drewN' hb⟩
end Go.Proofs.Ytbggmplmekmmgaa
