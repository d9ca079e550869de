/- The walks of the reference's prefixed29, plain29, digits29, Numeral, Natural. (Printed by gen_sv.py.) -/
import Derived.Test.YtlnnmionbflolaaDoorSpecUj
namespace Go.Proofs.YtlnnmionbflolaaDoor
open Go.RowKit
set_option linter.unusedVariables false
set_option linter.unusedSimpArgs false

set_option maxRecDepth 100000 in
theorem prefixed_c120 (s : ByteArray) (hs : s.size ≤ 2147483647) (h2 : 3 ≤ s.size) (hz : s[0].toNat = 48) (hq : s[1].toNat = 120) (w : World) : Calls Tryd.prog 57 #[.string s] w fun e w' => PreIs s e ∧ w = w' := by
  have l3 : decide (3 ≤ (s.size : Int)) = true := decide_eq_true (by omega)
  have e48 : ((s[0].toNat : Int) == 48) = true := by simp [hz]
  have f120 : ((s[1].toNat : Int) == 120) = true := by simp [*]
  have HP : Hid (PreIs s (.returned (.tuple #[.string (s.extract 2 s.size), .int .u64 (16 : Nat)]))) := Lib.hid ⟨_, 16, rfl, by
    obtain ⟨r, e0, e1, e2⟩ := pre_of3 s h2
    have q : lw s[1] = 120 := (lw_x _ _ (by omega)).2 (by omega)
    rw [e0, e2]
    simp [pre29, hz, q], .inr (.inr (.inl rfl)), by rw [size_drop]; omega⟩
  go_enter Tryd.func57, Tryd.ntmps57
  go_wp2_with fail
  go_ret2
  exact ⟨HP.out, rfl⟩
set_option maxRecDepth 100000 in
theorem prefixed_c88 (s : ByteArray) (hs : s.size ≤ 2147483647) (h2 : 3 ≤ s.size) (hz : s[0].toNat = 48) (hq : s[1].toNat = 88) (w : World) : Calls Tryd.prog 57 #[.string s] w fun e w' => PreIs s e ∧ w = w' := by
  have l3 : decide (3 ≤ (s.size : Int)) = true := decide_eq_true (by omega)
  have e48 : ((s[0].toNat : Int) == 48) = true := by simp [hz]
  have f120 : ((s[1].toNat : Int) == 120) = false := by rw [beq_eq_false_iff_ne]; omega
  have f88 : ((s[1].toNat : Int) == 88) = true := by simp [*]
  have HP : Hid (PreIs s (.returned (.tuple #[.string (s.extract 2 s.size), .int .u64 (16 : Nat)]))) := Lib.hid ⟨_, 16, rfl, by
    obtain ⟨r, e0, e1, e2⟩ := pre_of3 s h2
    have q : lw s[1] = 120 := (lw_x _ _ (by omega)).2 (by omega)
    rw [e0, e2]
    simp [pre29, hz, q], .inr (.inr (.inl rfl)), by rw [size_drop]; omega⟩
  go_enter Tryd.func57, Tryd.ntmps57
  go_wp2_with fail
  go_ret2
  exact ⟨HP.out, rfl⟩
set_option maxRecDepth 100000 in
theorem prefixed_c98 (s : ByteArray) (hs : s.size ≤ 2147483647) (h2 : 3 ≤ s.size) (hz : s[0].toNat = 48) (hq : s[1].toNat = 98) (w : World) : Calls Tryd.prog 57 #[.string s] w fun e w' => PreIs s e ∧ w = w' := by
  have l3 : decide (3 ≤ (s.size : Int)) = true := decide_eq_true (by omega)
  have e48 : ((s[0].toNat : Int) == 48) = true := by simp [hz]
  have f120 : ((s[1].toNat : Int) == 120) = false := by rw [beq_eq_false_iff_ne]; omega
  have f88 : ((s[1].toNat : Int) == 88) = false := by rw [beq_eq_false_iff_ne]; omega
  have f98 : ((s[1].toNat : Int) == 98) = true := by simp [*]
  have HP : Hid (PreIs s (.returned (.tuple #[.string (s.extract 2 s.size), .int .u64 (2 : Nat)]))) := Lib.hid ⟨_, 2, rfl, by
    obtain ⟨r, e0, e1, e2⟩ := pre_of3 s h2
    have q : lw s[1] = 98 := (lw_x _ _ (by omega)).2 (by omega)
    rw [e0, e2]
    simp [pre29, hz, q], .inl rfl, by rw [size_drop]; omega⟩
  go_enter Tryd.func57, Tryd.ntmps57
  go_wp2_with fail
  go_ret2
  exact ⟨HP.out, rfl⟩
set_option maxRecDepth 100000 in
theorem prefixed_c66 (s : ByteArray) (hs : s.size ≤ 2147483647) (h2 : 3 ≤ s.size) (hz : s[0].toNat = 48) (hq : s[1].toNat = 66) (w : World) : Calls Tryd.prog 57 #[.string s] w fun e w' => PreIs s e ∧ w = w' := by
  have l3 : decide (3 ≤ (s.size : Int)) = true := decide_eq_true (by omega)
  have e48 : ((s[0].toNat : Int) == 48) = true := by simp [hz]
  have f120 : ((s[1].toNat : Int) == 120) = false := by rw [beq_eq_false_iff_ne]; omega
  have f88 : ((s[1].toNat : Int) == 88) = false := by rw [beq_eq_false_iff_ne]; omega
  have f98 : ((s[1].toNat : Int) == 98) = false := by rw [beq_eq_false_iff_ne]; omega
  have f66 : ((s[1].toNat : Int) == 66) = true := by simp [*]
  have HP : Hid (PreIs s (.returned (.tuple #[.string (s.extract 2 s.size), .int .u64 (2 : Nat)]))) := Lib.hid ⟨_, 2, rfl, by
    obtain ⟨r, e0, e1, e2⟩ := pre_of3 s h2
    have q : lw s[1] = 98 := (lw_x _ _ (by omega)).2 (by omega)
    rw [e0, e2]
    simp [pre29, hz, q], .inl rfl, by rw [size_drop]; omega⟩
  go_enter Tryd.func57, Tryd.ntmps57
  go_wp2_with fail
  go_ret2
  exact ⟨HP.out, rfl⟩
set_option maxRecDepth 100000 in
theorem prefixed_c111 (s : ByteArray) (hs : s.size ≤ 2147483647) (h2 : 3 ≤ s.size) (hz : s[0].toNat = 48) (hq : s[1].toNat = 111) (w : World) : Calls Tryd.prog 57 #[.string s] w fun e w' => PreIs s e ∧ w = w' := by
  have l3 : decide (3 ≤ (s.size : Int)) = true := decide_eq_true (by omega)
  have e48 : ((s[0].toNat : Int) == 48) = true := by simp [hz]
  have f120 : ((s[1].toNat : Int) == 120) = false := by rw [beq_eq_false_iff_ne]; omega
  have f88 : ((s[1].toNat : Int) == 88) = false := by rw [beq_eq_false_iff_ne]; omega
  have f98 : ((s[1].toNat : Int) == 98) = false := by rw [beq_eq_false_iff_ne]; omega
  have f66 : ((s[1].toNat : Int) == 66) = false := by rw [beq_eq_false_iff_ne]; omega
  have f111 : ((s[1].toNat : Int) == 111) = true := by simp [*]
  have HP : Hid (PreIs s (.returned (.tuple #[.string (s.extract 2 s.size), .int .u64 (8 : Nat)]))) := Lib.hid ⟨_, 8, rfl, by
    obtain ⟨r, e0, e1, e2⟩ := pre_of3 s h2
    have q : lw s[1] = 111 := (lw_x _ _ (by omega)).2 (by omega)
    rw [e0, e2]
    simp [pre29, hz, q], .inr (.inr (.inr ⟨rfl, by omega, by rw [size_drop]; omega⟩)), by rw [size_drop]; omega⟩
  go_enter Tryd.func57, Tryd.ntmps57
  go_wp2_with fail
  go_ret2
  exact ⟨HP.out, rfl⟩
set_option maxRecDepth 100000 in
theorem prefixed_c79 (s : ByteArray) (hs : s.size ≤ 2147483647) (h2 : 3 ≤ s.size) (hz : s[0].toNat = 48) (hq : s[1].toNat = 79) (w : World) : Calls Tryd.prog 57 #[.string s] w fun e w' => PreIs s e ∧ w = w' := by
  have l3 : decide (3 ≤ (s.size : Int)) = true := decide_eq_true (by omega)
  have e48 : ((s[0].toNat : Int) == 48) = true := by simp [hz]
  have f120 : ((s[1].toNat : Int) == 120) = false := by rw [beq_eq_false_iff_ne]; omega
  have f88 : ((s[1].toNat : Int) == 88) = false := by rw [beq_eq_false_iff_ne]; omega
  have f98 : ((s[1].toNat : Int) == 98) = false := by rw [beq_eq_false_iff_ne]; omega
  have f66 : ((s[1].toNat : Int) == 66) = false := by rw [beq_eq_false_iff_ne]; omega
  have f111 : ((s[1].toNat : Int) == 111) = false := by rw [beq_eq_false_iff_ne]; omega
  have f79 : ((s[1].toNat : Int) == 79) = true := by simp [*]
  have HP : Hid (PreIs s (.returned (.tuple #[.string (s.extract 2 s.size), .int .u64 (8 : Nat)]))) := Lib.hid ⟨_, 8, rfl, by
    obtain ⟨r, e0, e1, e2⟩ := pre_of3 s h2
    have q : lw s[1] = 111 := (lw_x _ _ (by omega)).2 (by omega)
    rw [e0, e2]
    simp [pre29, hz, q], .inr (.inr (.inr ⟨rfl, by omega, by rw [size_drop]; omega⟩)), by rw [size_drop]; omega⟩
  go_enter Tryd.func57, Tryd.ntmps57
  go_wp2_with fail
  go_ret2
  exact ⟨HP.out, rfl⟩
set_option maxRecDepth 100000 in
theorem prefixed_n3 (s : ByteArray) (hs : s.size ≤ 2147483647) (h2 : 3 ≤ s.size) (hz : s[0].toNat = 48) (hq : s[1].toNat ≠ 120 ∧ s[1].toNat ≠ 88 ∧ s[1].toNat ≠ 98 ∧ s[1].toNat ≠ 66 ∧ s[1].toNat ≠ 111 ∧ s[1].toNat ≠ 79) (w : World) : Calls Tryd.prog 57 #[.string s] w fun e w' => PreIs s e ∧ w = w' := by
  have l3 : decide (3 ≤ (s.size : Int)) = true := decide_eq_true (by omega)
  have l2 : decide (2 ≤ (s.size : Int)) = true := decide_eq_true (by omega)
  have e48 : ((s[0].toNat : Int) == 48) = true := by simp [hz]
  have f120 : ((s[1].toNat : Int) == 120) = false := by rw [beq_eq_false_iff_ne]; omega
  have f88 : ((s[1].toNat : Int) == 88) = false := by rw [beq_eq_false_iff_ne]; omega
  have f98 : ((s[1].toNat : Int) == 98) = false := by rw [beq_eq_false_iff_ne]; omega
  have f66 : ((s[1].toNat : Int) == 66) = false := by rw [beq_eq_false_iff_ne]; omega
  have f111 : ((s[1].toNat : Int) == 111) = false := by rw [beq_eq_false_iff_ne]; omega
  have f79 : ((s[1].toNat : Int) == 79) = false := by rw [beq_eq_false_iff_ne]; omega
  have HP : Hid (PreIs s (.returned (.tuple #[.string (s.extract 1 s.size), .int .u64 (8 : Nat)]))) := Lib.hid ⟨_, 8, rfl, by
    obtain ⟨r, e0, e1, e2⟩ := pre_of3 s h2
    have q1 : lw s[1] ≠ 98 := fun h => by have := (lw_x _ _ (by omega)).1 h; omega
    have q2 : lw s[1] ≠ 111 := fun h => by have := (lw_x _ _ (by omega)).1 h; omega
    have q3 : lw s[1] ≠ 120 := fun h => by have := (lw_x _ _ (by omega)).1 h; omega
    rw [e0, e1]
    simp [pre29, hz, q1, q2, q3], .inr (.inr (.inr ⟨rfl, by omega, by rw [size_drop]; omega⟩)), by rw [size_drop]; omega⟩
  go_enter Tryd.func57, Tryd.ntmps57
  go_wp2_with fail
  go_ret2
  exact ⟨HP.out, rfl⟩
set_option maxRecDepth 100000 in
theorem prefixed_n2 (s : ByteArray) (hs : s.size ≤ 2147483647) (h2 : 2 ≤ s.size) (h3 : s.size ≤ 2) (hz : s[0].toNat = 48) (w : World) : Calls Tryd.prog 57 #[.string s] w fun e w' => PreIs s e ∧ w = w' := by
  have l3 : decide (3 ≤ (s.size : Int)) = false := decide_eq_false (by omega)
  have l2 : decide (2 ≤ (s.size : Int)) = true := decide_eq_true (by omega)
  have e48 : ((s[0].toNat : Int) == 48) = true := by simp [hz]
  have HP : Hid (PreIs s (.returned (.tuple #[.string (s.extract 1 s.size), .int .u64 (8 : Nat)]))) := Lib.hid ⟨_, 8, rfl, by
    have e := two_heads s (by omega)
    rw [List.drop_eq_nil_of_le (by simp; omega)] at e
    rw [ext_drop, e]
    simp [pre29, hz], .inr (.inr (.inr ⟨rfl, by omega, by rw [size_drop]; omega⟩)), by rw [size_drop]; omega⟩
  go_enter Tryd.func57, Tryd.ntmps57
  go_wp2_with fail
  go_ret2
  exact ⟨HP.out, rfl⟩
set_option maxRecDepth 100000 in
theorem prefixed_d3 (s : ByteArray) (hs : s.size ≤ 2147483647) (h2 : 2 ≤ s.size) (h3 : 3 ≤ s.size) (hz : s[0].toNat ≠ 48) (w : World) : Calls Tryd.prog 57 #[.string s] w fun e w' => PreIs s e ∧ w = w' := by
  have l3 : decide (3 ≤ (s.size : Int)) = true := decide_eq_true (by omega)
  have l2 : decide (2 ≤ (s.size : Int)) = true := decide_eq_true (by omega)
  have e48 : ((s[0].toNat : Int) == 48) = false := by rw [beq_eq_false_iff_ne]; omega
  have HP : Hid (PreIs s (.returned (.tuple #[.string s, .int .u64 (10 : Nat)]))) := Lib.hid ⟨_, 10, rfl, by
    have e := two_heads s h2
    obtain ⟨l, hl⟩ : ∃ l, l = s.data.toList.drop 2 := ⟨_, rfl⟩
    rw [← hl] at e
    rw [e]
    match l with
    | [] => simp [pre29, hz]
    | _ :: _ => simp [pre29, hz], .inr (.inl rfl), Nat.le_refl _⟩
  go_enter Tryd.func57, Tryd.ntmps57
  go_wp2_with fail
  go_ret2
  exact ⟨HP.out, rfl⟩
set_option maxRecDepth 100000 in
theorem prefixed_d2 (s : ByteArray) (hs : s.size ≤ 2147483647) (h2 : 2 ≤ s.size) (h3 : s.size < 3) (hz : s[0].toNat ≠ 48) (w : World) : Calls Tryd.prog 57 #[.string s] w fun e w' => PreIs s e ∧ w = w' := by
  have l3 : decide (3 ≤ (s.size : Int)) = false := decide_eq_false (by omega)
  have l2 : decide (2 ≤ (s.size : Int)) = true := decide_eq_true (by omega)
  have e48 : ((s[0].toNat : Int) == 48) = false := by rw [beq_eq_false_iff_ne]; omega
  have HP : Hid (PreIs s (.returned (.tuple #[.string s, .int .u64 (10 : Nat)]))) := Lib.hid ⟨_, 10, rfl, by
    have e := two_heads s h2
    obtain ⟨l, hl⟩ : ∃ l, l = s.data.toList.drop 2 := ⟨_, rfl⟩
    rw [← hl] at e
    rw [e]
    match l with
    | [] => simp [pre29, hz]
    | _ :: _ => simp [pre29, hz], .inr (.inl rfl), Nat.le_refl _⟩
  go_enter Tryd.func57, Tryd.ntmps57
  go_wp2_with fail
  go_ret2
  exact ⟨HP.out, rfl⟩
set_option maxRecDepth 100000 in
theorem prefixed_s (s : ByteArray) (hs : s.size ≤ 2147483647) (h2 : s.size < 2) (w : World) : Calls Tryd.prog 57 #[.string s] w fun e w' => PreIs s e ∧ w = w' := by
  have l3 : decide (3 ≤ (s.size : Int)) = false := decide_eq_false (by omega)
  have l2 : decide (2 ≤ (s.size : Int)) = false := decide_eq_false (by omega)
  have HP : Hid (PreIs s (.returned (.tuple #[.string s, .int .u64 (10 : Nat)]))) := Lib.hid ⟨_, 10, rfl, by
    by_cases h0 : s.size = 1
    · rw [one_head s h0]; rfl
    · have : s.data.toList = [] := List.length_eq_zero_iff.1 (by rw [Array.length_toList]; show s.size = 0; omega)
      rw [this]; rfl, .inr (.inl rfl), Nat.le_refl _⟩
  go_enter Tryd.func57, Tryd.ntmps57
  go_wp2_with fail
  go_ret2
  exact ⟨HP.out, rfl⟩
theorem prefixed_any (s : ByteArray) (hs : s.size ≤ 2147483647) (w : World) : Calls Tryd.prog 57 #[.string s] w fun e w' => PreIs s e ∧ w = w' := by
  by_cases h2 : 2 ≤ s.size
  · by_cases hz : s[0].toNat = 48
    · by_cases h3 : 3 ≤ s.size
      · by_cases q1 : s[1].toNat = 120
        · exact prefixed_c120 s hs h3 hz q1 w
        by_cases q2 : s[1].toNat = 88
        · exact prefixed_c88 s hs h3 hz q2 w
        by_cases q3 : s[1].toNat = 98
        · exact prefixed_c98 s hs h3 hz q3 w
        by_cases q4 : s[1].toNat = 66
        · exact prefixed_c66 s hs h3 hz q4 w
        by_cases q5 : s[1].toNat = 111
        · exact prefixed_c111 s hs h3 hz q5 w
        by_cases q6 : s[1].toNat = 79
        · exact prefixed_c79 s hs h3 hz q6 w
        exact prefixed_n3 s hs h3 hz ⟨q1, q2, q3, q4, q5, q6⟩ w
      · exact prefixed_n2 s hs h2 (by omega) hz w
    · by_cases h3 : 3 ≤ s.size
      · exact prefixed_d3 s hs h2 h3 hz w
      · exact prefixed_d2 s hs h2 (by omega) hz w
  · exact prefixed_s s hs (by omega) w

/-- A truth. -/
def SomeB (e : Ending) : Prop := ∃ b, e = .returned (.bool b)
theorem SomeB.mk_ (b : Bool) : SomeB (.returned (.bool b)) := ⟨b, rfl⟩
def Quiet (w w' : World) : Prop := ∃ n, w' = w.drewN n
theorem Quiet.below {w w' : World} (h : Quiet w w') : Below w.heap.size w w' := by obtain ⟨n, rfl⟩ := h; exact Below.drewN' (Below.refl _ _)

set_option maxRecDepth 100000 in
set_option maxHeartbeats 3200000 in
theorem plain_any (s : ByteArray) (hs : s.size ≤ 2147483647) (w : World) : Calls Tryd.prog 56 #[.string s] w fun e w' => SomeB e ∧ Quiet w w' := by
  have C := Lib.hid (prefixed_any s hs w)
  go_enter Tryd.func56, Tryd.ntmps56
  go_wp2_with fail
  refine C.out.mono ?_
  rintro e w' ⟨⟨t, B, rfl, hpre, hB, hts⟩, rfl⟩
  clear hpre C
  rcases hB with rfl | rfl | rfl | ⟨rfl, g1, g2⟩
  · go_wp2_with fail
    go_quiet (fail)
    go_wp2_with fail
    go_ret
    exact ⟨SomeB.mk_ _, _, rfl⟩
  · cases h0 : (t.toList == []) with
    | true =>
      go_wp2_with fail
      go_quiet (fail)
      go_wp2_with fail
      go_ret
      exact ⟨SomeB.mk_ _, _, rfl⟩
    | false =>
      have ht0 : t.size ≤ 2147483647 := by omega
      go_wp2_with fail
      go_quiet (fail)
      go_wp2_with fail
      go_loop [30] (fun i => ∃ k : Nat, k ≤ t.size ∧ i = .int .i64 (k : Nat)) (fun i => t.size - (intOf i).toNat)
      case atStart => exact ⟨0, Nat.zero_le _, rfl⟩
      case round =>
        obtain ⟨k, hk, rfl⟩ := hrel
        by_cases hlt : k < t.size
        · have C2 := Lib.hid (fun W => (show Calls Tryd.prog 52 #[.int .u8 (t[k].toNat : Nat), .int .u64 10] W fun e w' => e = .returned (.int .i64 (d29 t[k] 10)) ∧ W = w' from digit_any t[k] 10 (by omega) W))
          generalize d29 t[k] 10 = r at *
          go_wp2_with fail
          refine (C2.out _).mono ?_
          rintro e w' ⟨rfl, rfl⟩
          by_cases hr : r < 0
          · go_wp2_with fail
            go_ret
            exact ⟨SomeB.mk_ _, _, rfl⟩
          · have hr' : 0 ≤ r := by omega
            go_wp2_with fail
            go_round
            case rel => exact ⟨k + 1, by omega, by go_num⟩
            case measure => simp [intOf]; omega
        · go_wp2_with fail
          go_ret
          exact ⟨SomeB.mk_ _, _, rfl⟩
  · cases h0 : (t.toList == []) with
    | true =>
      go_wp2_with fail
      go_quiet (fail)
      go_wp2_with fail
      go_ret
      exact ⟨SomeB.mk_ _, _, rfl⟩
    | false =>
      have ht0 : t.size ≤ 2147483647 := by omega
      go_wp2_with fail
      go_quiet (fail)
      go_wp2_with fail
      go_loop [30] (fun i => ∃ k : Nat, k ≤ t.size ∧ i = .int .i64 (k : Nat)) (fun i => t.size - (intOf i).toNat)
      case atStart => exact ⟨0, Nat.zero_le _, rfl⟩
      case round =>
        obtain ⟨k, hk, rfl⟩ := hrel
        by_cases hlt : k < t.size
        · have C2 := Lib.hid (fun W => (show Calls Tryd.prog 52 #[.int .u8 (t[k].toNat : Nat), .int .u64 16] W fun e w' => e = .returned (.int .i64 (d29 t[k] 16)) ∧ W = w' from digit_any t[k] 16 (by omega) W))
          generalize d29 t[k] 16 = r at *
          go_wp2_with fail
          refine (C2.out _).mono ?_
          rintro e w' ⟨rfl, rfl⟩
          by_cases hr : r < 0
          · go_wp2_with fail
            go_ret
            exact ⟨SomeB.mk_ _, _, rfl⟩
          · have hr' : 0 ≤ r := by omega
            go_wp2_with fail
            go_round
            case rel => exact ⟨k + 1, by omega, by go_num⟩
            case measure => simp [intOf]; omega
        · go_wp2_with fail
          go_ret
          exact ⟨SomeB.mk_ _, _, rfl⟩
  · have h0 := ne_empty g2
    have ht0 : t.size ≤ 2147483647 := by omega
    have x1 : (1 : Int) < (s.size : Int) := by omega
    have x2 : (0 : Int) < (t.size : Int) := by omega
    cases hq : ((s[1].toNat : Int) != (t[0].toNat : Int)) with
    | true =>
      go_wp2_with fail
      go_quiet (fail)
      go_wp2_with fail
      go_ret
      exact ⟨SomeB.mk_ _, _, rfl⟩
    | false =>
      go_wp2_with fail
      go_quiet (fail)
      go_wp2_with fail
      go_loop [30] (fun i => ∃ k : Nat, k ≤ t.size ∧ i = .int .i64 (k : Nat)) (fun i => t.size - (intOf i).toNat)
      case atStart => exact ⟨0, Nat.zero_le _, rfl⟩
      case round =>
        obtain ⟨k, hk, rfl⟩ := hrel
        by_cases hlt : k < t.size
        · have C2 := Lib.hid (fun W => (show Calls Tryd.prog 52 #[.int .u8 (t[k].toNat : Nat), .int .u64 8] W fun e w' => e = .returned (.int .i64 (d29 t[k] 8)) ∧ W = w' from digit_any t[k] 8 (by omega) W))
          generalize d29 t[k] 8 = r at *
          go_wp2_with fail
          refine (C2.out _).mono ?_
          rintro e w' ⟨rfl, rfl⟩
          by_cases hr : r < 0
          · go_wp2_with fail
            go_ret
            exact ⟨SomeB.mk_ _, _, rfl⟩
          · have hr' : 0 ≤ r := by omega
            go_wp2_with fail
            go_round
            case rel => exact ⟨k + 1, by omega, by go_num⟩
            case measure => simp [intOf]; omega
        · go_wp2_with fail
          go_ret
          exact ⟨SomeB.mk_ _, _, rfl⟩

set_option maxRecDepth 100000 in
set_option maxHeartbeats 6400000 in
theorem digits_2 (t : ByteArray) (ht : t.size ≤ 2147483647) (M : Nat) (hM : 255 ≤ M ∧ M ≤ 18446744073709551615) (w : World) : Calls Tryd.prog 34 #[.string t, .int .u64 2, .int .u64 (M : Nat)] w fun e w' => e = .returned (.tuple #[.int .u64 ((dres 2 M t.data.toList).1 : Nat), .int .i64 ((dres 2 M t.data.toList).2 : Nat)]) ∧ w = w' := by
  obtain ⟨R, hR⟩ : ∃ R, R = dres 2 M t.data.toList := ⟨_, rfl⟩
  rw [← hR]
  obtain ⟨m, hm⟩ : ∃ m : Int, m = (M : Nat) := ⟨_, rfl⟩
  rw [← hm]
  have m1 : 255 ≤ m := by omega
  have m2 : m ≤ 18446744073709551615 := by omega
  by_cases h0 : t.size = 0
  · obtain rfl : t = ⟨#[]⟩ := by
      apply ByteArray.ext
      exact Array.eq_empty_of_size_eq_zero h0
    have HF : Hid (R = (0, 2)) := Lib.hid hR
    clear hR hm hM h0
    go_enter Tryd.func34, Tryd.ntmps34
    go_wp2_with fail
    go_ret2
    rw [HF.out]
    exact ⟨rfl, rfl⟩
  have hne := ne_empty (s := t) (by omega)
  have HR : Hid (R = dend (dgs 2 M 0 false t.data.toList)) := Lib.hid (by rw [hR, dres, if_neg (ne_nil (by omega))])
  clear hR h0
  go_enter Tryd.func34, Tryd.ntmps34
  go_wp2_with fail
  go_loop [8, 9, 16] (fun vn vo vi => ∃ (k : Nat) (a : Int) (over : Bool), k ≤ t.size ∧ vn = .int .u64 a ∧ vo = .bool over ∧ vi = .int .i64 (k : Nat) ∧ Hid (∃ n : Nat, a = n ∧ n ≤ M ∧ dgs 2 M 0 false t.data.toList = dgs 2 M n over (t.data.toList.drop k))) (fun _ _ vi => t.size - (intOf vi).toNat)
  case atStart => exact ⟨0, 0, false, Nat.zero_le _, rfl, rfl, rfl, Lib.hid ⟨0, rfl, by omega, rfl⟩⟩
  case round =>
    obtain ⟨k, a, over, hk, rfl, rfl, rfl, hh⟩ := hrel
    obtain ⟨n, ha, hn, hd⟩ := hh.out
    clear hh
    have a0 : 0 ≤ a := by omega
    have a1 : a ≤ m := by omega
    by_cases hlt : k < t.size
    · rw [drop_get t k hlt] at hd
      have C2 := Lib.hid (fun W => (show Calls Tryd.prog 52 #[.int .u8 (t[k].toNat : Nat), .int .u64 2] W fun e w' => e = .returned (.int .i64 (d29 t[k] 2)) ∧ W = w' from digit_any t[k] 2 (by omega) W))
      by_cases hdB : dig0 t[k] < 2
      · have er : d29 t[k] 2 = (dig0 t[k] : Nat) := by rw [d29, if_pos hdB]
        rw [er] at C2
        have HG : Hid (dgs 2 M 0 false t.data.toList = if over || decide (n * 2 + dig0 t[k] > M) then dgs 2 M n true (t.data.toList.drop (k + 1)) else dgs 2 M (n * 2 + dig0 t[k]) over (t.data.toList.drop (k + 1))) := Lib.hid (by rw [hd, dgs, if_pos hdB])
        clear hd er
        generalize dig0 t[k] = dn at *
        obtain ⟨d, hd⟩ : ∃ d : Int, d = (dn : Nat) := ⟨_, rfl⟩
        rw [← hd] at C2
        have d0 : 0 ≤ d := by omega
        have d1 : d < 2 := by omega
        cases over with
        | true =>
          have HN : Hid (∃ n : Nat, a = n ∧ n ≤ M ∧ dgs 2 M 0 false t.data.toList = dgs 2 M n true (t.data.toList.drop (k + 1))) := Lib.hid ⟨n, ha, hn, HG.out⟩
          clear HG ha hn hd hdB hm hM
          go_wp2_with (refine (C2.out _).mono ?_; rintro e w' ⟨rfl, rfl⟩)
          go_round
          case rel => exact ⟨k + 1, a, true, by omega, rfl, rfl, by go_num, HN⟩
          case measure => simp [intOf]; omega
        | false =>
          by_cases hov : n * 2 + dn > M
          · have HN : Hid (∃ n : Nat, a = n ∧ n ≤ M ∧ dgs 2 M 0 false t.data.toList = dgs 2 M n true (t.data.toList.drop (k + 1))) := Lib.hid ⟨n, ha, hn, by rw [HG.out]; simp [hov]⟩
            have q : (m - d) / 2 < a := by omega
            clear HG ha hn hd hdB hm hov hM
            go_wp2_with (refine (C2.out _).mono ?_; rintro e w' ⟨rfl, rfl⟩)
            go_round
            case rel => exact ⟨k + 1, a, true, by omega, rfl, rfl, by go_num, HN⟩
            case measure => simp [intOf]; omega
          · have HN : Hid (∃ n : Nat, a * 2 + d = n ∧ n ≤ M ∧ dgs 2 M 0 false t.data.toList = dgs 2 M n false (t.data.toList.drop (k + 1))) := Lib.hid ⟨n * 2 + dn, by omega, by omega, by rw [HG.out]; simp [hov]⟩
            have q : a ≤ (m - d) / 2 := by omega
            have q2 : d ≤ m := by omega
            have q3 : a * 2 + d ≤ m := by omega
            clear HG ha hn hd hdB hm hov hM
            go_wp2_with (refine (C2.out _).mono ?_; rintro e w' ⟨rfl, rfl⟩)
            go_round
            case rel => exact ⟨k + 1, _, false, by omega, rfl, rfl, by go_num, HN⟩
            case measure => simp [intOf]; omega
      · have er : d29 t[k] 2 = -1 := by rw [d29, if_neg hdB]
        rw [er] at C2
        have HF : Hid (R = (0, 2)) := Lib.hid (by rw [HR.out, hd, dgs, if_neg hdB]; rfl)
        clear hd er ha hn hdB hm hM
        go_wp2_with (refine (C2.out _).mono ?_; rintro e w' ⟨rfl, rfl⟩)
        go_ret2
        rw [HF.out]
        exact ⟨rfl, rfl⟩
    · have HF : Hid (R = if over then (0, 2) else (n, 1)) := Lib.hid (by rw [HR.out, hd, List.drop_eq_nil_of_le (by simp; omega)]; rfl)
      subst ha
      clear hd hn hm hM
      cases over
      all_goals
        go_wp2_with fail
        go_ret2
        rw [HF.out]
        exact ⟨rfl, rfl⟩

set_option maxRecDepth 100000 in
set_option maxHeartbeats 6400000 in
theorem digits_8 (t : ByteArray) (ht : t.size ≤ 2147483647) (M : Nat) (hM : 255 ≤ M ∧ M ≤ 18446744073709551615) (w : World) : Calls Tryd.prog 34 #[.string t, .int .u64 8, .int .u64 (M : Nat)] w fun e w' => e = .returned (.tuple #[.int .u64 ((dres 8 M t.data.toList).1 : Nat), .int .i64 ((dres 8 M t.data.toList).2 : Nat)]) ∧ w = w' := by
  obtain ⟨R, hR⟩ : ∃ R, R = dres 8 M t.data.toList := ⟨_, rfl⟩
  rw [← hR]
  obtain ⟨m, hm⟩ : ∃ m : Int, m = (M : Nat) := ⟨_, rfl⟩
  rw [← hm]
  have m1 : 255 ≤ m := by omega
  have m2 : m ≤ 18446744073709551615 := by omega
  by_cases h0 : t.size = 0
  · obtain rfl : t = ⟨#[]⟩ := by
      apply ByteArray.ext
      exact Array.eq_empty_of_size_eq_zero h0
    have HF : Hid (R = (0, 2)) := Lib.hid hR
    clear hR hm hM h0
    go_enter Tryd.func34, Tryd.ntmps34
    go_wp2_with fail
    go_ret2
    rw [HF.out]
    exact ⟨rfl, rfl⟩
  have hne := ne_empty (s := t) (by omega)
  have HR : Hid (R = dend (dgs 8 M 0 false t.data.toList)) := Lib.hid (by rw [hR, dres, if_neg (ne_nil (by omega))])
  clear hR h0
  go_enter Tryd.func34, Tryd.ntmps34
  go_wp2_with fail
  go_loop [8, 9, 16] (fun vn vo vi => ∃ (k : Nat) (a : Int) (over : Bool), k ≤ t.size ∧ vn = .int .u64 a ∧ vo = .bool over ∧ vi = .int .i64 (k : Nat) ∧ Hid (∃ n : Nat, a = n ∧ n ≤ M ∧ dgs 8 M 0 false t.data.toList = dgs 8 M n over (t.data.toList.drop k))) (fun _ _ vi => t.size - (intOf vi).toNat)
  case atStart => exact ⟨0, 0, false, Nat.zero_le _, rfl, rfl, rfl, Lib.hid ⟨0, rfl, by omega, rfl⟩⟩
  case round =>
    obtain ⟨k, a, over, hk, rfl, rfl, rfl, hh⟩ := hrel
    obtain ⟨n, ha, hn, hd⟩ := hh.out
    clear hh
    have a0 : 0 ≤ a := by omega
    have a1 : a ≤ m := by omega
    by_cases hlt : k < t.size
    · rw [drop_get t k hlt] at hd
      have C2 := Lib.hid (fun W => (show Calls Tryd.prog 52 #[.int .u8 (t[k].toNat : Nat), .int .u64 8] W fun e w' => e = .returned (.int .i64 (d29 t[k] 8)) ∧ W = w' from digit_any t[k] 8 (by omega) W))
      by_cases hdB : dig0 t[k] < 8
      · have er : d29 t[k] 8 = (dig0 t[k] : Nat) := by rw [d29, if_pos hdB]
        rw [er] at C2
        have HG : Hid (dgs 8 M 0 false t.data.toList = if over || decide (n * 8 + dig0 t[k] > M) then dgs 8 M n true (t.data.toList.drop (k + 1)) else dgs 8 M (n * 8 + dig0 t[k]) over (t.data.toList.drop (k + 1))) := Lib.hid (by rw [hd, dgs, if_pos hdB])
        clear hd er
        generalize dig0 t[k] = dn at *
        obtain ⟨d, hd⟩ : ∃ d : Int, d = (dn : Nat) := ⟨_, rfl⟩
        rw [← hd] at C2
        have d0 : 0 ≤ d := by omega
        have d1 : d < 8 := by omega
        cases over with
        | true =>
          have HN : Hid (∃ n : Nat, a = n ∧ n ≤ M ∧ dgs 8 M 0 false t.data.toList = dgs 8 M n true (t.data.toList.drop (k + 1))) := Lib.hid ⟨n, ha, hn, HG.out⟩
          clear HG ha hn hd hdB hm hM
          go_wp2_with (refine (C2.out _).mono ?_; rintro e w' ⟨rfl, rfl⟩)
          go_round
          case rel => exact ⟨k + 1, a, true, by omega, rfl, rfl, by go_num, HN⟩
          case measure => simp [intOf]; omega
        | false =>
          by_cases hov : n * 8 + dn > M
          · have HN : Hid (∃ n : Nat, a = n ∧ n ≤ M ∧ dgs 8 M 0 false t.data.toList = dgs 8 M n true (t.data.toList.drop (k + 1))) := Lib.hid ⟨n, ha, hn, by rw [HG.out]; simp [hov]⟩
            have q : (m - d) / 8 < a := by omega
            clear HG ha hn hd hdB hm hov hM
            go_wp2_with (refine (C2.out _).mono ?_; rintro e w' ⟨rfl, rfl⟩)
            go_round
            case rel => exact ⟨k + 1, a, true, by omega, rfl, rfl, by go_num, HN⟩
            case measure => simp [intOf]; omega
          · have HN : Hid (∃ n : Nat, a * 8 + d = n ∧ n ≤ M ∧ dgs 8 M 0 false t.data.toList = dgs 8 M n false (t.data.toList.drop (k + 1))) := Lib.hid ⟨n * 8 + dn, by omega, by omega, by rw [HG.out]; simp [hov]⟩
            have q : a ≤ (m - d) / 8 := by omega
            have q2 : d ≤ m := by omega
            have q3 : a * 8 + d ≤ m := by omega
            clear HG ha hn hd hdB hm hov hM
            go_wp2_with (refine (C2.out _).mono ?_; rintro e w' ⟨rfl, rfl⟩)
            go_round
            case rel => exact ⟨k + 1, _, false, by omega, rfl, rfl, by go_num, HN⟩
            case measure => simp [intOf]; omega
      · have er : d29 t[k] 8 = -1 := by rw [d29, if_neg hdB]
        rw [er] at C2
        have HF : Hid (R = (0, 2)) := Lib.hid (by rw [HR.out, hd, dgs, if_neg hdB]; rfl)
        clear hd er ha hn hdB hm hM
        go_wp2_with (refine (C2.out _).mono ?_; rintro e w' ⟨rfl, rfl⟩)
        go_ret2
        rw [HF.out]
        exact ⟨rfl, rfl⟩
    · have HF : Hid (R = if over then (0, 2) else (n, 1)) := Lib.hid (by rw [HR.out, hd, List.drop_eq_nil_of_le (by simp; omega)]; rfl)
      subst ha
      clear hd hn hm hM
      cases over
      all_goals
        go_wp2_with fail
        go_ret2
        rw [HF.out]
        exact ⟨rfl, rfl⟩

set_option maxRecDepth 100000 in
set_option maxHeartbeats 6400000 in
theorem digits_10 (t : ByteArray) (ht : t.size ≤ 2147483647) (M : Nat) (hM : 255 ≤ M ∧ M ≤ 18446744073709551615) (w : World) : Calls Tryd.prog 34 #[.string t, .int .u64 10, .int .u64 (M : Nat)] w fun e w' => e = .returned (.tuple #[.int .u64 ((dres 10 M t.data.toList).1 : Nat), .int .i64 ((dres 10 M t.data.toList).2 : Nat)]) ∧ w = w' := by
  obtain ⟨R, hR⟩ : ∃ R, R = dres 10 M t.data.toList := ⟨_, rfl⟩
  rw [← hR]
  obtain ⟨m, hm⟩ : ∃ m : Int, m = (M : Nat) := ⟨_, rfl⟩
  rw [← hm]
  have m1 : 255 ≤ m := by omega
  have m2 : m ≤ 18446744073709551615 := by omega
  by_cases h0 : t.size = 0
  · obtain rfl : t = ⟨#[]⟩ := by
      apply ByteArray.ext
      exact Array.eq_empty_of_size_eq_zero h0
    have HF : Hid (R = (0, 2)) := Lib.hid hR
    clear hR hm hM h0
    go_enter Tryd.func34, Tryd.ntmps34
    go_wp2_with fail
    go_ret2
    rw [HF.out]
    exact ⟨rfl, rfl⟩
  have hne := ne_empty (s := t) (by omega)
  have HR : Hid (R = dend (dgs 10 M 0 false t.data.toList)) := Lib.hid (by rw [hR, dres, if_neg (ne_nil (by omega))])
  clear hR h0
  go_enter Tryd.func34, Tryd.ntmps34
  go_wp2_with fail
  go_loop [8, 9, 16] (fun vn vo vi => ∃ (k : Nat) (a : Int) (over : Bool), k ≤ t.size ∧ vn = .int .u64 a ∧ vo = .bool over ∧ vi = .int .i64 (k : Nat) ∧ Hid (∃ n : Nat, a = n ∧ n ≤ M ∧ dgs 10 M 0 false t.data.toList = dgs 10 M n over (t.data.toList.drop k))) (fun _ _ vi => t.size - (intOf vi).toNat)
  case atStart => exact ⟨0, 0, false, Nat.zero_le _, rfl, rfl, rfl, Lib.hid ⟨0, rfl, by omega, rfl⟩⟩
  case round =>
    obtain ⟨k, a, over, hk, rfl, rfl, rfl, hh⟩ := hrel
    obtain ⟨n, ha, hn, hd⟩ := hh.out
    clear hh
    have a0 : 0 ≤ a := by omega
    have a1 : a ≤ m := by omega
    by_cases hlt : k < t.size
    · rw [drop_get t k hlt] at hd
      have C2 := Lib.hid (fun W => (show Calls Tryd.prog 52 #[.int .u8 (t[k].toNat : Nat), .int .u64 10] W fun e w' => e = .returned (.int .i64 (d29 t[k] 10)) ∧ W = w' from digit_any t[k] 10 (by omega) W))
      by_cases hdB : dig0 t[k] < 10
      · have er : d29 t[k] 10 = (dig0 t[k] : Nat) := by rw [d29, if_pos hdB]
        rw [er] at C2
        have HG : Hid (dgs 10 M 0 false t.data.toList = if over || decide (n * 10 + dig0 t[k] > M) then dgs 10 M n true (t.data.toList.drop (k + 1)) else dgs 10 M (n * 10 + dig0 t[k]) over (t.data.toList.drop (k + 1))) := Lib.hid (by rw [hd, dgs, if_pos hdB])
        clear hd er
        generalize dig0 t[k] = dn at *
        obtain ⟨d, hd⟩ : ∃ d : Int, d = (dn : Nat) := ⟨_, rfl⟩
        rw [← hd] at C2
        have d0 : 0 ≤ d := by omega
        have d1 : d < 10 := by omega
        cases over with
        | true =>
          have HN : Hid (∃ n : Nat, a = n ∧ n ≤ M ∧ dgs 10 M 0 false t.data.toList = dgs 10 M n true (t.data.toList.drop (k + 1))) := Lib.hid ⟨n, ha, hn, HG.out⟩
          clear HG ha hn hd hdB hm hM
          go_wp2_with (refine (C2.out _).mono ?_; rintro e w' ⟨rfl, rfl⟩)
          go_round
          case rel => exact ⟨k + 1, a, true, by omega, rfl, rfl, by go_num, HN⟩
          case measure => simp [intOf]; omega
        | false =>
          by_cases hov : n * 10 + dn > M
          · have HN : Hid (∃ n : Nat, a = n ∧ n ≤ M ∧ dgs 10 M 0 false t.data.toList = dgs 10 M n true (t.data.toList.drop (k + 1))) := Lib.hid ⟨n, ha, hn, by rw [HG.out]; simp [hov]⟩
            have q : (m - d) / 10 < a := by omega
            clear HG ha hn hd hdB hm hov hM
            go_wp2_with (refine (C2.out _).mono ?_; rintro e w' ⟨rfl, rfl⟩)
            go_round
            case rel => exact ⟨k + 1, a, true, by omega, rfl, rfl, by go_num, HN⟩
            case measure => simp [intOf]; omega
          · have HN : Hid (∃ n : Nat, a * 10 + d = n ∧ n ≤ M ∧ dgs 10 M 0 false t.data.toList = dgs 10 M n false (t.data.toList.drop (k + 1))) := Lib.hid ⟨n * 10 + dn, by omega, by omega, by rw [HG.out]; simp [hov]⟩
            have q : a ≤ (m - d) / 10 := by omega
            have q2 : d ≤ m := by omega
            have q3 : a * 10 + d ≤ m := by omega
            clear HG ha hn hd hdB hm hov hM
            go_wp2_with (refine (C2.out _).mono ?_; rintro e w' ⟨rfl, rfl⟩)
            go_round
            case rel => exact ⟨k + 1, _, false, by omega, rfl, rfl, by go_num, HN⟩
            case measure => simp [intOf]; omega
      · have er : d29 t[k] 10 = -1 := by rw [d29, if_neg hdB]
        rw [er] at C2
        have HF : Hid (R = (0, 2)) := Lib.hid (by rw [HR.out, hd, dgs, if_neg hdB]; rfl)
        clear hd er ha hn hdB hm hM
        go_wp2_with (refine (C2.out _).mono ?_; rintro e w' ⟨rfl, rfl⟩)
        go_ret2
        rw [HF.out]
        exact ⟨rfl, rfl⟩
    · have HF : Hid (R = if over then (0, 2) else (n, 1)) := Lib.hid (by rw [HR.out, hd, List.drop_eq_nil_of_le (by simp; omega)]; rfl)
      subst ha
      clear hd hn hm hM
      cases over
      all_goals
        go_wp2_with fail
        go_ret2
        rw [HF.out]
        exact ⟨rfl, rfl⟩

set_option maxRecDepth 100000 in
set_option maxHeartbeats 6400000 in
theorem digits_16 (t : ByteArray) (ht : t.size ≤ 2147483647) (M : Nat) (hM : 255 ≤ M ∧ M ≤ 18446744073709551615) (w : World) : Calls Tryd.prog 34 #[.string t, .int .u64 16, .int .u64 (M : Nat)] w fun e w' => e = .returned (.tuple #[.int .u64 ((dres 16 M t.data.toList).1 : Nat), .int .i64 ((dres 16 M t.data.toList).2 : Nat)]) ∧ w = w' := by
  obtain ⟨R, hR⟩ : ∃ R, R = dres 16 M t.data.toList := ⟨_, rfl⟩
  rw [← hR]
  obtain ⟨m, hm⟩ : ∃ m : Int, m = (M : Nat) := ⟨_, rfl⟩
  rw [← hm]
  have m1 : 255 ≤ m := by omega
  have m2 : m ≤ 18446744073709551615 := by omega
  by_cases h0 : t.size = 0
  · obtain rfl : t = ⟨#[]⟩ := by
      apply ByteArray.ext
      exact Array.eq_empty_of_size_eq_zero h0
    have HF : Hid (R = (0, 2)) := Lib.hid hR
    clear hR hm hM h0
    go_enter Tryd.func34, Tryd.ntmps34
    go_wp2_with fail
    go_ret2
    rw [HF.out]
    exact ⟨rfl, rfl⟩
  have hne := ne_empty (s := t) (by omega)
  have HR : Hid (R = dend (dgs 16 M 0 false t.data.toList)) := Lib.hid (by rw [hR, dres, if_neg (ne_nil (by omega))])
  clear hR h0
  go_enter Tryd.func34, Tryd.ntmps34
  go_wp2_with fail
  go_loop [8, 9, 16] (fun vn vo vi => ∃ (k : Nat) (a : Int) (over : Bool), k ≤ t.size ∧ vn = .int .u64 a ∧ vo = .bool over ∧ vi = .int .i64 (k : Nat) ∧ Hid (∃ n : Nat, a = n ∧ n ≤ M ∧ dgs 16 M 0 false t.data.toList = dgs 16 M n over (t.data.toList.drop k))) (fun _ _ vi => t.size - (intOf vi).toNat)
  case atStart => exact ⟨0, 0, false, Nat.zero_le _, rfl, rfl, rfl, Lib.hid ⟨0, rfl, by omega, rfl⟩⟩
  case round =>
    obtain ⟨k, a, over, hk, rfl, rfl, rfl, hh⟩ := hrel
    obtain ⟨n, ha, hn, hd⟩ := hh.out
    clear hh
    have a0 : 0 ≤ a := by omega
    have a1 : a ≤ m := by omega
    by_cases hlt : k < t.size
    · rw [drop_get t k hlt] at hd
      have C2 := Lib.hid (fun W => (show Calls Tryd.prog 52 #[.int .u8 (t[k].toNat : Nat), .int .u64 16] W fun e w' => e = .returned (.int .i64 (d29 t[k] 16)) ∧ W = w' from digit_any t[k] 16 (by omega) W))
      by_cases hdB : dig0 t[k] < 16
      · have er : d29 t[k] 16 = (dig0 t[k] : Nat) := by rw [d29, if_pos hdB]
        rw [er] at C2
        have HG : Hid (dgs 16 M 0 false t.data.toList = if over || decide (n * 16 + dig0 t[k] > M) then dgs 16 M n true (t.data.toList.drop (k + 1)) else dgs 16 M (n * 16 + dig0 t[k]) over (t.data.toList.drop (k + 1))) := Lib.hid (by rw [hd, dgs, if_pos hdB])
        clear hd er
        generalize dig0 t[k] = dn at *
        obtain ⟨d, hd⟩ : ∃ d : Int, d = (dn : Nat) := ⟨_, rfl⟩
        rw [← hd] at C2
        have d0 : 0 ≤ d := by omega
        have d1 : d < 16 := by omega
        cases over with
        | true =>
          have HN : Hid (∃ n : Nat, a = n ∧ n ≤ M ∧ dgs 16 M 0 false t.data.toList = dgs 16 M n true (t.data.toList.drop (k + 1))) := Lib.hid ⟨n, ha, hn, HG.out⟩
          clear HG ha hn hd hdB hm hM
          go_wp2_with (refine (C2.out _).mono ?_; rintro e w' ⟨rfl, rfl⟩)
          go_round
          case rel => exact ⟨k + 1, a, true, by omega, rfl, rfl, by go_num, HN⟩
          case measure => simp [intOf]; omega
        | false =>
          by_cases hov : n * 16 + dn > M
          · have HN : Hid (∃ n : Nat, a = n ∧ n ≤ M ∧ dgs 16 M 0 false t.data.toList = dgs 16 M n true (t.data.toList.drop (k + 1))) := Lib.hid ⟨n, ha, hn, by rw [HG.out]; simp [hov]⟩
            have q : (m - d) / 16 < a := by omega
            clear HG ha hn hd hdB hm hov hM
            go_wp2_with (refine (C2.out _).mono ?_; rintro e w' ⟨rfl, rfl⟩)
            go_round
            case rel => exact ⟨k + 1, a, true, by omega, rfl, rfl, by go_num, HN⟩
            case measure => simp [intOf]; omega
          · have HN : Hid (∃ n : Nat, a * 16 + d = n ∧ n ≤ M ∧ dgs 16 M 0 false t.data.toList = dgs 16 M n false (t.data.toList.drop (k + 1))) := Lib.hid ⟨n * 16 + dn, by omega, by omega, by rw [HG.out]; simp [hov]⟩
            have q : a ≤ (m - d) / 16 := by omega
            have q2 : d ≤ m := by omega
            have q3 : a * 16 + d ≤ m := by omega
            clear HG ha hn hd hdB hm hov hM
            go_wp2_with (refine (C2.out _).mono ?_; rintro e w' ⟨rfl, rfl⟩)
            go_round
            case rel => exact ⟨k + 1, _, false, by omega, rfl, rfl, by go_num, HN⟩
            case measure => simp [intOf]; omega
      · have er : d29 t[k] 16 = -1 := by rw [d29, if_neg hdB]
        rw [er] at C2
        have HF : Hid (R = (0, 2)) := Lib.hid (by rw [HR.out, hd, dgs, if_neg hdB]; rfl)
        clear hd er ha hn hdB hm hM
        go_wp2_with (refine (C2.out _).mono ?_; rintro e w' ⟨rfl, rfl⟩)
        go_ret2
        rw [HF.out]
        exact ⟨rfl, rfl⟩
    · have HF : Hid (R = if over then (0, 2) else (n, 1)) := Lib.hid (by rw [HR.out, hd, List.drop_eq_nil_of_le (by simp; omega)]; rfl)
      subst ha
      clear hd hn hm hM
      cases over
      all_goals
        go_wp2_with fail
        go_ret2
        rw [HF.out]
        exact ⟨rfl, rfl⟩

/-- What Natural says where it says something. -/
def NatF (M : Nat) (s : ByteArray) (e : Ending) : Prop := ∃ (v : Nat) (is : Int), e = .returned (.tuple #[.int .u64 (v : Nat), .int .i64 is]) ∧ (is = 0 ∨ (is = 1 ∧ pu0 M s.data.toList = .ok v false))
theorem NatF.no {M : Nat} {s : ByteArray} (v : Nat) : NatF M s (.returned (.tuple #[.int .u64 (v : Nat), .int .i64 0])) := ⟨v, 0, rfl, .inl rfl⟩

end Go.Proofs.YtlnnmionbflolaaDoor
