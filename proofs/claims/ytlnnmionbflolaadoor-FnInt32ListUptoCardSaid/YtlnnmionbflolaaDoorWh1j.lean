/- The walk of the reference's Whole of all texts. (Printed by gen_wh.py.) -/
import Derived.Test.YtlnnmionbflolaaDoorWh0
import Derived.Test.YtlnnmionbflolaaDoorWo4j
namespace Go.Proofs.YtlnnmionbflolaaDoor
open Go.RowKit
set_option linter.unusedVariables false
set_option linter.unusedSimpArgs false

set_option maxRecDepth 100000 in
set_option maxHeartbeats 6400000 in
theorem wh32_p (s : ByteArray) (hs : s.size ≤ 2147483647) (h0 : 0 < s.size) (hz : s[0].toNat = 43) (w : World) :
    Calls Tryd.prog 16 #[.string s, .int .i64 32, .bool true] w fun e w' => e = .returned (.tuple #[.int .i64 (wF 2147483648 s.data.toList).1, .int .i64 ((wF 2147483648 s.data.toList).2 : Nat)]) ∧ Below w.heap.size w w' := by
  have hemp : s.toList.isEmpty = false := by
    have := ne_empty h0
    cases hl : s.toList with
    | nil => rw [hl] at this; cases this
    | cons a l => rfl
  have f45 : ((s[0].toNat : Int) == 45) = false := by rw [beq_eq_false_iff_ne]; omega
  have f43 : ((s[0].toNat : Int) == 43) = true := by simp [hz]
  have hsg : sgn s.data.toList = (false, (s.extract 1 s.size).data.toList) := by
    have a := drop_get s 0 h0
    rw [List.drop_zero] at a
    rw [ext_drop, a]; simp only [List.drop_succ_cons, List.drop_zero]
    rw [a]
    simp [sgn, hz]
  have hsz : (s.extract 1 s.size).size ≤ 2147483647 := by first | exact hs | (rw [ByteArray.size_extract]; omega)
  have Cc := Lib.hid (naturalA_any (s.extract 1 s.size) hsz w)
  have HD := Lib.hid (nAll_two M64 (s.extract 1 s.size).data.toList)
  have HP : Hid (wF 2147483648 s.data.toList = if (nAll M64 (s.extract 1 s.size).data.toList).2 = 1 then (if (nAll M64 (s.extract 1 s.size).data.toList).1 > 2147483648 ∨ ((nAll M64 (s.extract 1 s.size).data.toList).1 = 2147483648 ∧ false = false) then (0, 2) else (if false then (-((nAll M64 (s.extract 1 s.size).data.toList).1 : Int), 1) else (((nAll M64 (s.extract 1 s.size).data.toList).1 : Int), 1))) else (0, (nAll M64 (s.extract 1 s.size).data.toList).2)) := Lib.hid (by rw [wF, hsg])
  generalize wF 2147483648 s.data.toList = R at *
  have Cc2 : Hid (Calls Tryd.prog 43 #[.string (s.extract 1 s.size), .int .i64 64, .bool true] w fun e w' => e = .returned (.tuple #[.int .u64 ((nAll M64 (s.extract 1 s.size).data.toList).1 : Nat), .int .i64 ((nAll M64 (s.extract 1 s.size).data.toList).2 : Nat)]) ∧ Below w.heap.size w w') := Cc
  clear Cc
  generalize nAll M64 (s.extract 1 s.size).data.toList = r at *
  obtain ⟨n, is⟩ := r
  simp only at Cc2 HD
  have HP : Hid (R = if is = 1 then (if n > 2147483648 ∨ (n = 2147483648 ∧ false = false) then (0, 2) else (if false then (-(n : Int), 1) else ((n : Int), 1))) else (0, is)) := HP
  obtain ⟨m, hm⟩ : ∃ m : Int, m = (n : Nat) := ⟨_, rfl⟩
  rw [← hm] at Cc2
  clear hz hsg hsz
  have m0 : 0 ≤ m := by omega
  rcases HD.out with rfl | rfl
  · by_cases hc : n > 2147483648 ∨ (n = 2147483648 ∧ false = false)
    · have HF : Hid (R = (0, 2)) := Lib.hid (by rw [HP.out, if_pos rfl, if_pos hc])
      have m2 : 2147483648 ≤ m := by first | omega | (rcases hc with hc | ⟨hc, h⟩ <;> first | omega | cases h)
      clear HP HD hm hc
      have hc2 : 2147483648 < m ∨ (((m : Int) == 2147483648) = true ∧ m ≤ 2147483648) := by
        by_cases h : m = 2147483648
        · exact .inr ⟨by simp [h], by omega⟩
        · exact .inl (by omega)
      clear m2
      rcases hc2 with m2 | ⟨m2, m3⟩
      all_goals
        go_enter Tryd.func16, Tryd.ntmps16
        go_wp2_with fail
        refine Cc2.out.mono ?_
        rintro e w2 ⟨rfl, hb⟩
        have HB := Lib.hid hb
        clear hb
        go_wp2_with fail
        go_ret2
        rw [HF.out]
        exact ⟨rfl, HB.out⟩
    · have HF : Hid (R = (m, 1)) := Lib.hid (by rw [HP.out, if_pos rfl, if_neg hc, hm]; rfl)
      have m2 : m < 2147483648 := by first | omega | (have : ¬ n = 2147483648 := fun h => hc (.inr ⟨h, rfl⟩); omega)
      clear HP HD hm hc
      have q : ((m : Int) == 2147483648) = false := by rw [beq_eq_false_iff_ne]; omega
      go_enter Tryd.func16, Tryd.ntmps16
      go_wp2_with fail
      refine Cc2.out.mono ?_
      rintro e w2 ⟨rfl, hb⟩
      have HB := Lib.hid hb
      clear hb
      go_wp2_with fail
      go_ret2
      rw [HF.out]
      exact ⟨rfl, HB.out⟩
  · have HF : Hid (R = (0, 2)) := Lib.hid (by rw [HP.out, if_neg (by decide)])
    clear HP HD hm
    go_enter Tryd.func16, Tryd.ntmps16
    go_wp2_with fail
    refine Cc2.out.mono ?_
    rintro e w2 ⟨rfl, hb⟩
    have HB := Lib.hid hb
    clear hb
    go_wp2_with fail
    go_ret2
    rw [HF.out]
    exact ⟨rfl, HB.out⟩
set_option maxRecDepth 100000 in
set_option maxHeartbeats 6400000 in
theorem wh32_m (s : ByteArray) (hs : s.size ≤ 2147483647) (h0 : 0 < s.size) (hz : s[0].toNat = 45) (w : World) :
    Calls Tryd.prog 16 #[.string s, .int .i64 32, .bool true] w fun e w' => e = .returned (.tuple #[.int .i64 (wF 2147483648 s.data.toList).1, .int .i64 ((wF 2147483648 s.data.toList).2 : Nat)]) ∧ Below w.heap.size w w' := by
  have hemp : s.toList.isEmpty = false := by
    have := ne_empty h0
    cases hl : s.toList with
    | nil => rw [hl] at this; cases this
    | cons a l => rfl
  have f45 : ((s[0].toNat : Int) == 45) = true := by simp [hz]
  have hsg : sgn s.data.toList = (true, (s.extract 1 s.size).data.toList) := by
    have a := drop_get s 0 h0
    rw [List.drop_zero] at a
    rw [ext_drop, a]; simp only [List.drop_succ_cons, List.drop_zero]
    rw [a]
    simp [sgn, hz]
  have hsz : (s.extract 1 s.size).size ≤ 2147483647 := by first | exact hs | (rw [ByteArray.size_extract]; omega)
  have Cc := Lib.hid (naturalA_any (s.extract 1 s.size) hsz w)
  have HD := Lib.hid (nAll_two M64 (s.extract 1 s.size).data.toList)
  have HP : Hid (wF 2147483648 s.data.toList = if (nAll M64 (s.extract 1 s.size).data.toList).2 = 1 then (if (nAll M64 (s.extract 1 s.size).data.toList).1 > 2147483648 ∨ ((nAll M64 (s.extract 1 s.size).data.toList).1 = 2147483648 ∧ true = false) then (0, 2) else (if true then (-((nAll M64 (s.extract 1 s.size).data.toList).1 : Int), 1) else (((nAll M64 (s.extract 1 s.size).data.toList).1 : Int), 1))) else (0, (nAll M64 (s.extract 1 s.size).data.toList).2)) := Lib.hid (by rw [wF, hsg])
  generalize wF 2147483648 s.data.toList = R at *
  have Cc2 : Hid (Calls Tryd.prog 43 #[.string (s.extract 1 s.size), .int .i64 64, .bool true] w fun e w' => e = .returned (.tuple #[.int .u64 ((nAll M64 (s.extract 1 s.size).data.toList).1 : Nat), .int .i64 ((nAll M64 (s.extract 1 s.size).data.toList).2 : Nat)]) ∧ Below w.heap.size w w') := Cc
  clear Cc
  generalize nAll M64 (s.extract 1 s.size).data.toList = r at *
  obtain ⟨n, is⟩ := r
  simp only at Cc2 HD
  have HP : Hid (R = if is = 1 then (if n > 2147483648 ∨ (n = 2147483648 ∧ true = false) then (0, 2) else (if true then (-(n : Int), 1) else ((n : Int), 1))) else (0, is)) := HP
  obtain ⟨m, hm⟩ : ∃ m : Int, m = (n : Nat) := ⟨_, rfl⟩
  rw [← hm] at Cc2
  clear hz hsg hsz
  have m0 : 0 ≤ m := by omega
  rcases HD.out with rfl | rfl
  · by_cases hc : n > 2147483648 ∨ (n = 2147483648 ∧ true = false)
    · have HF : Hid (R = (0, 2)) := Lib.hid (by rw [HP.out, if_pos rfl, if_pos hc])
      have m2 : 2147483648 < m := by first | omega | (rcases hc with hc | ⟨hc, h⟩ <;> first | omega | cases h)
      clear HP HD hm hc
      all_goals
        go_enter Tryd.func16, Tryd.ntmps16
        go_wp2_with fail
        refine Cc2.out.mono ?_
        rintro e w2 ⟨rfl, hb⟩
        have HB := Lib.hid hb
        clear hb
        go_wp2_with fail
        go_ret2
        rw [HF.out]
        exact ⟨rfl, HB.out⟩
    · have HF : Hid (R = (-m, 1)) := Lib.hid (by rw [HP.out, if_pos rfl, if_neg hc, hm]; rfl)
      have m2 : m ≤ 2147483648 := by first | omega | (have : ¬ n = 2147483648 := fun h => hc (.inr ⟨h, rfl⟩); omega)
      clear HP HD hm hc
      have HW : Hid (wrap64 (-wrap64 m) = -m) := Lib.hid (by
        unfold wrap64
        omega)
      by_cases hme : m = 2147483648
      all_goals first | (have q : ((m : Int) == 2147483648) = true := by simp [hme]) | (have q : ((m : Int) == 2147483648) = false := by rw [beq_eq_false_iff_ne]; exact hme)
      all_goals clear hme
      all_goals
        go_enter Tryd.func16, Tryd.ntmps16
        go_wp2_with fail
        refine Cc2.out.mono ?_
        rintro e w2 ⟨rfl, hb⟩
        have HB := Lib.hid hb
        clear hb
        go_wp2_with fail
        go_ret2
        rw [HF.out]
        exact ⟨by first | rfl | (show Ending.returned (Value.tuple #[Value.int .i64 (wrap64 (-wrap64 m)), _]) = _; rw [HW.out]; rfl), HB.out⟩
  · have HF : Hid (R = (0, 2)) := Lib.hid (by rw [HP.out, if_neg (by decide)])
    clear HP HD hm
    go_enter Tryd.func16, Tryd.ntmps16
    go_wp2_with fail
    refine Cc2.out.mono ?_
    rintro e w2 ⟨rfl, hb⟩
    have HB := Lib.hid hb
    clear hb
    go_wp2_with fail
    go_ret2
    rw [HF.out]
    exact ⟨rfl, HB.out⟩
set_option maxRecDepth 100000 in
set_option maxHeartbeats 6400000 in
theorem wh32_n (s : ByteArray) (hs : s.size ≤ 2147483647) (h0 : 0 < s.size) (hz : s[0].toNat ≠ 43 ∧ s[0].toNat ≠ 45) (w : World) :
    Calls Tryd.prog 16 #[.string s, .int .i64 32, .bool true] w fun e w' => e = .returned (.tuple #[.int .i64 (wF 2147483648 s.data.toList).1, .int .i64 ((wF 2147483648 s.data.toList).2 : Nat)]) ∧ Below w.heap.size w w' := by
  have hemp : s.toList.isEmpty = false := by
    have := ne_empty h0
    cases hl : s.toList with
    | nil => rw [hl] at this; cases this
    | cons a l => rfl
  have f43 : ((s[0].toNat : Int) == 43) = false := by rw [beq_eq_false_iff_ne]; omega
  have f45 : ((s[0].toNat : Int) == 45) = false := by rw [beq_eq_false_iff_ne]; omega
  have hsg : sgn s.data.toList = (false, s.data.toList) := by
    have a := drop_get s 0 h0
    rw [List.drop_zero] at a
    skip
    rw [a]
    simp [sgn, hz]
  have hsz : s.size ≤ 2147483647 := by first | exact hs | (rw [ByteArray.size_extract]; omega)
  have Cc := Lib.hid (naturalA_any s hsz w)
  have HD := Lib.hid (nAll_two M64 s.data.toList)
  have HP : Hid (wF 2147483648 s.data.toList = if (nAll M64 s.data.toList).2 = 1 then (if (nAll M64 s.data.toList).1 > 2147483648 ∨ ((nAll M64 s.data.toList).1 = 2147483648 ∧ false = false) then (0, 2) else (if false then (-((nAll M64 s.data.toList).1 : Int), 1) else (((nAll M64 s.data.toList).1 : Int), 1))) else (0, (nAll M64 s.data.toList).2)) := Lib.hid (by rw [wF, hsg])
  generalize wF 2147483648 s.data.toList = R at *
  have Cc2 : Hid (Calls Tryd.prog 43 #[.string s, .int .i64 64, .bool true] w fun e w' => e = .returned (.tuple #[.int .u64 ((nAll M64 s.data.toList).1 : Nat), .int .i64 ((nAll M64 s.data.toList).2 : Nat)]) ∧ Below w.heap.size w w') := Cc
  clear Cc
  generalize nAll M64 s.data.toList = r at *
  obtain ⟨n, is⟩ := r
  simp only at Cc2 HD
  have HP : Hid (R = if is = 1 then (if n > 2147483648 ∨ (n = 2147483648 ∧ false = false) then (0, 2) else (if false then (-(n : Int), 1) else ((n : Int), 1))) else (0, is)) := HP
  obtain ⟨m, hm⟩ : ∃ m : Int, m = (n : Nat) := ⟨_, rfl⟩
  rw [← hm] at Cc2
  clear hz hsg hsz
  have m0 : 0 ≤ m := by omega
  rcases HD.out with rfl | rfl
  · by_cases hc : n > 2147483648 ∨ (n = 2147483648 ∧ false = false)
    · have HF : Hid (R = (0, 2)) := Lib.hid (by rw [HP.out, if_pos rfl, if_pos hc])
      have m2 : 2147483648 ≤ m := by first | omega | (rcases hc with hc | ⟨hc, h⟩ <;> first | omega | cases h)
      clear HP HD hm hc
      have hc2 : 2147483648 < m ∨ (((m : Int) == 2147483648) = true ∧ m ≤ 2147483648) := by
        by_cases h : m = 2147483648
        · exact .inr ⟨by simp [h], by omega⟩
        · exact .inl (by omega)
      clear m2
      rcases hc2 with m2 | ⟨m2, m3⟩
      all_goals
        go_enter Tryd.func16, Tryd.ntmps16
        go_wp2_with fail
        refine Cc2.out.mono ?_
        rintro e w2 ⟨rfl, hb⟩
        have HB := Lib.hid hb
        clear hb
        go_wp2_with fail
        go_ret2
        rw [HF.out]
        exact ⟨rfl, HB.out⟩
    · have HF : Hid (R = (m, 1)) := Lib.hid (by rw [HP.out, if_pos rfl, if_neg hc, hm]; rfl)
      have m2 : m < 2147483648 := by first | omega | (have : ¬ n = 2147483648 := fun h => hc (.inr ⟨h, rfl⟩); omega)
      clear HP HD hm hc
      have q : ((m : Int) == 2147483648) = false := by rw [beq_eq_false_iff_ne]; omega
      go_enter Tryd.func16, Tryd.ntmps16
      go_wp2_with fail
      refine Cc2.out.mono ?_
      rintro e w2 ⟨rfl, hb⟩
      have HB := Lib.hid hb
      clear hb
      go_wp2_with fail
      go_ret2
      rw [HF.out]
      exact ⟨rfl, HB.out⟩
  · have HF : Hid (R = (0, 2)) := Lib.hid (by rw [HP.out, if_neg (by decide)])
    clear HP HD hm
    go_enter Tryd.func16, Tryd.ntmps16
    go_wp2_with fail
    refine Cc2.out.mono ?_
    rintro e w2 ⟨rfl, hb⟩
    have HB := Lib.hid hb
    clear hb
    go_wp2_with fail
    go_ret2
    rw [HF.out]
    exact ⟨rfl, HB.out⟩
theorem wh32_any (s : ByteArray) (hs : s.size ≤ 2147483647) (w : World) :
    Calls Tryd.prog 16 #[.string s, .int .i64 32, .bool true] w fun e w' => e = .returned (.tuple #[.int .i64 (wF 2147483648 s.data.toList).1, .int .i64 ((wF 2147483648 s.data.toList).2 : Nat)]) ∧ Below w.heap.size w w' := by
  by_cases h0 : 0 < s.size
  · by_cases h1 : s[0].toNat = 43
    · exact wh32_p s hs h0 h1 w
    · by_cases h2 : s[0].toNat = 45
      · exact wh32_m s hs h0 h2 w
      · exact wh32_n s hs h0 ⟨h1, h2⟩ w
  · obtain rfl : s = ⟨#[]⟩ := by
      apply ByteArray.ext
      exact Array.eq_empty_of_size_eq_zero (by show ByteArray.size _ = 0; omega)
    have Cc := Lib.hid (naturalA_any ⟨#[]⟩ (by decide) w)
    have HF : Hid (wF 2147483648 (⟨#[]⟩ : ByteArray).data.toList = (0, 2)) := Lib.hid (by simp [wF, sgn, nAll, okW, woB, bare, pre29, dres])
    have HG : Hid (nAll 18446744073709551615 (⟨#[]⟩ : ByteArray).data.toList = (0, 2)) := Lib.hid (by simp [nAll, okW, woB, bare, pre29, dres])
    rw [HG.out] at Cc
    generalize wF 2147483648 (⟨#[]⟩ : ByteArray).data.toList = R at *
    clear h0 HG
    go_enter Tryd.func16, Tryd.ntmps16
    go_wp2_with fail
    refine Cc.out.mono ?_
    rintro e w2 ⟨rfl, hb⟩
    have HB := Lib.hid hb
    clear hb
    go_wp2_with fail
    go_ret2
    rw [HF.out]
    exact ⟨rfl, HB.out⟩
end Go.Proofs.YtlnnmionbflolaaDoor
