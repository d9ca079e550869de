/- The law FnTextArray: a list of texts that are not cut goes by steps. -/
import Derived.Test.YtechagcodmiliaaDoorWants
namespace Go.Proofs.YtechagcodmiliaaDoor
open Go.RowKit
set_option linter.unusedVariables false
set_option linter.unusedSimpArgs false

theorem stepA_le (M : Nat) (st : Bool × List ByteArray) (x : StepD) (n : Nat) (hx : x.l.length ≤ M) (h : st.2.length ≤ M + n) (h1 : 1 ≤ M) : (stepG cutA oneA st x).2.2.length ≤ M + (n + 1) := by
  unfold stepG
  split
  · simp only [cutA]
    split <;> simp <;> omega
  · split
    · simp [oneA]; omega
    · rw [eachA]
      simp; omega
theorem runsA_le (M : Nat) (h1 : 1 ≤ M) : ∀ (l : List StepD) (s : (Bool × List ByteArray) × List (Bool × List ByteArray)) (n : Nat), (∀ x ∈ l, x.l.length ≤ M) → s.1.2.length ≤ M + n → (∀ o ∈ s.2, o.2.length ≤ M + n) → ∀ o ∈ (l.foldl (runG cutA oneA) s).2, o.2.length ≤ M + (n + l.length)
  | [], s, n, _, _, h => by simpa using h
  | x :: l, s, n, hx, hs, ho => by
    rw [List.foldl_cons]
    have hle := stepA_le M s.1 x n (hx x (List.mem_cons_self ..)) hs h1
    have : n + (x :: l).length = n + 1 + l.length := by simp; omega
    rw [this]
    refine runsA_le M h1 l _ (n + 1) (fun y hy => hx y (List.mem_cons_of_mem _ hy)) ?_ ?_
    · unfold runG
      split
      · exact hle
      · omega
    · unfold runG
      split
      · intro o hm
        rw [List.mem_append] at hm
        rcases hm with hm | hm
        · have := ho o hm; omega
        · simp only [List.mem_singleton] at hm
          subst hm
          exact hle
      · intro o hm
        have := ho o hm; omega

set_option maxRecDepth 100000 in
set_option maxHeartbeats 3200000 in
theorem texts29_any (dv : Value) (df : List ByteArray) (sv : Value) (l : List StepD) (w : World) (hd : Strs w dv df) (hs : Steps w sv l) (hdl : df.length ≤ 2147483647) (hll : l.length ≤ 2147483647) (hx : ∀ x ∈ l, x.l.length ≤ 2147483647) :
    Calls Tryd.prog 7 #[.int .i64 1, dv, sv, .func (.func 8) #[] #[]] w fun e w' => e = .returned (.bool true) ∧ Below w.heap.size w w' := by
  have C := Lib.hid (list_any dv df sv l w hd hs hdl hll hx)
  have HS := Lib.hid (fun W (h : Below w.heap.size w W) => hs.later h)
  have HD := Lib.hid (fun W (h : Below w.heap.size w W) => hd.later h.block)
  have HLE : Hid (∀ o ∈ (runsG cutA oneA df l).2, o.2.length ≤ 8589934592) := Lib.hid (fun o ho => by
    have := runsA_le 2147483647 (by omega) l ((false, df), []) 0 hx (by simpa using hdl) (by simp) o ho
    omega)
  have HLO := Lib.hid (runsG_len cutA oneA df l)
  have HOL : Hid ((runsG cutA oneA df l).2.length ≤ 2147483647) := Lib.hid (by rw [runsG_len]; exact Nat.le_trans (List.length_filter_le _ _) hll)
  have CW := Lib.hid (fun W (h : Below w.heap.size w W) => wants_any dv df sv l W (hd.later h.block) (hs.later h) hdl hll hx)
  have CT := Lib.hid (fun W (h : Below w.heap.size w W) => told29_any sv l W (hs.later h) hll)
  obtain ⟨sa, sc, rfl⟩ := hs.len
  obtain ⟨da, dc, rfl⟩ := hd.len
  clear hd hs hx
  go_enter Tryd.func7, Tryd.ntmps7
  go_wp2_with fail
  refine C.out.mono ?_
  rintro e w2 ⟨rv, xs, rfl, hrow, hrows, hb2⟩
  obtain ⟨ra, rc, rfl⟩ := row_form hrow
  have HB2 := Lib.hid hb2
  have HROW := Lib.hid hrow
  have HROWS := Lib.hid hrows
  have C2 := Lib.hid (CT.out w2 hb2)
  clear hrow hrows hb2 C CT
  go_wp2_with fail
  refine C2.out.mono ?_
  rintro e w3 ⟨rfl, hb3⟩
  have HB3 := Lib.hid (Below.after HB2.out hb3)
  have HROW3 := Lib.hid (row_grow HROW.out hb3)
  have HROWS3 := Lib.hid (HROWS.out.later fun o cs h => h.later (A' := fun _ => False) fun b _ _ hb _ => ⟨hb3.block b (lt_of_block hb), fun q => q⟩)
  have C3 := Lib.hid (CW.out w3 HB3.out)
  obtain ⟨ol, hol⟩ : ∃ ol, (runsG cutA oneA df l).2.length = ol := ⟨_, rfl⟩
  have HOE := Lib.hid hol
  rw [← HLO.out, hol]
  rw [hol] at HROW3 C3
  clear HROW HROWS hb3 C2 CW HLO hol
  go_wp2_with fail
  refine C3.out.mono ?_
  rintro e w4 ⟨rv4, ys, rfl, hrow4, hrows4, hb4⟩
  obtain ⟨qa, qc, rfl⟩ := row_form hrow4
  have HB4 := Lib.hid (Below.after HB3.out hb4)
  have HROW4 := Lib.hid hrow4
  have HROWS4 := Lib.hid hrows4
  have HROW5 := Lib.hid (row_grow HROW3.out hb4)
  have HROWS5 := Lib.hid (HROWS3.out.later fun o cs h => h.later (A' := fun _ => False) fun b _ _ hb _ => ⟨hb4.block b (lt_of_block hb), fun q => q⟩)
  clear hrow4 hrows4 hb4 C3 HROW3 HROWS3
  go_wp2_with fail
  go_loopw [26] (fun i wr => ∃ k : Nat, k ≤ ol ∧ i = .int .i64 k ∧ Below w4.heap.size w4 wr) (fun i _ => ol - (intOf i).toNat)
  case atStart => exact ⟨0, Nat.zero_le _, rfl, Below.refl _ _⟩
  case round =>
    obtain ⟨k, hk, rfl, hbr⟩ := hrel
    have HBR := Lib.hid hbr
    have hole := HOL.out
    rw [HOE.out] at hole
    by_cases hlt : k < ol
    case neg =>
      clear hbr
      go_wp2_with fail
      go_ret
      exact ⟨rfl, Below.after HB4.out HBR.out⟩
    have hko : k < (runsG cutA oneA df l).2.length := by rw [HOE.out]; exact hlt
    obtain ⟨g1, cs1, rfl, ⟨v1, v2, rfl, hs1, hs2⟩, hc1⟩ := rows_at HROWS5.out HROW5.out k hko HOE.out.symm (by omega)
    obtain ⟨g2, cs2, rfl, ⟨u1, rfl, ht1⟩, hc2⟩ := rows_at HROWS4.out HROW4.out k hko HOE.out.symm (by omega)
    have hle := HLE.out _ (List.getElem_mem hko)
    have r0 := hc1 0 _ (by omega) rfl
    have r1 := hc1 1 _ (by omega) rfl
    have r2 := hc1 2 _ (by omega) rfl
    have q0 := hc2 0 _ (by omega) rfl
    have q1 := hc2 1 _ (by omega) rfl
    have l1 := lt_of_cell r0
    have l2 := lt_of_cell q0
    replace r0 := (hbr.cell (p := ⟨g1, _, none⟩) l1).trans r0
    replace r1 := (hbr.cell (p := ⟨g1, _, none⟩) l1).trans r1
    replace r2 := (hbr.cell (p := ⟨g1, _, none⟩) l1).trans r2
    replace q0 := (hbr.cell (p := ⟨g2, _, none⟩) l2).trans q0
    replace q1 := (hbr.cell (p := ⟨g2, _, none⟩) l2).trans q1
    replace l1 := Nat.lt_of_lt_of_le l1 hbr.size
    replace l2 := Nat.lt_of_lt_of_le l2 hbr.size
    simp only [Nat.add_zero] at r0 q0
    obtain ⟨a1, k1, e1⟩ := hs1.form
    obtain ⟨a2, k2, e2⟩ := hs2.form
    obtain ⟨a3, k3, e3⟩ := ht1.form
    rw [List.length_map] at e1 e2 e3
    subst e1 e2 e3
    obtain ⟨⟨bad, items⟩, ho⟩ : ∃ o, (runsG cutA oneA df l).2[k] = o := ⟨_, rfl⟩
    rw [ho] at hs1 hs2 ht1 r0 r1 r2 q0 q1 hle
    simp only at hs1 hs2 ht1 r0 r1 r2 q0 q1 hle
    have HAL : Hid (∀ (x : Value), (x = .slice a1 items.length k1 ∨ x = .slice a2 items.length k2) → ∀ n, Calls Tryd.prog 11 #[x, .slice a3 items.length k3] ((wr.alloc (.cells #[.bool bad, .slice a3 items.length k3] 43)).drewN n) fun e w' => e = .returned (.bool true) ∧ ∃ m, w' = ((wr.alloc (.cells #[.bool bad, .slice a3 items.length k3] 43)).drewN n).drewN m) := Lib.hid (fun x hx n =>
      alike_same x _ items _ ((((Strs.later (w := w4) (by rcases hx with rfl | rfl; exact Vals.strs hs1.vals; exact Vals.strs hs2.vals) HBR.out.block).alloc _)).drewN n) ((((Vals.strs ht1.vals).later HBR.out.block).alloc _).drewN n) hle)
    have HB6 : Hid (Below w4.heap.size w4 (wr.alloc (.cells #[.bool bad, .slice a3 items.length k3] 43))) := Lib.hid (hbr.alloc hbr.size _)
    clear hbr hc1 hc2 hs1 hs2 ht1 HROW4 HROWS4 HROW5 HROWS5 HOL HLE hko ho
    cases bad
    all_goals
      go_wp2_with fail
      go_quiet ((go_at_call 11; refine Calls.quiet_of (HAL.out _ ?_ _); first | exact Or.inl rfl | exact Or.inr rfl))
      go_wp2_with fail
      go_roundw
      case rel => first | exact ⟨k + 1, by omega, by go_num, HB6.out.drewN'⟩ | exact ⟨k + 1, by omega, by go_num, Below.drewN' HB6.out⟩ | ((repeat apply Exists.intro); exact ⟨⟨k + 1, by omega, by go_num, Below.drewN' HB6.out⟩, rfl⟩)
      case measure => simp [intOf]; omega

set_option maxRecDepth 100000 in
theorem fnTextArray_law (dv : Value) (df : List ByteArray) (sv : Value) (l : List StepD) (w : World) (hd : Strs w dv df) (hs : Steps w sv l) (hdl : df.length ≤ 9223372036854775807) (hll : l.length ≤ 9223372036854775807) (hx : ∀ x ∈ l, x.l.length ≤ 9223372036854775807) :
    Calls Tryd.prog 3 #[dv, sv] w fun e w' => e = .returned (.bool true) ∧ Below w.heap.size w w' := by
  have F := Lib.hid (fits2_any dv df w hd hdl)
  have F7 := Lib.hid (fits7_any sv l w hs hll hx)
  have C := Lib.hid (fun W (h : Below w.heap.size w W) (h1 : SmallL df) (h2 : SmallS l) => texts29_any dv df sv l W (hd.later h.block) (hs.later h) h1.1 h2.1 (fun x hx => (h2.2 x hx).2.1))
  obtain ⟨sa, sc, rfl⟩ := hs.len
  obtain ⟨da, dc, rfl⟩ := hd.len
  clear hd hs hx
  go_enter Tryd.func3, Tryd.ntmps3
  go_wp2_with fail
  refine F.out.mono ?_
  rintro e w' ⟨⟨b, rfl, hb⟩, rfl⟩
  cases b with
  | false =>
    go_wp2_with fail
    go_ret
    exact ⟨rfl, Below.refl _ _⟩
  | true =>
    have H2 := Lib.hid (hb rfl)
    clear hb
    go_wp2_with fail
    refine F7.out.mono ?_
    rintro e w2 ⟨⟨b, rfl, hb⟩, hb2⟩
    have HB2 := Lib.hid hb2
    cases b with
    | false =>
      clear hb2
      go_wp2_with fail
      go_ret
      exact ⟨rfl, HB2.out⟩
    | true =>
      have C2 := Lib.hid (C.out w2 hb2 H2.out (hb rfl))
      clear hb hb2
      go_wp2_with fail
      refine C2.out.mono ?_
      rintro e w3 ⟨rfl, hb3⟩
      have HB3 := Lib.hid (Below.after HB2.out hb3)
      clear hb3
      go_wp2_with fail
      go_ret
      exact ⟨rfl, HB3.out⟩
end Go.Proofs.YtechagcodmiliaaDoor
