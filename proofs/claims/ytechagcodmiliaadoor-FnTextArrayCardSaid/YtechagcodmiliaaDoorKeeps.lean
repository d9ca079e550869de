/- Lists of texts: whether two are alike; the law FnTextKeeps. -/
import Derived.Test.YtechagcodmiliaaDoorArrays
import Derived.Test.YtechagcodmiliaaDoorOpenT
namespace Go.Proofs.YtechagcodmiliaaDoor
open Go.RowKit
set_option linter.unusedVariables false
set_option linter.unusedSimpArgs false

/-- The cells of a row of structs. -/
theorem rows_at {α : Type} {sz : Nat} {IP : α → List Value → World → Prop} {w : World} {xs : List Value} {os : List α} {base : Nat} {e : TypeId} {a : Option Addr} {n c : Nat} (h : RowsOf sz IP w xs os) (hr : w.ownsRow base e sz (.slice a n c) n xs) (i : Nat) (hi : i < os.length) (hn : n = os.length) (hsz : 0 < sz) :
    ∃ g cs, a = some ⟨g, 0, none⟩ ∧ IP os[i] cs w ∧ ∀ j u, j < sz → cs[j]? = some u → w.cell? ⟨g, i * sz + j, none⟩ = some u := by
  subst hn
  rcases hr.2 with ⟨e, h0⟩ | ⟨g, cap, cur, e, hb, hh, hnc, hcm, hcs, ht⟩
  · omega
  · cases e
    refine ⟨g, _, rfl, h.2 i hi, fun j u hj hu => ?_⟩
    rw [List.getElem?_take, if_pos hj, List.getElem?_drop] at hu
    have hlt : i * sz + j < os.length * sz := by
      have : (i + 1) * sz ≤ os.length * sz := Nat.mul_le_mul_right _ hi
      rw [Nat.add_mul] at this
      omega
    rw [← ht, List.getElem?_take, if_pos hlt, Array.getElem?_toList] at hu
    simp [World.cell?, hh, hu]

set_option maxRecDepth 100000 in
theorem alike_same (v1 v2 : Value) (l : List ByteArray) (w : World) (h1 : Strs w v1 l) (h2 : Strs w v2 l) (hl : l.length ≤ 8589934592) :
    Calls Tryd.prog 11 #[v1, v2] w fun e w' => e = .returned (.bool true) ∧ ∃ m, w' = w.drewN m := by
  obtain ⟨a1, c1, rfl⟩ := h1.len
  obtain ⟨a2, c2, rfl⟩ := h2.len
  have H1 := Lib.hid (fun (hp : 0 < l.length) => h1.cell hp)
  have H2 := Lib.hid (fun (hp : 0 < l.length) => h2.cell hp)
  clear h1 h2
  go_enter Tryd.func11, Tryd.ntmps11
  go_wp2_with fail
  go_loopw [5, 13] (fun _ i wr => ∃ k : Nat, k ≤ l.length ∧ i = .int .i64 k ∧ Drawn w wr) (fun _ i _ => l.length - (intOf i).toNat)
  case atStart => exact ⟨0, Nat.zero_le _, rfl, Drawn.refl _⟩
  case round =>
    obtain ⟨k, hk, rfl, m, rfl⟩ := hrel
    by_cases hlt : k < l.length
    case neg =>
      go_wp2_with fail
      go_ret
      exact ⟨rfl, m, rfl⟩
    obtain ⟨b1, o1, rfl, k1⟩ := H1.out (by omega)
    obtain ⟨b2, o2, rfl, k2⟩ := H2.out (by omega)
    have d1 := k1 k hlt
    have d2 := k2 k hlt
    clear k1 k2 H1 H2
    generalize l[k] = t at *
    have q : (t.toList != t.toList) = false := by simp
    go_wp2_with fail
    go_quiet (fail)
    go_wp2_with fail
    go_roundw
    case rel => exact ⟨k + 1, by omega, by go_num, _, rfl⟩
    case measure => simp [intOf]; omega

def set0 (t : ByteArray) : StepD := ⟨0, t, []⟩
theorem infoStep : (Tryd.prog.info? 36).map (fun i => (i.zero, i.size, i.bytes)) = some (some (.agg #[.int .i64 0, .string ⟨#[]⟩, .slice none 0 0]), 3, 48) := by kernel_rfl
def flatS (l : List ByteArray) : List Value := l.flatMap fun t => [.int .i64 0, .string t, .slice none 0 0]
theorem flatS_take (l : List ByteArray) (k : Nat) (h : k < l.length) : flatS (l.take (k + 1)) = flatS (l.take k) ++ [.int .i64 0, .string l[k], .slice none 0 0] := by
  rw [flatS, List.take_succ_eq_append_getElem h, List.flatMap_append]
  simp [flatS]
theorem flatS_get : ∀ (l : List ByteArray) (i : Nat) (h : i < l.length), (flatS l)[i * 3]? = some (.int .i64 0) ∧ (flatS l)[i * 3 + 1]? = some (.string l[i]) ∧ (flatS l)[i * 3 + 2]? = some (.slice none 0 0)
  | x :: l, 0, h => ⟨rfl, rfl, rfl⟩
  | x :: l, i + 1, h => by
    have := flatS_get l i (by simpa using h)
    have e : flatS (x :: l) = .int .i64 0 :: .string x :: .slice none 0 0 :: flatS l := rfl
    rw [e, show (i + 1) * 3 = i * 3 + 3 by omega]
    exact this
theorem steps_of {w : World} {base : Nat} {v : Value} {l : List ByteArray} (h : w.ownsRow base 36 3 v l.length (flatS l)) : Steps w v (l.map set0) := by
  obtain ⟨a, c, rfl⟩ := row_form h
  refine ⟨a, c, by simp, fun i hi => ?_⟩
  have hi' : i < l.length := by simpa using hi
  rcases h.2 with ⟨e, hn⟩ | ⟨b, cap, cur, e, hb, hh, hnc, hcm, hcs, ht⟩
  · omega
  · cases e
    obtain ⟨q0, q1, q2⟩ := flatS_get l i hi'
    rw [← ht, List.getElem?_take, if_pos (by omega), Array.getElem?_toList] at q0 q1 q2
    refine ⟨b, 0, rfl, ?_⟩
    rw [List.getElem_map]
    exact ⟨by simp [World.cell?, hh, q0, set0], by simp [World.cell?, hh, q1, set0], none, 0, 0, by simp [World.cell?, hh, q2], Strs.nil _ _ _⟩

set_option maxRecDepth 100000 in
theorem sets_any (v : Value) (l : List ByteArray) (w : World) (hv : Strs w v l) (hl : l.length ≤ 2147483647) :
    Calls Tryd.prog 10 #[v] w fun e w' => ∃ rv, e = .returned rv ∧ Steps w' rv (l.map set0) ∧ Below w.heap.size w w' := by
  obtain ⟨a, cap, rfl⟩ := hv.len
  have HV := Lib.hid (fun W (h : Below w.heap.size w W) => hv.later h.block)
  clear hv
  go_enter Tryd.func10, Tryd.ntmps10
  have H0 : Hid ((w.alloc (.cells #[] 36)).ownsRow w.heap.size 36 3 (.slice (some ⟨w.heap.size, 0, none⟩) 0 0) 0 [] ∧ Below w.heap.size w (w.alloc (.cells #[] 36))) := Lib.hid
    ⟨⟨rfl, .inr ⟨w.heap.size, 0, #[], rfl, Nat.le_refl _, heap_at _ _ _ rfl, Nat.le_refl _, Nat.zero_le _, rfl, rfl⟩⟩, (Below.refl _ _).alloc (Nat.le_refl _) _⟩
  go_wp2_with fail
  go_loopw [3, 5, 9] (fun vo _ vi wr => ∃ k : Nat, k ≤ l.length ∧ vi = .int .i64 k ∧ wr.ownsRow w.heap.size 36 3 vo k (flatS (l.take k)) ∧ Below w.heap.size w wr) (fun _ _ vi _ => l.length - (intOf vi).toNat)
  case atStart => exact ⟨0, Nat.zero_le _, rfl, H0.out⟩
  case round =>
    obtain ⟨k, hk, rfl, hr⟩ := hrel
    obtain ⟨ra, rc, rfl⟩ := row_form hr.1
    have HR := Lib.hid hr
    clear hr
    by_cases hlt : k < l.length
    case neg =>
      have ek : k = l.length := by omega
      have HF : Hid (Steps wr (.slice ra k rc) (l.map set0) ∧ Below w.heap.size w wr) := Lib.hid (by
        subst ek
        have := HR.out.1
        rw [List.take_length] at this
        exact ⟨steps_of this, HR.out.2⟩)
      clear ek
      go_wp2_with fail
      go_ret
      exact ⟨_, rfl, HF.out⟩
    obtain ⟨tb, tof, rfl, hc⟩ := (HV.out wr HR.out.2).cell (by omega)
    have hck := hc k hlt
    clear hc
    have HT := Lib.hid (flatS_take l k hlt)
    generalize l[k] = t at *
    obtain ⟨i0, hi0, hz0, hz1, hz2⟩ := info_parts infoStep
    go_wp2_with (at_builtin; refine wpList_append_lies _ (by rfl) _ _ _ (by rfl) w.heap.size 36 i0 _ 3 48 Tryd.underlying23 hi0 hz0 hz1 hz2 rfl (by omega) (.slice ra k rc) k (flatS (l.take k)) (by rfl) (row_grow HR.out.1 (by (repeat (first | (with_reducible exact Below.refl _ _) | (with_reducible assumption) | ((with_reducible refine Below.alloc ?_ ?_ _); rotate_left; focus ((try simp only [World.size_alloc, size_setCell, World.heap_drewN]); (try omega); done)) | ((with_reducible refine Below.setCell ?_ ?_ _); rotate_left; focus ((try simp only [World.size_alloc, size_setCell, World.heap_drewN]); (try omega); done)) | (with_reducible refine Below.drewN' ?_) | (with_reducible refine Below.drew ?_))))) ⟨wr.heap.size, 0, none⟩ 1 1 [.int .i64 0, .string t, .slice none 0 0] (by rfl) (by rfl) (news_lies (heap_at _ _ _ rfl) (by rfl)) (by simp [Value.oneCell']) (by omega) (by unfold maxLen; omega) (by omega) (by have := HR.out.2.size; simp only [World.size_alloc]; omega) _ rfl ?_; intro g cap2 w2 hown hgrow hat hlt2)
    have HB : Hid (w2.ownsRow w.heap.size 36 3 (.slice (some ⟨g, 0, none⟩) (k + 1) cap2) (k + 1) (flatS (l.take (k + 1))) ∧ Below w.heap.size w w2) := Lib.hid (by
      rw [HT.out]
      refine ⟨hown, ?_⟩
      have hb1 : Below wr.heap.size wr (wr.alloc (.cells #[.int .i64 0, .string t, .slice none 0 0] 36)) := by (repeat (first | (with_reducible exact Below.refl _ _) | (with_reducible assumption) | ((with_reducible refine Below.alloc ?_ ?_ _); rotate_left; focus ((try simp only [World.size_alloc, size_setCell, World.heap_drewN]); (try omega); done)) | ((with_reducible refine Below.setCell ?_ ?_ _); rotate_left; focus ((try simp only [World.size_alloc, size_setCell, World.heap_drewN]); (try omega); done)) | (with_reducible refine Below.drewN' ?_) | (with_reducible refine Below.drew ?_)))
      exact grown_below (HR.out.2.trans (hb1.mono HR.out.2.size)) (Nat.le_trans HR.out.2.size hb1.size) (row_grow HR.out.1 hb1) hgrow)
    clear hown hgrow hat hlt2
    go_wp2_with fail
    go_roundw
    case rel => exact ⟨k + 1, by omega, by go_num, HB.out⟩
    case measure => simp [intOf]; omega

theorem list_any (dv : Value) (df : List ByteArray) (sv : Value) (l : List StepD) (w : World) (hd : Strs w dv df) (hs : Steps w sv l) (hdl : df.length ≤ 2147483647) (hll : l.length ≤ 2147483647) (hx : ∀ x ∈ l, x.l.length ≤ 2147483647) :
    Calls Tryd.prog 9 #[.int .i64 1, dv, sv] w fun e w' => ∃ rv xs, e = .returned rv ∧ w'.ownsRow w.heap.size 33 3 rv (runsG cutA oneA df l).2.length xs ∧ RowsOf 3 (IPs (fun _ => False)) w' xs (runsG cutA oneA df l).2 ∧ Below w.heap.size w w' := by
  have C := Lib.hid (arrays_any dv df sv l w hd hs hdl hll hx)
  obtain ⟨sa, sc, rfl⟩ := hs.len
  obtain ⟨da, dc, rfl⟩ := hd.len
  clear hd hs hx
  go_enter Tryd.func9, Tryd.ntmps9
  go_wp2_with fail
  refine C.out.mono ?_
  rintro e w2 ⟨rv, xs, rfl, h⟩
  obtain ⟨ra, rc, rfl⟩ := row_form h.1
  have H := Lib.hid h
  clear h C
  go_wp2_with fail
  go_ret
  exact ⟨_, xs, rfl, H.out⟩

theorem runs_sets (l : List ByteArray) : ∀ k, k ≤ l.length → runsG cutA oneA [] ((l.map set0).take k) = ((decide (0 < k), l.take k), (List.range k).map fun i => (false, l.take (i + 1))) := by
  intro k
  induction k with
  | zero => intro _; rfl
  | succ k ih =>
    intro hk
    rw [runsG_next cutA oneA [] (l.map set0) k (by simp; omega), ih (by omega), runG_yes (.inl (by simp [set0])), List.getElem_map]
    have e : stepG cutA oneA (decide (0 < k), l.take k) (set0 l[k]) = (false, (true, l.take (k + 1))) := by
      rw [List.take_succ_eq_append_getElem (by omega)]
      unfold stepG
      simp only [set0, cutA, if_true]
      by_cases h0 : 0 < k
      · simp [h0]
      · have : k = 0 := by omega
        subst this
        simp
    simp only [e]
    rw [List.range_succ, List.map_append]
    simp
theorem runs_last (l : List ByteArray) (h : 0 < l.length) : ∃ hi : l.length - 1 < (runsG cutA oneA [] (l.map set0)).2.length, (runsG cutA oneA [] (l.map set0)).2[l.length - 1] = (false, l) := by
  have := runs_sets l l.length (Nat.le_refl _)
  rw [List.take_of_length_le (by simp)] at this
  rw [this]
  refine ⟨by simp; omega, ?_⟩
  simp only [List.getElem_map, List.getElem_range]
  rw [show l.length - 1 + 1 = l.length by omega, List.take_length]
theorem runs_len (l : List ByteArray) : (runsG cutA oneA [] (l.map set0)).2.length = l.length := by
  have := runs_sets l l.length (Nat.le_refl _)
  rw [List.take_of_length_le (by simp)] at this
  rw [this]
  simp

set_option maxRecDepth 100000 in
theorem fnTextKeeps_law (v : Value) (l : List ByteArray) (w : World) (hv : Strs w v l) (hl : l.length ≤ 9223372036854775807) :
    Calls Tryd.prog 4 #[v] w fun e w' => e = .returned (.bool true) ∧ Below w.heap.size w w' := by
  have F := Lib.hid (fits2_any v l w hv hl)
  have C := Lib.hid (fun (h : SmallL l) => sets_any v l w hv h.1)
  have HV := Lib.hid (fun W (h : Below w.heap.size w W) => hv.later h.block)
  obtain ⟨a, cap, rfl⟩ := hv.len
  clear hv
  go_enter Tryd.func4, Tryd.ntmps4
  go_wp2_with fail
  refine F.out.mono ?_
  rintro e w' ⟨⟨b, rfl, hb⟩, rfl⟩
  cases b with
  | false =>
    go_wp2_with fail
    go_ret
    exact ⟨rfl, Below.refl _ _⟩
  | true =>
    have hsm := hb rfl
    have C2 := Lib.hid (C.out hsm)
    have HSM := Lib.hid hsm
    clear hb hsm
    go_wp2_with fail
    refine C2.out.mono ?_
    rintro e w2 ⟨rv, rfl, hst, hb2⟩
    have C3 := Lib.hid (list_any (.slice none 0 0) [] rv (l.map set0) w2 (Strs.nil _ _ _) hst (by simp) (by simpa using HSM.out.1) (by simp [set0]))
    obtain ⟨sa, sc, rfl⟩ : ∃ a c, rv = .slice a l.length c := by
      obtain ⟨a, c, e⟩ := hst.len
      exact ⟨a, c, by rw [e, List.length_map]⟩
    have HB2 := Lib.hid hb2
    clear hst hb2
    go_wp2_with fail
    refine C3.out.mono ?_
    rintro e w3 ⟨rv3, xs, rfl, hrow, hrows, hb3⟩
    rw [runs_len] at hrow
    obtain ⟨ra, rc, rfl⟩ := row_form hrow
    have HB3 := Lib.hid (Below.after HB2.out hb3)
    have HROW := Lib.hid hrow
    have HROWS := Lib.hid hrows
    clear hrow hrows hb3 C3 C2
    rcases Nat.eq_zero_or_pos l.length with h0 | h0
    · rw [h0]
      go_wp2_with fail
      go_ret
      exact ⟨rfl, HB3.out⟩
    · obtain ⟨hi, hlast⟩ := runs_last l h0
      obtain ⟨g, cs, rfl, hip, hcell⟩ := rows_at HROWS.out HROW.out (l.length - 1) hi (runs_len l).symm (by omega)
      rw [hlast] at hip
      obtain ⟨v1, v2, rfl, hs1, hs2⟩ := hip
      have s0 := hcell 0 _ (by omega) rfl
      have s1 := hcell 1 _ (by omega) rfl
      have s2 := hcell 2 _ (by omega) rfl
      obtain ⟨a1, k1, rfl⟩ := hs1.form
      obtain ⟨a2, k2, rfl⟩ := hs2.form
      rw [List.length_map] at hs1 hs2 s1 s2
      have A1 := Lib.hid (alike_same _ _ l w3 (Vals.strs hs1.vals) (HV.out w3 HB3.out) (by have := HSM.out.1; omega))
      have A2 := Lib.hid (fun n => alike_same _ _ l (w3.drewN n) ((Vals.strs hs2.vals).drewN n) (((HV.out w3 HB3.out)).drewN n) (by have := HSM.out.1; omega))
      have hln := HSM.out.1
      clear hcell hs1 hs2 hlast hi HROW HROWS HV C F
      obtain ⟨n, hn⟩ : ∃ n, l.length = n + 1 := ⟨l.length - 1, by omega⟩
      rw [hn] at A1 A2 hln s0 s1 s2 ⊢
      simp only [Nat.add_sub_cancel, Nat.add_zero] at s0 s1 s2
      clear hn h0
      go_wp2_with fail
      refine A1.out.mono ?_
      rintro e w4 ⟨rfl, m, rfl⟩
      go_wp2_with fail
      refine (A2.out m).mono ?_
      rintro e w4 ⟨rfl, m2, rfl⟩
      go_wp2_with fail
      go_ret
      have hb3 := HB3.out
      exact ⟨rfl, by (repeat (first | (with_reducible exact Below.refl _ _) | (with_reducible assumption) | ((with_reducible refine Below.alloc ?_ ?_ _); rotate_left; focus ((try simp only [World.size_alloc, size_setCell, World.heap_drewN]); (try omega); done)) | ((with_reducible refine Below.setCell ?_ ?_ _); rotate_left; focus ((try simp only [World.size_alloc, size_setCell, World.heap_drewN]); (try omega); done)) | (with_reducible refine Below.drewN' ?_) | (with_reducible refine Below.drew ?_)))⟩
end Go.Proofs.YtechagcodmiliaaDoor
