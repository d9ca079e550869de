/- What impl.GetBool tells, and the law FnGetBools. -/
import Derived.Test.YtkhjffjdchkobaaDoorOneB
import Derived.Test.YtkhjffjdchkobaaDoorBoolsI
import Derived.Test.YtkhjffjdchkobaaDoorSayM
import Derived.Test.YtkhjffjdchkobaaDoorOpenT
namespace Go.Proofs.YtkhjffjdchkobaaDoor
open Go.RowKit
set_option linter.unusedVariables false
set_option linter.unusedSimpArgs false

/-- What is told of a text. -/
def IB (s : ByteArray) (cs : List Value) (_ : World) : Prop := cs = [.bool (badV s), .bool (valV s), .string ⟨#[]⟩]
/-- The cells of a row of structs. -/
theorem rows_at {α : Type} {sz : Nat} {IP : α → List Value → World → Prop} {w : World} {xs : List Value} {os : List α} {base : Nat} {e : TypeId} {a : Option Addr} {n c : Nat} (h : RowsOf sz IP w xs os) (hr : w.ownsRow base e sz (.slice a n c) n xs) (i : Nat) (hi : i < os.length) (hn : n = os.length) (hsz : 0 < sz) :
    ∃ g cs, a = some ⟨g, 0, none⟩ ∧ IP os[i] cs w ∧ ∀ j u, j < sz → cs[j]? = some u → w.cell? ⟨g, i * sz + j, none⟩ = some u := by
  subst hn
  rcases hr.2 with ⟨e, h0⟩ | ⟨g, cap, cur, e, hb, hh, hnc, hcm, hcs, ht⟩
  · omega
  · cases e
    refine ⟨g, _, rfl, h.2 i hi, fun j u hj hu => ?_⟩
    rw [List.getElem?_take, if_pos hj, List.getElem?_drop] at hu
    have hlt : i * sz + j < os.length * sz := by
      have : (i + 1) * sz ≤ os.length * sz := Nat.mul_le_mul_right _ hi
      rw [Nat.add_mul] at this
      omega
    rw [← ht, List.getElem?_take, if_pos hlt, Array.getElem?_toList] at hu
    simp [World.cell?, hh, hu]

theorem flatB_get : ∀ (l : List ByteArray) (i : Nat) (h : i < l.length), (flatB l)[i * 3]? = some (.bool (pb l[i]).isNone) ∧ (flatB l)[i * 3 + 1]? = some (.bool ((pb l[i]).getD false)) ∧ (flatB l)[i * 3 + 2]? = some (.string (tB ((pb l[i]).getD false)))
  | x :: l, 0, h => ⟨rfl, rfl, rfl⟩
  | x :: l, i + 1, h => by
    have := flatB_get l i (by simpa using h)
    have e : flatB (x :: l) = .bool (pb x).isNone :: .bool ((pb x).getD false) :: .string (tB ((pb x).getD false)) :: flatB l := rfl
    rw [e, show (i + 1) * 3 = i * 3 + 3 by omega]
    exact this

set_option maxRecDepth 100000 in
set_option maxHeartbeats 800000 in
theorem getBool_any (d : Bool) (v : Value) (l : List ByteArray) (w : World) (hv : Strs w v l) (hl : l.length ≤ 2147483647) (hs : ∀ s ∈ l, s.size ≤ 2147483647) (hE : ErrAt w) :
    Calls Tryd.prog 5 #[.bool d, v] w fun e w' => ∃ rv xs, e = .returned rv ∧ w'.ownsRow w.heap.size 27 3 rv l.length xs ∧ RowsOf 3 IB w' xs l ∧ Below w.heap.size w w' := by
  obtain ⟨va, vc, rfl⟩ := hv.len
  have HV := Lib.hid (fun W (h : Below w.heap.size w W) => hv.later h.block)
  have HE := Lib.hid (fun W (h : Below w.heap.size w W) => hE.later h.block)
  have HS := Lib.hid hs
  have C1 := Lib.hid (newFS_any w)
  have C2 := Lib.hid (boolF_any w w.heap.size d (w.alloc (.cells (fsC (.map none) (.slice none 0 0) (.map none) (.slice none 0 0)) 50)) (by (repeat (first | (with_reducible exact Below.refl _ _) | (with_reducible assumption) | ((with_reducible refine Below.alloc ?_ ?_ _); rotate_left; focus ((try simp only [World.size_alloc, size_setCell, World.heap_drewN]); (try omega); done)) | ((with_reducible refine Below.setCell ?_ ?_ _); rotate_left; focus ((try simp only [World.size_alloc, size_setCell, World.heap_drewN]); (try omega); done)) | (with_reducible refine Below.drewN' ?_) | (with_reducible refine Below.drew ?_)))) (heap_at _ _ _ rfl) (Nat.le_refl _))
  clear hv hE hs
  unfold ptr X at *
  go_enter Tryd.func5, Tryd.ntmps5
  go_wp2_with fail
  refine C1.out.mono ?_
  rintro e w1 ⟨rfl, hw1⟩
  rw [← hw1] at C2
  clear hw1 C1
  go_wp2_with fail
  refine C2.out.mono ?_
  rintro e w2 ⟨P, rfl, G, M, ofv, h2⟩
  have H2 := Lib.hid h2
  obtain ⟨F, hF⟩ : ∃ F, F = w.heap.size := ⟨_, rfl⟩
  rw [← hF] at H2 ⊢
  obtain ⟨df, hdf⟩ : ∃ df, df = txtV d := ⟨_, rfl⟩
  obtain ⟨no, hno⟩ : ∃ no : ByteArray, no = ⟨#[116, 114, 117, 101]⟩ := ⟨_, rfl⟩
  rw [← hdf, ← hno] at H2
  have H2' : Hid (∃ chg s act oav, OneV w F G M P df no chg s act oav ofv w2 ∧ (chg = false → act = .map none ∧ oav = .slice none 0 0)) := Lib.hid ⟨_, _, _, _, H2.out, fun _ => ⟨rfl, rfl⟩⟩
  clear h2 C2 hF H2 hdf hno
  go_wp2_with fail
  go_loopw [6, 8, 9, 10, 11, 18] (fun vo _ _ _ _ vi wr => ∃ (k : Nat) (xs : List Value), k ≤ l.length ∧ vi = .int .i64 k ∧ wr.ownsRow w.heap.size 27 3 vo k xs ∧ RowsOf 3 IB wr xs (l.take k) ∧ ∃ chg s act oav, OneV w F G M P df no chg s act oav ofv wr ∧ (chg = false → act = .map none ∧ oav = .slice none 0 0)) (fun _ _ _ _ _ vi _ => l.length - (intOf vi).toNat)
  case atStart => exact ⟨0, [], Nat.zero_le _, rfl, World.ownsRow_nil _ _ _ _, RowsOf.nil _ _ _, H2'.out⟩
  case round =>
    obtain ⟨k, xs, hk, rfl, hrow, hrows, chg, s, act, oav, hO, hc⟩ := hrel
    obtain ⟨ra, rc, rfl⟩ := row_form hrow
    by_cases hlt : k < l.length
    case neg =>
      have ek : k = l.length := by omega
      have HF : Hid (wr.ownsRow w.heap.size 27 3 (.slice ra k rc) l.length xs ∧ RowsOf 3 IB wr xs l ∧ Below w.heap.size w wr) := Lib.hid (by
        subst ek
        rw [List.take_length] at hrows
        exact ⟨hrow, hrows, hO.bel⟩)
      clear ek hrow hrows hO hc
      go_wp2_with fail
      go_ret
      exact ⟨_, xs, rfl, HF.out⟩
    obtain ⟨tb, tof, rfl, hcl⟩ := (HV.out wr hO.bel).cell (by omega)
    have hck := hcl k hlt
    have hsz := HS.out l[k] (List.getElem_mem hlt)
    clear hcl
    have HT : Hid (l.take (k + 1) = l.take k ++ [l[k]]) := Lib.hid (List.take_succ_eq_append_getElem hlt)
    generalize l[k] = t at *
    have CS := Lib.hid (setX_any wr t hsz (HE.out wr hO.bel) hO hc)
    have HROW := Lib.hid hrow
    have HROWS := Lib.hid hrows
    have HO := Lib.hid hO
    clear hrow hrows hO hc
    unfold ptr X at CS
    obtain ⟨bad, hbad⟩ : ∃ bad, badV t = bad := ⟨_, rfl⟩
    obtain ⟨x, hx⟩ : ∃ x, valV t = x := ⟨_, rfl⟩
    rw [hbad, hx] at CS
    have HBX := Lib.hid (show IB t [.bool bad, .bool x, .string ⟨#[]⟩] wr by unfold IB; rw [hbad, hx])
    clear hbad hx
    go_wp2_with fail
    refine CS.out.mono ?_
    rintro e w4 ⟨er, rfl, her, chg', act', oav', h4, hc4, hf4⟩
    have H4 := Lib.hid h4
    have HC4 := Lib.hid hc4
    have HR4 := Lib.hid (hf4.row HROW.out HO.out.hF HO.out.hG HO.out.hP (by decide) (by decide) (by decide))
    have CG := Lib.hid (getV_any w4 h4)
    clear h4 hf4 CS HO HROW hc4
    unfold ptr X at CG
    obtain ⟨i0, hi0, hz0, hz1, hz2⟩ := info_parts infoB
    cases bad with
    | true =>
      obtain ⟨t2, p2, rfl⟩ := her
      go_wp2_with fail
      refine CG.out.mono ?_
      rintro e w5 ⟨rfl, hb5⟩
      have H5 := Lib.hid (H4.out.later hb5)
      have HR5 := Lib.hid (row_grow HR4.out hb5)
      clear hb5 CG H4 HR4
      go_wp2_with (at_builtin; refine wpList_append_lies _ (by rfl) _ _ _ (by rfl) w.heap.size 27 i0 _ 3 24 Tryd.underlying24 hi0 hz0 hz1 hz2 rfl (by omega) (.slice ra k rc) k xs (by rfl) (row_grow HR5.out (by (repeat (first | (with_reducible exact Below.refl _ _) | (with_reducible assumption) | ((with_reducible refine Below.alloc ?_ ?_ _); rotate_left; focus ((try simp only [World.size_alloc, size_setCell, World.heap_drewN]); (try omega); done)) | ((with_reducible refine Below.setCell ?_ ?_ _); rotate_left; focus ((try simp only [World.size_alloc, size_setCell, World.heap_drewN]); (try omega); done)) | (with_reducible refine Below.drewN' ?_) | (with_reducible refine Below.drew ?_))))) ⟨w5.heap.size, 0, none⟩ 1 1 [.bool true, .bool x, .string ⟨#[]⟩] (by rfl) (by rfl) (news_lies (heap_at _ _ _ rfl) (by rfl)) (by simp [Value.oneCell']) (by omega) (by unfold maxLen; omega) (by omega) (by have := H5.out.bel.size; simp only [World.size_alloc]; omega) _ rfl ?_; intro g cap2 w6 hown hgrow hat hlt2)
      have HB : Hid (w6.ownsRow w.heap.size 27 3 (.slice (some ⟨g, 0, none⟩) (k + 1) cap2) (k + 1) (xs ++ [.bool true, .bool x, .string ⟨#[]⟩]) ∧ RowsOf 3 IB w6 (xs ++ [.bool true, .bool x, .string ⟨#[]⟩]) (l.take (k + 1)) ∧ OneV w F G M P df no chg' x act' oav' ofv w6) := Lib.hid (by
        refine ⟨hown, ?_, ?_⟩
        · rw [HT.out]
          exact RowsOf.snoc (HROWS.out.later fun _ _ h => h) HBX.out rfl
        · have hb1 : Below w5.heap.size w5 (w5.alloc (.cells #[.bool true, .bool x, .string ⟨#[]⟩] 27)) := by (repeat (first | (with_reducible exact Below.refl _ _) | (with_reducible assumption) | ((with_reducible refine Below.alloc ?_ ?_ _); rotate_left; focus ((try simp only [World.size_alloc, size_setCell, World.heap_drewN]); (try omega); done)) | ((with_reducible refine Below.setCell ?_ ?_ _); rotate_left; focus ((try simp only [World.size_alloc, size_setCell, World.heap_drewN]); (try omega); done)) | (with_reducible refine Below.drewN' ?_) | (with_reducible refine Below.drew ?_)))
          have h6 := H5.out.later hb1
          have hr6 := row_grow HR5.out hb1
          refine ⟨grown_below h6.bel h6.bel.size hr6 hgrow, ?_, ?_, h6.hM.at (hgrow.block _ h6.hM.lt fun q => ?_), ?_, h6.lF, h6.lG, h6.lM, h6.lP, h6.nFG, h6.nFP, h6.nGP⟩
          · exact (hgrow.block _ (lt_of_block h6.hF) (fun q => row_ne h6.hF hr6 (by decide) q.symm)).trans h6.hF
          · exact (hgrow.block _ (lt_of_block h6.hG) (fun q => row_ne h6.hG hr6 (by decide) q.symm)).trans h6.hG
          · obtain ⟨_, c, hc⟩ := ownsRow_cells hr6 q.symm
            exact h6.hM.ne hc rfl
          · exact (hgrow.block _ (lt_of_block h6.hP) (fun q => row_ne h6.hP hr6 (by decide) q.symm)).trans h6.hP)
      clear hown hgrow hat hlt2 HROWS
      go_wp2_with fail
      go_roundw
      case rel => exact ⟨k + 1, _, by omega, by go_num, HB.out.1, HB.out.2.1, chg', x, act', oav', HB.out.2.2, HC4.out⟩
      case measure => simp [intOf]; omega
    | false =>
      have her2 : er = .nilIface := her
      subst her2
      clear her
      go_wp2_with fail
      refine CG.out.mono ?_
      rintro e w5 ⟨rfl, hb5⟩
      have H5 := Lib.hid (H4.out.later hb5)
      have HR5 := Lib.hid (row_grow HR4.out hb5)
      clear hb5 CG H4 HR4
      go_wp2_with (at_builtin; refine wpList_append_lies _ (by rfl) _ _ _ (by rfl) w.heap.size 27 i0 _ 3 24 Tryd.underlying24 hi0 hz0 hz1 hz2 rfl (by omega) (.slice ra k rc) k xs (by rfl) (row_grow HR5.out (by (repeat (first | (with_reducible exact Below.refl _ _) | (with_reducible assumption) | ((with_reducible refine Below.alloc ?_ ?_ _); rotate_left; focus ((try simp only [World.size_alloc, size_setCell, World.heap_drewN]); (try omega); done)) | ((with_reducible refine Below.setCell ?_ ?_ _); rotate_left; focus ((try simp only [World.size_alloc, size_setCell, World.heap_drewN]); (try omega); done)) | (with_reducible refine Below.drewN' ?_) | (with_reducible refine Below.drew ?_))))) ⟨w5.heap.size, 0, none⟩ 1 1 [.bool false, .bool x, .string ⟨#[]⟩] (by rfl) (by rfl) (news_lies (heap_at _ _ _ rfl) (by rfl)) (by simp [Value.oneCell']) (by omega) (by unfold maxLen; omega) (by omega) (by have := H5.out.bel.size; simp only [World.size_alloc]; omega) _ rfl ?_; intro g cap2 w6 hown hgrow hat hlt2)
      have HB : Hid (w6.ownsRow w.heap.size 27 3 (.slice (some ⟨g, 0, none⟩) (k + 1) cap2) (k + 1) (xs ++ [.bool false, .bool x, .string ⟨#[]⟩]) ∧ RowsOf 3 IB w6 (xs ++ [.bool false, .bool x, .string ⟨#[]⟩]) (l.take (k + 1)) ∧ OneV w F G M P df no chg' x act' oav' ofv w6) := Lib.hid (by
        refine ⟨hown, ?_, ?_⟩
        · rw [HT.out]
          exact RowsOf.snoc (HROWS.out.later fun _ _ h => h) HBX.out rfl
        · have hb1 : Below w5.heap.size w5 (w5.alloc (.cells #[.bool false, .bool x, .string ⟨#[]⟩] 27)) := by (repeat (first | (with_reducible exact Below.refl _ _) | (with_reducible assumption) | ((with_reducible refine Below.alloc ?_ ?_ _); rotate_left; focus ((try simp only [World.size_alloc, size_setCell, World.heap_drewN]); (try omega); done)) | ((with_reducible refine Below.setCell ?_ ?_ _); rotate_left; focus ((try simp only [World.size_alloc, size_setCell, World.heap_drewN]); (try omega); done)) | (with_reducible refine Below.drewN' ?_) | (with_reducible refine Below.drew ?_)))
          have h6 := H5.out.later hb1
          have hr6 := row_grow HR5.out hb1
          refine ⟨grown_below h6.bel h6.bel.size hr6 hgrow, ?_, ?_, h6.hM.at (hgrow.block _ h6.hM.lt fun q => ?_), ?_, h6.lF, h6.lG, h6.lM, h6.lP, h6.nFG, h6.nFP, h6.nGP⟩
          · exact (hgrow.block _ (lt_of_block h6.hF) (fun q => row_ne h6.hF hr6 (by decide) q.symm)).trans h6.hF
          · exact (hgrow.block _ (lt_of_block h6.hG) (fun q => row_ne h6.hG hr6 (by decide) q.symm)).trans h6.hG
          · obtain ⟨_, c, hc⟩ := ownsRow_cells hr6 q.symm
            exact h6.hM.ne hc rfl
          · exact (hgrow.block _ (lt_of_block h6.hP) (fun q => row_ne h6.hP hr6 (by decide) q.symm)).trans h6.hP)
      clear hown hgrow hat hlt2 HROWS
      go_wp2_with fail
      go_roundw
      case rel => exact ⟨k + 1, _, by omega, by go_num, HB.out.1, HB.out.2.1, chg', x, act', oav', HB.out.2.2, HC4.out⟩
      case measure => simp [intOf]; omega
set_option maxRecDepth 100000 in
theorem fnGetBools_law (d : Bool) (v : Value) (l : List ByteArray) (w : World) (hv : Strs w v l) (hl : l.length ≤ 9223372036854775807) (hE : ErrAt w) :
    Calls Tryd.prog 3 #[.bool d, v] w fun e w' => e = .returned (.bool true) ∧ Below w.heap.size w w' := by
  have F := Lib.hid (fits2_any v l w hv hl)
  have CG := Lib.hid (fun (h : SmallL l) => getBool_any d v l w hv h.1 h.2 hE)
  have CB := Lib.hid (fun (h : SmallL l) W (hb : Below w.heap.size w W) => boolValue_any d v l W (hv.later hb.block) h.1 h.2 (hE.later hb.block))
  obtain ⟨va, vc, rfl⟩ := hv.len
  clear hv hE
  go_enter Tryd.func3, Tryd.ntmps3
  go_wp2_with fail
  refine F.out.mono ?_
  rintro e w' ⟨⟨b, rfl, hb⟩, rfl⟩
  cases b with
  | false =>
    go_wp2_with fail
    go_ret
    exact ⟨rfl, Below.refl _ _⟩
  | true =>
    have hsm := hb rfl
    have C := Lib.hid (CG.out hsm)
    have C2 := Lib.hid (CB.out hsm)
    have hll := hsm.1
    clear hb hsm CG CB F
    go_wp2_with fail
    refine C.out.mono ?_
    rintro e w2 ⟨rv, xs, rfl, hrow, hrows, hb2⟩
    obtain ⟨ra, rc, rfl⟩ := row_form hrow
    have HROW := Lib.hid hrow
    have HROWS := Lib.hid hrows
    have HB2 := Lib.hid hb2
    have C3 := Lib.hid (C2.out w2 hb2)
    clear hrow hrows hb2 C C2
    go_wp2_with fail
    refine C3.out.mono ?_
    rintro e w3 ⟨rv3, rfl, hrow3, hb3⟩
    obtain ⟨qa, qc, rfl⟩ := row_form hrow3
    have HR3 := Lib.hid hrow3
    have HROW3 := Lib.hid (row_grow HROW.out hb3)
    have HB3 := Lib.hid (Below.after HB2.out hb3)
    clear hrow3 hb3 C3 HROW HB2
    go_wp2_with fail
    go_loopw [7, 31] (fun _ i wr => ∃ k : Nat, k ≤ l.length ∧ i = .int .i64 k ∧ Drawn w3 wr) (fun _ i _ => l.length - (intOf i).toNat)
    case atStart => exact ⟨0, Nat.zero_le _, rfl, Drawn.refl _⟩
    case round =>
      obtain ⟨k, hk, rfl, m, rfl⟩ := hrel
      by_cases hlt : k < l.length
      case neg =>
        go_wp2_with fail
        go_ret
        exact ⟨rfl, Below.drewN' HB3.out⟩
      obtain ⟨g1, cs1, rfl, hcs, hc1⟩ := rows_at (w := w3) (HROWS.out.later fun _ _ h => h) HROW3.out k hlt rfl (by omega)
      have hcs' : cs1 = [.bool (badV l[k]), .bool (valV l[k]), .string ⟨#[]⟩] := hcs
      subst hcs'
      have r0 := hc1 0 _ (by omega) rfl
      have r1 := hc1 1 _ (by omega) rfl
      have hq : ∃ g2, qa = some ⟨g2, 0, none⟩ ∧ w3.cell? ⟨g2, k * 3, none⟩ = some (.bool (badV l[k])) ∧ w3.cell? ⟨g2, k * 3 + 1, none⟩ = some (.bool (valV l[k])) := by
        obtain ⟨q0, q1, -⟩ := flatB_get l k hlt
        rcases HR3.out.2 with ⟨e, h0⟩ | ⟨g, cap, cur, e, hb, hh, hnc, hcm, hcs, ht⟩
        · omega
        · cases e
          rw [← ht, List.getElem?_take, if_pos (by omega), Array.getElem?_toList] at q0 q1
          exact ⟨g, rfl, by simpa [World.cell?, hh, badV] using q0, by simpa [World.cell?, hh, valV] using q1⟩
      obtain ⟨g2, rfl, q0, q1⟩ := hq
      simp only [Nat.add_zero] at r0
      clear hc1 hcs
      generalize badV l[k] = bad at *
      generalize valV l[k] = x at *
      cases bad <;> cases x
      all_goals
        go_wp2_with fail
        go_quiet (fail)
        go_wp2_with fail
        go_roundw
        case rel => first | exact ⟨k + 1, by omega, by go_num, _, rfl⟩ | ((repeat apply Exists.intro); exact ⟨⟨k + 1, by omega, by go_num, _, rfl⟩, rfl⟩)
        case measure => simp [intOf]; omega
end Go.Proofs.YtkhjffjdchkobaaDoor
