/- What impl.UintValue tells of a value of kind uint8. (Printed by gen_uv.py.) -/
import Derived.Test.YtioldikeiiibgaaGreatDoorUVal
namespace Go.Proofs.YtioldikeiiibgaaGreatDoor
open Go.RowKit
set_option linter.unusedVariables false
set_option linter.unusedSimpArgs false

def n_uint8 : SayN := ⟨[(0, 77), (1, 78), (2, 79), (3, 80), (4, 81), (5, 82), (6, 83), (7, 84), (8, 85), (9, 86)], 10, 87, 11, 88, 12, 7, 0⟩
theorem n_uint8_wf : n_uint8.Wf := ⟨by decide, by decide⟩

set_option maxRecDepth 100000 in
set_option maxHeartbeats 3200000 in
theorem uval_uint8 (d : Int) (h0 : 0 ≤ d) (h1 : d ≤ 255) (v : Value) (l : List ByteArray) (w : World) (hv : Strs w v l) (hl : l.length ≤ 2147483647) (hs : ∀ s ∈ l, s.size ≤ 2147483647) (hE : ErrsAt w) (hTab : Tab w) :
    Calls Tryz.prog 6 #[.int .i64 8, .int .u64 d, v] w fun e w' => ∃ rv, e = .returned rv ∧ w'.ownsRow w.heap.size 29 3 rv l.length (flatU 255 l) ∧ Below w.heap.size w w' := by
  obtain ⟨a, cap, rfl⟩ := hv.len
  have HV := Lib.hid (fun W (h : Below w.heap.size w W) => hv.later h.block)
  have HE := Lib.hid (fun W (h : Below w.heap.size w W) => hE.later h.block)
  have HT := Lib.hid (fun W (h : Below w.heap.size w W) => hTab.later h)
  have HS := Lib.hid hs
  have h0l : UIn w w.heap.size .u8 5 255 l 0 (.slice none 0 0) (w.alloc (.cells #[.int .u8 d] 5)) := ⟨(Below.refl _ _).alloc (Nat.le_refl _) _, ⟨d, heap_at w (.cells #[.int .u8 d] 5) _ rfl⟩, World.ownsRow_nil _ _ _ _⟩
  have H0 := Lib.hid h0l
  clear hv hE hs h0l hTab
  go_enter Tryz.func6, Tryz.ntmps6
  go_wp2
  go_loopw [7, 70] (fun vo vi wr => ∃ k : Nat, k ≤ l.length ∧ vi = .int .i64 k ∧ UIn w w.heap.size .u8 5 255 l k vo wr) (fun _ vi _ => l.length - (intOf vi).toNat)
  case atStart => exact ⟨0, Nat.zero_le _, rfl, H0.out⟩
  case round =>
    obtain ⟨k, hk, rfl, hr⟩ := hrel
    obtain ⟨ra, rc, rfl⟩ := row_form hr.row
    have HR := Lib.hid hr
    clear hr
    by_cases hlt : k < l.length
    case neg =>
      have ek : k = l.length := by omega
      have HFIN : Hid (wr.ownsRow w.heap.size 29 3 (.slice ra k rc) l.length (flatU 255 l) ∧ Below w.heap.size w wr) := Lib.hid (by
        subst ek
        have := HR.out.row
        rw [List.take_length] at this
        exact ⟨row_lower this (Nat.le_succ _), HR.out.bel⟩)
      clear ek
      go_wp2_with fail
      go_ret
      exact ⟨_, rfl, HFIN.out⟩
    obtain ⟨tb, tof, rfl, hc⟩ := (HV.out wr HR.out.bel).cell (by omega)
    have hck := hc k hlt
    have hsz := HS.out l[k] (List.getElem_mem hlt)
    have HN : Hid (flatU 255 (l.take (k + 1)) = flatU 255 (l.take k) ++ [.bool (ub 255 l[k]), .int .u64 (uv 255 l[k] : Nat), .string (numS (uv 255 l[k]))]) := Lib.hid (flatU_take 255 l k hlt)
    clear hc
    generalize l[k] = x at *
    obtain ⟨y, hy⟩ := HR.out.cell
    have C := Lib.hid (set_uint8 _ y _ x hsz wr hy (HE.out wr HR.out.bel))
    have HY := Lib.hid hy
    have HLE := Lib.hid (uv_le 255 x)
    clear hy
    generalize uv 255 x = vn at *
    generalize ub 255 x = bad at *
    go_wp2_with fail
    refine C.out.mono ?_
    rintro e w2 ⟨er, w3, rfl, her, hb3, rfl⟩
    have hP3 := (hb3.block _ (lt_of_block HY.out)).trans HY.out
    have hr3 : UIn w w.heap.size .u8 5 255 l k (.slice ra k rc) (w3.setCell ⟨w.heap.size, 0, none⟩ (.int .u8 (vn : Nat))) := by
      refine ⟨(HR.out.bel.trans (hb3.mono HR.out.bel.size)).setCell (Nat.le_refl _) _, ⟨_, heap_set hP3 0 _⟩, ?_⟩
      exact ownsRow_setCell_below (row_grow HR.out.row hb3) (by simp) _
    have hP4 : (w3.setCell ⟨w.heap.size, 0, none⟩ (.int .u8 (vn : Nat))).heap[w.heap.size]? = some (.cells #[.int .u8 (vn : Nat)] 5 (0, 0)) := heap_set hP3 0 _
    generalize w3.setCell ⟨w.heap.size, 0, none⟩ (.int .u8 (vn : Nat)) = w4 at *
    have HR4 := Lib.hid hr3
    have HP4 := Lib.hid hP4
    have HER := Lib.hid her
    clear hr3 hP4 her hb3 hP3 HR C HY hck
    go_upto_region 19 with fail
    have WF := n_uint8_wf
    have hsz4 : w.heap.size + 1 ≤ w4.heap.size := lt_of_block HP4.out
    refine wp_region_og [77, 78, 79, 80, 81, 82, 83, 84, 85, 86, 87, 88, 7] (SI w4 (w.heap.size + 1) 29 3 (.slice ra k rc) k (flatU 255 (l.take k)) [.bool bad, .int .u64 (vn : Nat), .string (numS vn)] n_uint8 (fun i => [.slice ra k rc, er, .bool bad, .pointer (some ⟨w.heap.size, 0, none⟩), .pointer (some ⟨w.heap.size, 0, none⟩), .int .u8 (vn : Nat), .int .u64 (vn : Nat), .pointer (some ⟨w.heap.size, 0, none⟩), .string (numS vn), .agg #[.bool bad, .int .u64 (vn : Nat), .string (numS vn)]].getD i undef)) (by kernel_rfl) (by kernel_rfl) (SI.start hsz4 rfl HR4.out.row _ rfl) ?_ ?_
    · intro i o ho L f wz hl hp hI
      have hi : i < 13 := (Array.getElem?_eq_some_iff.1 ho).1
      have hcell : wz.cell? ⟨w.heap.size, 0, none⟩ = some (.int .u8 (vn : Nat)) := cell_of_one ((hI.bel.block _ (Nat.lt_succ_self _)).trans HP4.out)
      have hle := HLE.out
      obtain rfl | rfl | rfl | rfl | rfl | rfl | rfl | rfl | rfl | rfl | rfl | rfl | rfl : i = 0 ∨ i = 1 ∨ i = 2 ∨ i = 3 ∨ i = 4 ∨ i = 5 ∨ i = 6 ∨ i = 7 ∨ i = 8 ∨ i = 9 ∨ i = 10 ∨ i = 11 ∨ i = 12 := by omega
      all_goals obtain rfl := Option.some.inj ho
      · have hLC : L 12 = false := by
          cases hc : L 12 with
          | false => rfl
          | true => exact absurd ((hI.oz (hI.r2 hc).1).symm.trans hl) (by decide)
        exact og_op rfl rfl (og_value (run_move ((over_eval _ _ _ (by decide) (by show 7 < 176; omega)).trans (hI.c0 hLC))) ⟨_, over_put _ _ _ (by decide) _, hI.pure WF (i := 0) (by decide) (Below.refl _ _) rfl⟩)
      · exact og_op rfl rfl (og_value (run_move ((over_eval_out _ _ _ (by decide)).trans rfl)) ⟨_, over_put _ _ _ (by decide) _, hI.pure WF (i := 1) (by decide) (Below.refl _ _) rfl⟩)
      · have e1 := hI.v 1 78 (by decide) (hp ⟨1, .data⟩ (by simp) rfl)
        cases bad with
        | true =>
          obtain ⟨t, q, rfl⟩ := HER.out
          exact og_op rfl rfl (og_value (run_neqErr ((over_eval _ _ _ (by decide) (by show 78 < 176; omega)).trans e1) rfl) ⟨_, over_put _ _ _ (by decide) _, hI.pure WF (i := 2) (by decide) (Below.refl _ _) rfl⟩)
        | false =>
          have h := HER.out
          simp only [Bool.false_eq_true, if_false] at h
          subst h
          exact og_op rfl rfl (og_value (run_neqNil ((over_eval _ _ _ (by decide) (by show 78 < 176; omega)).trans e1) rfl) ⟨_, over_put _ _ _ (by decide) _, hI.pure WF (i := 2) (by decide) (Below.refl _ _) rfl⟩)
      · exact og_op rfl rfl (og_value (run_move ((over_eval_out _ _ _ (by decide)).trans rfl)) ⟨_, over_put _ _ _ (by decide) _, hI.pure WF (i := 3) (by decide) (Below.refl _ _) rfl⟩)
      · have e1 := hI.v 3 80 (by decide) (hp ⟨3, .data⟩ (by simp) rfl)
        exact og_op rfl rfl (og_value (run_nilCheck ((over_eval _ _ _ (by decide) (by show 80 < 176; omega)).trans e1)) ⟨_, over_put _ _ _ (by decide) _, hI.pure WF (i := 4) (by decide) (Below.refl _ _) rfl⟩)
      · have e1 := hI.v 4 81 (by decide) (hp ⟨4, .data⟩ (by simp) rfl)
        exact og_op rfl rfl (og_value (run_load_uint8 ((over_eval _ _ _ (by decide) (by show 81 < 176; omega)).trans e1) hcell) ⟨_, over_put _ _ _ (by decide) _, hI.pure WF (i := 5) (by decide) (Below.refl _ _) rfl⟩)
      · have e1 := hI.v 5 82 (by decide) (hp ⟨5, .data⟩ (by simp) rfl)
        exact og_op rfl rfl (og_value (run_conv_uint8 ((over_eval _ _ _ (by decide) (by show 82 < 176; omega)).trans e1) (by omega) (by omega)) ⟨_, over_put _ _ _ (by decide) _, hI.pure WF (i := 6) (by decide) (Below.refl _ _) rfl⟩)
      · exact og_op rfl rfl (og_value (run_move ((over_eval_out _ _ _ (by decide)).trans rfl)) ⟨_, over_put _ _ _ (by decide) _, hI.pure WF (i := 7) (by decide) (Below.refl _ _) rfl⟩)
      · have e1 := hI.v 7 84 (by decide) (hp ⟨7, .data⟩ (by simp) rfl)
        refine og_op rfl rfl (og_call (run_call1 ((over_eval _ _ _ (by decide) (by show 84 < 176; omega)).trans e1) rfl (fun args => by simp [go_sem])) ?_)
        refine (text_uint8 _ vn HLE.out wz hcell (HT.out wz (HR4.out.bel.trans (hI.bel.mono (Nat.le_succ _))))).mono ?_
        rintro e w' ⟨rfl, hbc⟩
        exact ⟨_, rfl, ⟨_, over_put _ _ _ (by decide) _, hI.pure WF (i := 8) (by decide) hbc rfl⟩⟩
      · have e1 := hI.v 2 79 (by decide) (hp ⟨2, .data⟩ (by simp) rfl)
        have e2 := hI.v 6 83 (by decide) (hp ⟨6, .data⟩ (by simp) rfl)
        have e3 := hI.v 8 85 (by decide) (hp ⟨8, .data⟩ (by simp) rfl)
        exact og_op rfl rfl (og_value (run_buildU ((over_eval _ _ _ (by decide) (by show 79 < 176; omega)).trans e1) ((over_eval _ _ _ (by decide) (by show 83 < 176; omega)).trans e2) ((over_eval _ _ _ (by decide) (by show 85 < 176; omega)).trans e3)) ⟨_, over_put _ _ _ (by decide) _, hI.pure WF (i := 9) (by decide) (Below.refl _ _) rfl⟩)
      · have e1 := hI.v 9 86 (by decide) (hp ⟨9, .data⟩ (by simp) rfl)
        exact og_op rfl rfl (og_value (run_buildSliceU ((over_eval _ _ _ (by decide) (by show 86 < 176; omega)).trans e1)) ⟨_, over_put _ _ _ (by decide) _, hI.built WF hl⟩)
      · have e1 := hI.v 0 77 (by decide) (hp ⟨0, .data⟩ (by simp) rfl)
        have hB := hp ⟨10, .data⟩ (by simp) rfl
        have hZ := hp ⟨0, .data⟩ (by simp) rfl
        exact og_op rfl rfl (hI.append WF hl hB hZ (.tmp 77) (.tmp 87) rfl rfl (by decide) Tryz.underlying26 infoU rfl (by omega) ((over_eval _ _ _ (by decide) (by show 77 < 176; omega)).trans e1) (over_eval _ _ _ (by decide) (by show 87 < 176; omega)) rfl (by simp [Value.oneCell']) (by unfold maxLen; omega) (by omega))
      · have hA := hp ⟨11, .data⟩ (by simp) rfl
        exact og_op rfl rfl (og_value (run_assign (over_eval _ _ _ (by decide) (by show 88 < 176; omega))) ⟨_, over_put _ _ _ (by decide) _, hI.assigned WF hA⟩)
    · intro L f wz hl hI
      have hC := hI.r2 (hl 12 (by show 12 < 13; omega))
      have hrow := hI.r1 hC.1
      have HB : Hid (UIn w w.heap.size .u8 5 255 l (k + 1) (f 7) wz) := Lib.hid (by
        refine ⟨HR4.out.bel.trans (hI.bel.mono (Nat.le_succ _)), ⟨_, (hI.bel.block _ (Nat.lt_succ_self _)).trans HP4.out⟩, ?_⟩
        rw [HN.out, show f 7 = f 88 from hC.2]
        exact hrow)
      clear hI hl hC hrow
      simp only [over, ovl, List.contains, List.elem, Nat.reduceBEq, Bool.false_eq_true, if_false, if_true, Nat.reduceAdd]
      generalize f 7 = v7 at *
      go_wp2_with fail
      go_roundw
      case rel => first | exact ⟨k + 1, by omega, by go_num, HB.out⟩ | ((repeat apply Exists.intro); exact ⟨⟨k + 1, by omega, by go_num, HB.out⟩, rfl⟩)
      case measure => simp [intOf]; omega
end Go.Proofs.YtioldikeiiibgaaGreatDoor
