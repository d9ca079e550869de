/- What impl.UintValue tells of a value of kind uint16. (Printed by gen_uv.py.) -/
import Derived.Test.YtioldikeiiibgaaGreatDoorUVal
namespace Go.Proofs.YtioldikeiiibgaaGreatDoor
open Go.RowKit
set_option linter.unusedVariables false
set_option linter.unusedSimpArgs false

def n_uint16 : SayN := ⟨[(0, 106), (1, 107), (2, 108), (3, 109), (4, 110), (5, 111), (6, 112), (7, 113), (8, 114), (9, 115)], 10, 116, 11, 117, 12, 7, 0⟩
theorem n_uint16_wf : n_uint16.Wf := ⟨by decide, by decide⟩

set_option maxRecDepth 100000 in
set_option maxHeartbeats 3200000 in
theorem uval_uint16 (d : Int) (h0 : 0 ≤ d) (h1 : d ≤ 65535) (v : Value) (l : List ByteArray) (w : World) (hv : Strs w v l) (hl : l.length ≤ 2147483647) (hs : ∀ s ∈ l, s.size ≤ 2147483647) (hE : ErrsAt w) (hTab : Tab w) :
    Calls Tryz.prog 6 #[.int .i64 16, .int .u64 d, v] w fun e w' => ∃ rv, e = .returned rv ∧ w'.ownsRow w.heap.size 29 3 rv l.length (flatU 65535 l) ∧ Below w.heap.size w w' := by
  obtain ⟨a, cap, rfl⟩ := hv.len
  have HV := Lib.hid (fun W (h : Below w.heap.size w W) => hv.later h.block)
  have HE := Lib.hid (fun W (h : Below w.heap.size w W) => hE.later h.block)
  have HT := Lib.hid (fun W (h : Below w.heap.size w W) => hTab.later h)
  have HS := Lib.hid hs
  have h0l : UIn w w.heap.size .u16 47 65535 l 0 (.slice none 0 0) (w.alloc (.cells #[.int .u16 d] 47)) := ⟨(Below.refl _ _).alloc (Nat.le_refl _) _, ⟨d, heap_at w (.cells #[.int .u16 d] 47) _ rfl⟩, World.ownsRow_nil _ _ _ _⟩
  have H0 := Lib.hid h0l
  clear hv hE hs h0l hTab
  go_enter Tryz.func6, Tryz.ntmps6
  go_wp2
  go_loopw [7, 99] (fun vo vi wr => ∃ k : Nat, k ≤ l.length ∧ vi = .int .i64 k ∧ UIn w w.heap.size .u16 47 65535 l k vo wr) (fun _ vi _ => l.length - (intOf vi).toNat)
  case atStart => exact ⟨0, Nat.zero_le _, rfl, H0.out⟩
  case round =>
    obtain ⟨k, hk, rfl, hr⟩ := hrel
    obtain ⟨ra, rc, rfl⟩ := row_form hr.row
    have HR := Lib.hid hr
    clear hr
    by_cases hlt : k < l.length
    case neg =>
      have ek : k = l.length := by omega
      have HFIN : Hid (wr.ownsRow w.heap.size 29 3 (.slice ra k rc) l.length (flatU 65535 l) ∧ Below w.heap.size w wr) := Lib.hid (by
        subst ek
        have := HR.out.row
        rw [List.take_length] at this
        exact ⟨row_lower this (Nat.le_succ _), HR.out.bel⟩)
      clear ek
      go_wp2_with fail
      go_ret
      exact ⟨_, rfl, HFIN.out⟩
    obtain ⟨tb, tof, rfl, hc⟩ := (HV.out wr HR.out.bel).cell (by omega)
    have hck := hc k hlt
    have hsz := HS.out l[k] (List.getElem_mem hlt)
    have HN : Hid (flatU 65535 (l.take (k + 1)) = flatU 65535 (l.take k) ++ [.bool (ub 65535 l[k]), .int .u64 (uv 65535 l[k] : Nat), .string (numS (uv 65535 l[k]))]) := Lib.hid (flatU_take 65535 l k hlt)
    clear hc
    generalize l[k] = x at *
    obtain ⟨y, hy⟩ := HR.out.cell
    have C := Lib.hid (set_uint16 _ y _ x hsz wr hy (HE.out wr HR.out.bel))
    have HY := Lib.hid hy
    have HLE := Lib.hid (uv_le 65535 x)
    clear hy
    generalize uv 65535 x = vn at *
    generalize ub 65535 x = bad at *
    go_wp2_with fail
    refine C.out.mono ?_
    rintro e w2 ⟨er, w3, rfl, her, hb3, rfl⟩
    have hP3 := (hb3.block _ (lt_of_block HY.out)).trans HY.out
    have hr3 : UIn w w.heap.size .u16 47 65535 l k (.slice ra k rc) (w3.setCell ⟨w.heap.size, 0, none⟩ (.int .u16 (vn : Nat))) := by
      refine ⟨(HR.out.bel.trans (hb3.mono HR.out.bel.size)).setCell (Nat.le_refl _) _, ⟨_, heap_set hP3 0 _⟩, ?_⟩
      exact ownsRow_setCell_below (row_grow HR.out.row hb3) (by simp) _
    have hP4 : (w3.setCell ⟨w.heap.size, 0, none⟩ (.int .u16 (vn : Nat))).heap[w.heap.size]? = some (.cells #[.int .u16 (vn : Nat)] 47 (0, 0)) := heap_set hP3 0 _
    generalize w3.setCell ⟨w.heap.size, 0, none⟩ (.int .u16 (vn : Nat)) = w4 at *
    have HR4 := Lib.hid hr3
    have HP4 := Lib.hid hP4
    have HER := Lib.hid her
    clear hr3 hP4 her hb3 hP3 HR C HY hck
    go_upto_region 28 with fail
    have WF := n_uint16_wf
    have hsz4 : w.heap.size + 1 ≤ w4.heap.size := lt_of_block HP4.out
    refine wp_region_og [106, 107, 108, 109, 110, 111, 112, 113, 114, 115, 116, 117, 7] (SI w4 (w.heap.size + 1) 29 3 (.slice ra k rc) k (flatU 65535 (l.take k)) [.bool bad, .int .u64 (vn : Nat), .string (numS vn)] n_uint16 (fun i => [.slice ra k rc, er, .bool bad, .pointer (some ⟨w.heap.size, 0, none⟩), .pointer (some ⟨w.heap.size, 0, none⟩), .int .u16 (vn : Nat), .int .u64 (vn : Nat), .pointer (some ⟨w.heap.size, 0, none⟩), .string (numS vn), .agg #[.bool bad, .int .u64 (vn : Nat), .string (numS vn)]].getD i undef)) (by kernel_rfl) (by kernel_rfl) (SI.start hsz4 rfl HR4.out.row _ rfl) ?_ ?_
    · intro i o ho L f wz hl hp hI
      have hi : i < 13 := (Array.getElem?_eq_some_iff.1 ho).1
      have hcell : wz.cell? ⟨w.heap.size, 0, none⟩ = some (.int .u16 (vn : Nat)) := cell_of_one ((hI.bel.block _ (Nat.lt_succ_self _)).trans HP4.out)
      have hle := HLE.out
      obtain rfl | rfl | rfl | rfl | rfl | rfl | rfl | rfl | rfl | rfl | rfl | rfl | rfl : i = 0 ∨ i = 1 ∨ i = 2 ∨ i = 3 ∨ i = 4 ∨ i = 5 ∨ i = 6 ∨ i = 7 ∨ i = 8 ∨ i = 9 ∨ i = 10 ∨ i = 11 ∨ i = 12 := by omega
      all_goals obtain rfl := Option.some.inj ho
      · have hLC : L 12 = false := by
          cases hc : L 12 with
          | false => rfl
          | true => exact absurd ((hI.oz (hI.r2 hc).1).symm.trans hl) (by decide)
        exact og_op rfl rfl (og_value (run_move ((over_eval _ _ _ (by decide) (by show 7 < 176; omega)).trans (hI.c0 hLC))) ⟨_, over_put _ _ _ (by decide) _, hI.pure WF (i := 0) (by decide) (Below.refl _ _) rfl⟩)
      · exact og_op rfl rfl (og_value (run_move ((over_eval_out _ _ _ (by decide)).trans rfl)) ⟨_, over_put _ _ _ (by decide) _, hI.pure WF (i := 1) (by decide) (Below.refl _ _) rfl⟩)
      · have e1 := hI.v 1 107 (by decide) (hp ⟨1, .data⟩ (by simp) rfl)
        cases bad with
        | true =>
          obtain ⟨t, q, rfl⟩ := HER.out
          exact og_op rfl rfl (og_value (run_neqErr ((over_eval _ _ _ (by decide) (by show 107 < 176; omega)).trans e1) rfl) ⟨_, over_put _ _ _ (by decide) _, hI.pure WF (i := 2) (by decide) (Below.refl _ _) rfl⟩)
        | false =>
          have h := HER.out
          simp only [Bool.false_eq_true, if_false] at h
          subst h
          exact og_op rfl rfl (og_value (run_neqNil ((over_eval _ _ _ (by decide) (by show 107 < 176; omega)).trans e1) rfl) ⟨_, over_put _ _ _ (by decide) _, hI.pure WF (i := 2) (by decide) (Below.refl _ _) rfl⟩)
      · exact og_op rfl rfl (og_value (run_move ((over_eval_out _ _ _ (by decide)).trans rfl)) ⟨_, over_put _ _ _ (by decide) _, hI.pure WF (i := 3) (by decide) (Below.refl _ _) rfl⟩)
      · have e1 := hI.v 3 109 (by decide) (hp ⟨3, .data⟩ (by simp) rfl)
        exact og_op rfl rfl (og_value (run_nilCheck ((over_eval _ _ _ (by decide) (by show 109 < 176; omega)).trans e1)) ⟨_, over_put _ _ _ (by decide) _, hI.pure WF (i := 4) (by decide) (Below.refl _ _) rfl⟩)
      · have e1 := hI.v 4 110 (by decide) (hp ⟨4, .data⟩ (by simp) rfl)
        exact og_op rfl rfl (og_value (run_load_uint16 ((over_eval _ _ _ (by decide) (by show 110 < 176; omega)).trans e1) hcell) ⟨_, over_put _ _ _ (by decide) _, hI.pure WF (i := 5) (by decide) (Below.refl _ _) rfl⟩)
      · have e1 := hI.v 5 111 (by decide) (hp ⟨5, .data⟩ (by simp) rfl)
        exact og_op rfl rfl (og_value (run_conv_uint16 ((over_eval _ _ _ (by decide) (by show 111 < 176; omega)).trans e1) (by omega) (by omega)) ⟨_, over_put _ _ _ (by decide) _, hI.pure WF (i := 6) (by decide) (Below.refl _ _) rfl⟩)
      · exact og_op rfl rfl (og_value (run_move ((over_eval_out _ _ _ (by decide)).trans rfl)) ⟨_, over_put _ _ _ (by decide) _, hI.pure WF (i := 7) (by decide) (Below.refl _ _) rfl⟩)
      · have e1 := hI.v 7 113 (by decide) (hp ⟨7, .data⟩ (by simp) rfl)
        refine og_op rfl rfl (og_call (run_call1 ((over_eval _ _ _ (by decide) (by show 113 < 176; omega)).trans e1) rfl (fun args => by simp [go_sem])) ?_)
        refine (text_uint16 _ vn HLE.out wz hcell (HT.out wz (HR4.out.bel.trans (hI.bel.mono (Nat.le_succ _))))).mono ?_
        rintro e w' ⟨rfl, hbc⟩
        exact ⟨_, rfl, ⟨_, over_put _ _ _ (by decide) _, hI.pure WF (i := 8) (by decide) hbc rfl⟩⟩
      · have e1 := hI.v 2 108 (by decide) (hp ⟨2, .data⟩ (by simp) rfl)
        have e2 := hI.v 6 112 (by decide) (hp ⟨6, .data⟩ (by simp) rfl)
        have e3 := hI.v 8 114 (by decide) (hp ⟨8, .data⟩ (by simp) rfl)
        exact og_op rfl rfl (og_value (run_buildU ((over_eval _ _ _ (by decide) (by show 108 < 176; omega)).trans e1) ((over_eval _ _ _ (by decide) (by show 112 < 176; omega)).trans e2) ((over_eval _ _ _ (by decide) (by show 114 < 176; omega)).trans e3)) ⟨_, over_put _ _ _ (by decide) _, hI.pure WF (i := 9) (by decide) (Below.refl _ _) rfl⟩)
      · have e1 := hI.v 9 115 (by decide) (hp ⟨9, .data⟩ (by simp) rfl)
        exact og_op rfl rfl (og_value (run_buildSliceU ((over_eval _ _ _ (by decide) (by show 115 < 176; omega)).trans e1)) ⟨_, over_put _ _ _ (by decide) _, hI.built WF hl⟩)
      · have e1 := hI.v 0 106 (by decide) (hp ⟨0, .data⟩ (by simp) rfl)
        have hB := hp ⟨10, .data⟩ (by simp) rfl
        have hZ := hp ⟨0, .data⟩ (by simp) rfl
        exact og_op rfl rfl (hI.append WF hl hB hZ (.tmp 106) (.tmp 116) rfl rfl (by decide) Tryz.underlying26 infoU rfl (by omega) ((over_eval _ _ _ (by decide) (by show 106 < 176; omega)).trans e1) (over_eval _ _ _ (by decide) (by show 116 < 176; omega)) rfl (by simp [Value.oneCell']) (by unfold maxLen; omega) (by omega))
      · have hA := hp ⟨11, .data⟩ (by simp) rfl
        exact og_op rfl rfl (og_value (run_assign (over_eval _ _ _ (by decide) (by show 117 < 176; omega))) ⟨_, over_put _ _ _ (by decide) _, hI.assigned WF hA⟩)
    · intro L f wz hl hI
      have hC := hI.r2 (hl 12 (by show 12 < 13; omega))
      have hrow := hI.r1 hC.1
      have HB : Hid (UIn w w.heap.size .u16 47 65535 l (k + 1) (f 7) wz) := Lib.hid (by
        refine ⟨HR4.out.bel.trans (hI.bel.mono (Nat.le_succ _)), ⟨_, (hI.bel.block _ (Nat.lt_succ_self _)).trans HP4.out⟩, ?_⟩
        rw [HN.out, show f 7 = f 117 from hC.2]
        exact hrow)
      clear hI hl hC hrow
      simp only [over, ovl, List.contains, List.elem, Nat.reduceBEq, Bool.false_eq_true, if_false, if_true, Nat.reduceAdd]
      generalize f 7 = v7 at *
      go_wp2_with fail
      go_roundw
      case rel => first | exact ⟨k + 1, by omega, by go_num, HB.out⟩ | ((repeat apply Exists.intro); exact ⟨⟨k + 1, by omega, by go_num, HB.out⟩, rfl⟩)
      case measure => simp [intOf]; omega
end Go.Proofs.YtioldikeiiibgaaGreatDoor
