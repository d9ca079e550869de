/- The law FnNamesVisited. -/
import Derived.Test.YtmmkebdaijmpiaaGreatVVisits
import Derived.Test.YtmmkebdaijmpiaaGreatNDefs
import Derived.Test.YtmmkebdaijmpiaaGreatOpenT
namespace Go.Proofs.YtmmkebdaijmpiaaGreat
open Go.RowKit Go.Sort
set_option linter.unusedVariables false
set_option linter.unusedSimpArgs false

theorem defsN_names (l : List DefD) : ∀ x ∈ defsN l, x.nm.size ≤ 1048576 := by
  intro x hx
  obtain ⟨y, _, rfl⟩ := List.mem_map.1 hx
  have := cutN_size y.nm
  show (cutN y.nm).size ≤ 1048576
  omega
theorem RefV.start {w0 w : World} {N : Nat} {fv : Value} {l : List DefD} (h : NSet w0 N fv false (.slice none 0 0) (l.map firstF) w) : RefV w0 N false l [] w := by
  refine ⟨fv, .slice none 0 0, l.map firstF, h, ?_, fun i hi => ?_, World.ownsRow_nil _ _ _ _⟩
  · rw [List.map_map]
    have : (fun x : NFlag => x.d) ∘ firstF = id := by funext x; rfl
    rw [this, List.map_id]
  · rw [List.getElem_map]; simp [firstF]
theorem RefV.setPl {w0 w : World} {N : Nat} {pl : Bool} {ls : List DefD} {acts : List Nat} (h : RefV w0 N pl ls acts w) (p : Bool) : RefV w0 N p ls acts (w.setCell ⟨N, 1, none⟩ (.bool p)) ∧ w.cell? ⟨N, 1, none⟩ = some (.bool pl) ∧ w.frozen? ⟨N, 1, none⟩ = false ∧ N < w.heap.size ∧ KeepR w (w.setCell ⟨N, 1, none⟩ (.bool p)) := by
  obtain ⟨fv, sv, l, hn, e, hc, hr⟩ := h.ex
  refine ⟨⟨fv, sv, l, ⟨hn.bel.setCell hn.lN _, by rw [heap_set hn.hN 1 _]; rfl, ownsRow_at hn.row fun g' e' => ?_, hn.lN⟩, e, hc, ownsRow_at hr fun g' e' => ?_⟩, cell_of hn.hN 1 _ rfl, frozen_of hn.hN 1, lt_of_block hn.hN, KeepR.set hn.hN (.inl rfl) 1 _⟩
  · obtain ⟨_, c, hc'⟩ := ownsRow_cells hn.row e'
    exact heap_ne _ _ _ _ (cells_ne hc' hn.hN (by decide))
  · obtain ⟨_, c, hc'⟩ := ownsRow_cells hr e'
    exact heap_ne _ _ _ _ (cells_ne hc' hn.hN (by decide))
theorem SLo.keepR {w0 w w' : World} {ov : Value} {out : List ByteArray} (h : SLo w0 ov out w) (hk : KeepR w w') (hb : RowKit.Below w0.heap.size w0 w') : SLo w0 ov out w' := by
  refine ⟨hb, ⟨h.row.1, ?_⟩⟩
  rcases h.row.2 with h0 | ⟨b, cap, cur, e, hb', hh, hr⟩
  · exact .inl h0
  · exact .inr ⟨b, cap, cur, e, hb', hk.cells _ _ _ hh (by decide) (by decide) (by decide), hr⟩
/-- A row of texts grows. -/
theorem RefV.grown {w0 w w1 : World} {N : Nat} {pl : Bool} {ls : List DefD} {acts : List Nat} {ov : Value} {out : List ByteArray} {o : Obj} (h : RefV w0 N pl ls acts w) (hs : SLo w0 ov out w) (hg : (w.alloc o).grownBy w1 ov.ownBlock) (hb : RowKit.Below w0.heap.size w0 w1) : RefV w0 N pl ls acts w1 := by
  have h1 := h.later ((Below.refl _ w).alloc (Nat.le_refl _) o)
  have hs1 := hs.later ((Below.refl _ w).alloc (Nat.le_refl _) o)
  refine h1.move hb fun b c t hb ht => (hg.block b (lt_of_block hb) (fun e => ?_)).trans hb
  obtain ⟨_, c', hc⟩ := ownsRow_cells hs1.row e.symm
  rw [hc] at hb
  cases hb
  rcases ht with q | q | q <;> exact absurd q (by decide)

set_option maxRecDepth 100000 in
set_option maxHeartbeats 3200000 in
theorem fnNamesVisited_law (v sv : Value) (so : Bool) (l : List DefD) (ss : List ByteArray) (w : World) (hv : Defs w v l) (hl : l.length ≤ maxLen) (hs : Strs w sv ss) (hsl : ss.length ≤ maxLen) (hcp : ∀ a n c, sv = .slice a n c → n ≤ c) :
    Calls Tryz.prog 3 #[v, sv, .bool so] w fun e w' => e = .returned (.bool true) ∧ RowKit.Below w.heap.size w w' := by
  obtain ⟨i0, hi0, hz0, hz1, hz2⟩ := info_parts infoStrT
  have C1 := Lib.hid (fits15_any v l w hv hl)
  have C1b := Lib.hid (fun W (hb : RowKit.Below w.heap.size w W) => fits2_any sv ss W (hs.below hb) (by unfold maxLen at hsl; omega))
  have HV := Lib.hid hv
  have HS := Lib.hid (fun W (hb : RowKit.Below w.heap.size w W) => hs.below hb)
  obtain ⟨a, cap, rfl, hcap⟩ := hv.len
  obtain ⟨a2, cap2, rfl⟩ := hs.len
  have hcp2 : ss.length ≤ cap2 := hcp _ _ _ rfl
  clear hv hcap hs hcp
  go_enter Tryz.func3, Tryz.ntmps3
  go_wp2_with fail
  refine C1.out.mono ?_
  rintro e w1 ⟨b, rfl, hb1, hsz⟩
  have HB1 := Lib.hid hb1
  cases b with
  | false =>
    go_wp2_with fail
    go_ret
    exact ⟨rfl, HB1.out⟩
  | true =>
    have hsz := hsz rfl
    have HSZ := Lib.hid hsz
    have C1c := Lib.hid (C1b.out w1 hb1)
    clear hb1 hsz C1 C1b
    go_wp2_with fail
    refine C1c.out.mono ?_
    rintro e w1' ⟨⟨b2, rfl, hsm⟩, rfl⟩
    cases b2 with
    | false =>
      go_wp2_with fail
      go_ret
      exact ⟨rfl, HB1.out⟩
    | true =>
      have hsm := hsm rfl
      have HSM := Lib.hid hsm.2
      have hs3 := hsm.1
      have C2 := Lib.hid (nameDefs_any _ l w1' (HV.out.later HB1.out) HSZ.out.1 HSZ.out.2)
      clear hsm C1c
      go_wp2_with fail
      refine C2.out.mono ?_
      rintro e w2 ⟨rv, rfl, hd2, hb2⟩
      have HB2 : Hid (RowKit.Below w.heap.size w w2) := Lib.hid (HB1.out.trans (hb2.mono HB1.out.size))
      have HD2 := Lib.hid hd2
      obtain ⟨a3, cap3, rfl, -⟩ := hd2.len
      have HS2 : Hid ((defsN l).length ≤ 16 ∧ ∀ x ∈ defsN l, (x.k = 0 ∨ x.k = 1) ∧ x.sh.size ≤ 60) := Lib.hid ⟨defsN_length l, defsN_small l⟩
      have HNM := Lib.hid (defsN_names l)
      clear hd2 hb2 C2
      generalize defsN l = l2 at *
      have C3 := Lib.hid (nameNew_any _ l2 w2 HD2.out HS2.out.1 HS2.out.2)
      go_wp2_with fail
      refine C3.out.mono ?_
      rintro e w3 ⟨n, N, fv, rfl, hst, hns⟩
      have HB3 : Hid (RowKit.Below w.heap.size w w3) := Lib.hid (HB2.out.trans (hns.bel.mono HB2.out.size))
      by_cases hn : n = l2.length
      case neg =>
        rw [decide_eq_false hn]
        clear hns hst C3
        go_wp2_with fail
        go_ret
        exact ⟨rfl, HB3.out⟩
      have hall : AllOk l2 := by
        have := hst.2.1
        rw [hn, List.take_length] at this
        exact this
      rw [decide_eq_true hn]
      have HR3 : Hid (RefV w2 N false l2 [] w3) := Lib.hid (RefV.start (by
        have := hns
        rw [hn, List.take_length] at this
        exact this))
      have HALL := Lib.hid hall
      clear hns hst C3 hn hall
      obtain ⟨m, hm⟩ : ∃ m, m = min ss.length 30 := ⟨_, rfl⟩
      have hmin : ((min (ss.length : Int) 30 : Int)) = (m : Int) := by omega
      go_upto_region 8 with fail
      go_cut [35, 36, 37] from 31 to 37 (fun v35 v36 v37 wx => v35 = .slice a2 m cap2 ∧ v36 = .int .i64 m ∧ v37 = .int .i64 0 ∧ wx = w3)
      case first =>
        have q30 : min ss.length 30 ≤ cap2 := by omega
        go_wp2_with fail
        go_meet
        exact ⟨by rw [hm], by rw [hm], rfl, rfl⟩
      case rest =>
      obtain ⟨rfl, rfl, rfl, hwc⟩ := hcut
      subst hwc
      have hm30 : m ≤ 30 := by omega
      have hms : m ≤ ss.length := by omega
      have HMS := Lib.hid hms
      clear hmin hm
      obtain ⟨nsOf, hns⟩ : ∃ f : Nat → List ByteArray, f = fun k => (ss.take k).map cutN := ⟨_, rfl⟩
      have H0 := Lib.hid (show SLo w2 (.slice none 0 0) (nsOf 0) wc ∧ RefV w2 N false l2 (actsD l2 (nsOf 0)) wc by
        rw [hns]
        exact ⟨⟨HR3.out.bel, World.ownsRow_nil _ _ _ _⟩, HR3.out⟩)
      have HLN : Hid (∀ k, (nsOf k).length ≤ k) := Lib.hid (fun k => by rw [hns]; simp; omega)
      have HNX : Hid (∀ k (hk : k < ss.length), nsOf (k + 1) = nsOf k ++ [cutN ss[k]]) := Lib.hid (fun k hk => by
        rw [hns]; simp only [List.take_succ_eq_append_getElem hk, List.map_append, List.map_cons, List.map_nil])
      clear hns
      go_wp2_with fail
      go_loopw [9, 37] (fun v9 vi wr => ∃ k : Nat, k ≤ m ∧ vi = .int .i64 k ∧ SLo w2 v9 (nsOf k) wr ∧ RefV w2 N false l2 (actsD l2 (nsOf k)) wr) (fun _ vi _ => m - (intOf vi).toNat)
      case atStart => exact ⟨0, Nat.zero_le _, rfl, H0.out.1, H0.out.2⟩
      case round =>
        obtain ⟨k, hk, rfl, hsl, href⟩ := hrel
        obtain ⟨out, hout⟩ : ∃ out, out = nsOf k := ⟨_, rfl⟩
        rw [← hout] at hsl href
        have hole : out.length ≤ 30 := by rw [hout]; have := HLN.out k; omega
        have HOUT := Lib.hid hout
        have HSL := Lib.hid hsl
        have HRF := Lib.hid href
        have hacts : (actsD l2 out).length ≤ 30 := by have := actsD_length l2 out; omega
        obtain ⟨oa, oc, rfl⟩ := row_form hsl.row
        clear hout hsl href
        by_cases hlt : k < m
        case neg =>
          obtain ⟨r6, c1, z1, l1, k6⟩ := HRF.out.setPl (!so)
          have HR6 := Lib.hid r6
          have HS6 := Lib.hid (HSL.out.keepR k6 r6.bel)
          have HVL : Hid ((visitedD so l2 (actsD l2 out)).length ≤ 1048576) := Lib.hid (by
            rw [visitedD_eq]
            split
            · rw [srt_length]; simp [nmOf]; omega
            · simp [nmOf]; omega)
          have CV := Lib.hid (implVisit_any (wr.setCell ⟨N, 1, none⟩ (.bool (!so))) l2 out so _ _ (HD2.out.later r6.bel) (strs_own HS6.out.row rfl) HALL.out HS2.out.1 HS2.out.2 (by omega))
          clear r6 k6
          go_wp2_with fail
          refine CV.out.mono ?_
          rintro e w7 ⟨rv7, rfl, hb7, hs7⟩
          have HB7 := Lib.hid hb7
          obtain ⟨a7, c7, rfl⟩ := hs7.len
          have HS7 := Lib.hid hs7
          have HR7 := Lib.hid (HR6.out.later hb7)
          obtain ⟨fv', sv', l', hn', el', hc', hr'⟩ := HR7.out.ex
          obtain ⟨sa, sc, rfl⟩ := row_form hr'
          have c3 := cell_of hn'.hN 3 (.slice sa (actsD l2 out).length sc) rfl
          have CW := visits_any hn' el' hr' (actsD_lt l2 out) (by omega) (by have := HS2.out.1; omega) HNM.out
          rw [Bool.not_not] at CW
          have CW := Lib.hid CW
          have HBW : Hid (RowKit.Below w.heap.size w w7) := Lib.hid (HB2.out.trans (HR7.out.bel.mono HB2.out.size))
          generalize visitedD so l2 (actsD l2 out) = V at *
          clear hs7 hn' el' hc' hr' hb7 CV HR6 HS6 HR7 c1 z1 l1
          go_wp2_with fail
          refine CW.out.mono ?_
          rintro e w8 ⟨rv8, rfl, hb8, hs8⟩
          obtain ⟨a8, c8, rfl⟩ := hs8.len
          have CN := Lib.hid (nameSame_any _ _ V w8 (HS7.out.below hb8) hs8 HVL.out)
          have HB8 : Hid (RowKit.Below w.heap.size w w8) := Lib.hid (HBW.out.trans (hb8.mono HBW.out.size))
          clear hs8 hb8 CW
          go_wp2_with fail
          refine CN.out.mono ?_
          rintro e w9 ⟨rfl, hd9⟩
          have HB9 : Hid (RowKit.Below w.heap.size w w9) := Lib.hid (HB8.out.trans (hd9.below.mono HB8.out.size))
          clear hd9 CN
          go_wp2_with fail
          go_ret
          exact ⟨rfl, HB9.out⟩
        have hkS : k < ss.length := by omega
        have hbw : RowKit.Below w.heap.size w wr := HB2.out.trans (HRF.out.bel.mono HB2.out.size)
        obtain ⟨b, off, rfl, hc⟩ := (HS.out wr hbw).cell (by omega)
        have c1 := hc k hkS
        have hxz := HSM.out _ (List.getElem_mem hkS)
        have HN1 : Hid (nsOf (k + 1) = out ++ [cutN ss[k]]) := Lib.hid (by rw [HOUT.out]; exact HNX.out k hkS)
        clear hc hbw
        generalize ss[k] = x at *
        have CC := Lib.hid (fun W => nameCut_any x W hxz)
        generalize cutN x = t at *
        have hrow := HSL.out.row
        have hs0 := HSL.out.bel.size
        go_wp2_with fail
        refine (CC.out _).mono ?_
        rintro e w4 ⟨rfl, rfl⟩
        go_wp2_with (
          at_builtin
          refine wpList_append_lies _ (by rfl) _ _ _ (by rfl) w2.heap.size 9 i0 _ 1 16 Tryz.underlying23 hi0 hz0 hz1 hz2 rfl (by omega) (.slice oa out.length oc) out.length (out.map Value.string) (by rfl) (hrow.alloc _)
            ⟨w4.heap.size, 0, none⟩ 1 1 [.string t] (by rfl) (by rfl) (World.news_of_block (cs := #[.string t]) (t := 9) (fr := (0, 0)) (heap_alloc_new w4 _)) (by simp [Value.oneCell'])
            (by omega) (by unfold maxLen; omega) (by omega) (by simp only [World.size_alloc]; exact Nat.le_succ_of_le hs0) (w4.heap.size + 1) (by simp only [World.size_alloc]) ?_
          intro gg cap5 w5 hown1 hgrow hat hlt5)
        have HSL5 := Lib.hid (HSL.out.grow hgrow t hown1)
        have HRF5 := Lib.hid (HRF.out.grown HSL.out hgrow HSL5.out.bel)
        have CD := Lib.hid (do_any HRF5.out t (by have := HS2.out.1; omega) (by omega))
        clear hown1 hgrow hat hlt5 hrow hs0 c1
        refine (CC.out _).mono ?_
        rintro e w5' ⟨rfl, rfl⟩
        go_wp2_with fail
        refine CD.out.mono ?_
        rintro e w6 ⟨⟨v6, rfl⟩, hr6, hk6⟩
        have HR6 := Lib.hid hr6
        have HS6 := Lib.hid (HSL5.out.keepR hk6 hr6.bel)
        clear hr6 hk6 CD
        go_wp2_with fail
        go_roundw
        case rel => exact ⟨k + 1, by omega, by go_num, by rw [HN1.out]; exact HS6.out, by rw [HN1.out, actsD_snoc]; exact HR6.out⟩
        case measure => simp [intOf]; omega
end Go.Proofs.YtmmkebdaijmpiaaGreat
