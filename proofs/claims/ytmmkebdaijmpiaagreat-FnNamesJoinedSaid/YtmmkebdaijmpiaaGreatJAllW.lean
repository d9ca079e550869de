/- few's VisitAll and AddFlagSet, walked. -/
import Derived.Test.YtmmkebdaijmpiaaGreatJAll
import Derived.BigQuiet
namespace Go.Proofs.YtmmkebdaijmpiaaGreat
open Go.RowKit
set_option linter.unusedVariables false
set_option linter.unusedSimpArgs false

set_option maxRecDepth 100000 in
set_option maxHeartbeats 3200000 in
theorem visitAll_any {w0 wx w : World} {F F2 B : Nat} {es es2 : List (DefD × Nat)} (h : ManyE w0 F es w) (f1 : FlagsIn w0 es w) (h2 : ManyE wx F2 es2 w) (f2 : FlagsIn wx es2 w) (hok : AllOk (es.map (·.1))) (hj : JoinOk (es.map (·.1)) ((sortE es2).map (·.1)))
    (hB : w.heap[B]? = some (.cells #[ptr F] 65 (0, 0))) (hw : w0.heap.size ≤ wx.heap.size) (hF : F < wx.heap.size) (hes : es.length ≤ 1000) (hes2 : es2.length ≤ 1000) (hsz : ∀ e ∈ es2, e.1.sh.size ≤ 60) :
    Calls Tryz.prog 56 #[ptr F2, .func (.func 70) #[] #[ptr B]] w fun e w' => e = .returned (.tuple #[]) ∧ ∃ es', es'.map (·.1) = joinD (es.map (·.1)) ((sortE es2).map (·.1)) ∧ ManyE w0 F es' w' ∧ FlagsIn w0 es' w' ∧ KeepT w w' := by
  obtain ⟨fm, sm, ofv, m2⟩ := h2
  have hlen : ∀ ty, (Builtin.len_ #[69] ty #[.map fm]).run Tryz.prog w = .ok (.int .i64 es2.length) w := fun ty => by
    rcases m2.hfm with ⟨rfl, e⟩ | ⟨b, rfl, hm⟩
    · have : es2 = [] := by simpa [flE] using e
      subst this
      simp [Builtin.len_, run_underlying (show Tryz.prog.underlying 69 = some (.map 99 80) by kernel_rfl), Result.andThen, goInt]
    · have := run_len_map (P := Tryz.prog) (T := 69) (kt := 99) (et := 80) hm (by kernel_rfl) ty
      rw [this]
      simp [flE]
  have c0 := m2.cF 0 (.bool true) rfl
  have c8 := m2.cF 8 (.map fm) rfl
  have c10 := m2.cF 10 (.slice none 0 0) rfl
  have z10 := m2.zF 10
  have lF := lt_of_block m2.hF
  have HM2 := Lib.hid m2
  have HH := Lib.hid h
  have HF1 := Lib.hid f1
  have HF2 := Lib.hid f2
  have HBX := Lib.hid hB
  have HJ := Lib.hid hj
  have HSZ := Lib.hid hsz
  clear h f1 m2 f2 hB hj hsz
  unfold ptr
  go_enter Tryz.func56, Tryz.ntmps56
  by_cases hz : es2.length = 0
  · have HE : Hid (es2 = []) := Lib.hid (List.eq_nil_of_length_eq_zero hz)
    rw [hz] at hlen
    go_wp2_with fail
    (try simp only [Exit.inBlock, Exit.then])
    refine bodyPost_ret (results_none rfl _ _ _) rfl ?_
    refine ⟨rfl, es, ?_, HH.out, HF1.out, KeepT.refl _⟩
    rw [HE.out, show sortE ([] : List (DefD × Nat)) = [] from List.eq_nil_of_length_eq_zero (sortE_length [])]
    rfl
  obtain ⟨b, rfl, hm⟩ : ∃ b, fm = some b ∧ MapIs strKey w b (flE es2) := by
    rcases HM2.out.hfm with ⟨_, e⟩ | hx
    · have : es2 = [] := by simpa [flE] using e
      rw [this] at hz
      exact absurd rfl hz
    · exact hx
  have ml : (flE es2).length = es2.length := by simp [flE]
  have hvp : ∀ x ∈ flE es2, ∃ p, x.2 = .pointer (some ⟨p, 0, none⟩) := fun x hx => by
    obtain ⟨j, hj, rfl⟩ := List.mem_map.1 hx
    exact ⟨_, rfl⟩
  have CS := Lib.hid (fun q => by
    have := sortFlags_any (MapIs.at (w' := w.drewN q) hm rfl) (by omega) hvp
    rw [sortE_vals, ml] at this
    exact this)
  have hlq : ∀ ty q, (Builtin.len_ #[69] ty #[.map (some b)]).run Tryz.prog (w.drewN q) = .ok (.int .i64 es2.length) (w.drewN q) := fun ty q => by
    have := run_len_map (P := Tryz.prog) (T := 69) (kt := 99) (et := 80) (MapIs.at (w' := w.drewN q) hm rfl) (by kernel_rfl) ty
    rw [this, ml]
  have HSL := Lib.hid (sortE_length es2)
  have HSM := Lib.hid (fun e (he : e ∈ sortE es2) => sortE_mem e he)
  have HFN : Hid (F ≠ F2) := Lib.hid (by have := HM2.out.lF; omega)
  generalize hX : sortE es2 = xs at *
  generalize hNL : es2.length = NL at *
  have q0 : ((NL : Int) == 0) = false := by simp; omega
  clear hvp ml hX
  go_upto_if 16 with fail
  go_cut [4] from 17 to 43 (fun v4 wx' => ∃ g, v4 = .slice (some ⟨g, 0, none⟩) NL NL ∧ g < wx'.heap.size ∧ (∃ c, wx'.heap[g]? = some (.cells c 80 (0, 0)) ∧ c.toList.take NL = xs.map fun e => ptr e.2) ∧ ManyR w0 F es g wx' ∧ KeepT w wx')
  case first =>
    go_wp2_with fail
    go_quiet (fail)
    go_wp2_with fail
    refine (CS.out nq).mono ?_
    rintro e w2 ⟨g2, rfl, hb2, hg2, hrow2⟩
    have hbw : Below w.heap.size w w2 := (Below.drewN' (n := nq) (Below.refl _ w)).trans hb2
    have hF2 := (hbw.block _ lF).trans HM2.out.hF
    have d10 := cell_of hF2 10 (.slice none 0 0) rfl
    have y10 := frozen_of hF2 10
    have l10 := lt_of_block hF2
    have d10' : (w2.setCell ⟨F2, 10, none⟩ (.slice (some ⟨g2, 0, none⟩) NL NL)).cell? ⟨F2, 10, none⟩ = some (.slice (some ⟨g2, 0, none⟩) NL NL) := cell_of (heap_set hF2 10 _) 10 _ rfl
    obtain ⟨cur, hcur, hct⟩ : ∃ c, w2.heap[g2]? = some (.cells c 80 (0, 0)) ∧ c.toList.take NL = xs.map fun e => ptr e.2 := by
      rcases hrow2.2 with ⟨e, _⟩ | ⟨b', cap, cur, e, h1, h2, h3, h4, h5, h6⟩
      · cases e
      · cases e
        exact ⟨cur, h2, by rw [← h6, Nat.mul_one]⟩
    have HK : Hid (KeepT w (w2.setCell ⟨F2, 10, none⟩ (.slice (some ⟨g2, 0, none⟩) NL NL))) := Lib.hid ((KeepT.below hbw).trans (KeepT.set hF2 _))
    have HR : Hid ((w2.setCell ⟨F2, 10, none⟩ (.slice (some ⟨g2, 0, none⟩) NL NL)).heap[g2]? = some (.cells cur 80 (0, 0))) := Lib.hid (heap_ne' (cells_ne hcur hF2 (by decide)) hcur)
    have HT := Lib.hid hct
    have HMR : Hid (ManyR w0 F es g2 (w2.setCell ⟨F2, 10, none⟩ (.slice (some ⟨g2, 0, none⟩) NL NL))) := Lib.hid (by
      obtain ⟨fm1, sm1, ofv1, m1⟩ := HH.out
      have hne : ofv1.ownBlock ≠ some g2 := fun e => by
        obtain ⟨_, c, hc⟩ := ownsRow_cells m1.rOf e
        have h1 := lt_of_block hc
        have h2 : w.heap.size ≤ g2 := hg2
        omega
      have m1' := m1.later hbw
      have kx : ∀ b', b' ≠ F2 → (w2.setCell ⟨F2, 10, none⟩ (.slice (some ⟨g2, 0, none⟩) NL NL)).heap[b']? = w2.heap[b']? := fun b' hb => heap_ne _ _ _ _ hb
      refine ⟨fm1, sm1, ofv1, m1'.move (m1'.bel.setCell (by have := HM2.out.lF; show w0.heap.size ≤ F2; omega) _) (kx F HFN.out) (fun b' e => kx b' (m1'.hfm.ne hF2 b' e)) (fun b' e => kx b' (m1'.hsm.ne hF2 b' e)) (fun g e => ?_) (fun b' c hb => kx b' (cells_ne hb hF2 (by decide))), hne⟩
      obtain ⟨_, c', hc⟩ := ownsRow_cells m1'.rOf e
      exact kx g (cells_ne hc hF2 (by decide)))
    clear hb2 hrow2 hbw hF2 hcur hct CS hlen hlq c0 c8 c10 z10 lF
    go_wp2_with fail
    go_meet
    exact ⟨g2, rfl, lt_of_block HR.out, ⟨cur, HR.out, HT.out⟩, HMR.out, HK.out⟩
  case rest =>
  obtain ⟨g, rfl, lg, ⟨cur, hrow, htk⟩, hmr, hkt⟩ := hcut
  have HTK := Lib.hid htk
  have H0 := Lib.hid (And.intro hrow (And.intro hmr hkt))
  clear hrow htk hmr hkt CS hlen hlq c0 c8 c10 z10 lF hm
  go_wp2_with fail
  go_loopw [46] (fun vi wr => ∃ k : Nat, k ≤ NL ∧ vi = .int .i64 k ∧ wr.heap[g]? = some (.cells cur 80 (0, 0)) ∧ ManyR w0 F (joinE es (xs.take k)) g wr ∧ FlagsIn w0 (joinE es (xs.take k)) wr ∧ KeepT w wr) (fun vi _ => NL - (intOf vi).toNat)
  case atStart => exact ⟨0, Nat.zero_le _, rfl, H0.out.1, H0.out.2.1, HF1.out.keep H0.out.2.2, H0.out.2.2⟩
  case round =>
    obtain ⟨k, hk, rfl, hrw, hmr, hfl, hkt⟩ := hrel
    have HRW := Lib.hid hrw
    have HMR := Lib.hid hmr
    have HFL := Lib.hid hfl
    have HKT := Lib.hid hkt
    clear hfl hmr hkt
    by_cases hlt : k < NL
    case neg =>
      have HE : Hid (xs.take k = xs) := Lib.hid (List.take_of_length_le (by have := HSL.out; omega))
      clear hrw
      go_wp2_with fail
      (first | go_end0 | ((try simp only [Exit.inBlock, Exit.then]); refine bodyPost_ret (results_none rfl _ _ _) rfl ?_))
      refine ⟨rfl, joinE es xs, joinE_map es xs, ?_, ?_, HKT.out⟩
      · have := HMR.out.toE; rw [HE.out] at this; exact this
      · have := HFL.out; rw [HE.out] at this; exact this
    have hkx : k < xs.length := by have := HSL.out; omega
    have hmem := HSM.out _ (List.getElem_mem hkx)
    have cg : wr.cell? ⟨g, k, none⟩ = some (.pointer (some ⟨xs[k].2, 0, none⟩)) := by
      refine cell_of hrw k _ ?_
      have := congrArg (fun l => l[k]?) HTK.out
      simp only [List.getElem?_take, if_pos hlt, List.getElem?_map, List.getElem?_eq_getElem hkx, Option.map_some] at this
      rw [← Array.getElem?_toList, this]
      rfl
    have HT := Lib.hid (show xs.take (k + 1) = xs.take k ++ [xs[k]] from List.take_succ_eq_append_getElem hkx)
    have hfx := ((HF2.out _ hmem).keep HKT.out)
    have hgb : w0.heap.size ≤ xs[k].2 := by
      obtain ⟨fb, cs, e1, e2, e3, e4⟩ := HM2.out.hfl (xs[k].1.nm, ptr xs[k].2) (List.mem_map.2 ⟨_, hmem, rfl⟩)
      have : fb = xs[k].2 := by
        simp only [ptr, Value.pointer.injEq, Option.some.injEq, Addr.mk.injEq] at e1
        exact e1.1.symm
      omega
    have hjk := HJ.out k (by rw [List.length_map]; exact hkx)
    rw [List.getElem_map, ← List.map_take, ← joinE_map, ← placeE_eq] at hjk
    have hall := joinOk_all hok HJ.out k (by rw [List.length_map]; omega)
    rw [← List.map_take, ← joinE_map] at hall
    have hjl : (joinE es (xs.take k)).length ≤ 1048576 := by
      have h1 := joinD_length (es.map (·.1)) ((xs.take k).map (·.1))
      rw [← joinE_map, List.length_map, List.length_map, List.length_map, List.length_take] at h1
      omega
    have hBk := HKT.out.cells _ _ _ _ HBX.out (by decide) (by decide)
    have CA := Lib.hid (addF1_any HMR.out hall hBk (hfx.base hw) hgb hjl (HSZ.out _ hmem) (lt_of_block hrw) hjk)
    have HFX := Lib.hid hfx
    clear hjk hall hBk hrw hfx hmem
    unfold ptr at CA
    generalize hxk : xs[k] = x at *
    obtain ⟨x, G⟩ := x
    simp only at cg CA HFX hgb
    go_wp2_with fail
    refine CA.out.mono ?_
    rintro e w3 ⟨rfl, hm3, hk3, hr3⟩
    have HN : Hid (joinE es (xs.take (k + 1)) = offer (joinE es (xs.take k)) x G) := Lib.hid (by rw [HT.out, joinE_snoc])
    have HM3 := Lib.hid hm3
    have HR3 := Lib.hid (hr3 _ _ HRW.out)
    have HK3 := Lib.hid (HKT.out.trans hk3)
    have HF3 : Hid (FlagsIn w0 (offer (joinE es (xs.take k)) x G) w3) := Lib.hid (fun e he => by
      rcases mem_offer he with he | rfl
      · exact (HFL.out e he).keep hk3
      · exact (HFX.out.keep hk3).base hw)
    clear hm3 hk3 hr3 CA
    go_wp2_with fail
    go_roundw
    case rel => exact ⟨k + 1, by omega, by go_num, HR3.out, by rw [HN.out]; exact HM3.out, by rw [HN.out]; exact HF3.out, HK3.out⟩
    case measure => simp [intOf]; omega
end Go.Proofs.YtmmkebdaijmpiaaGreat
