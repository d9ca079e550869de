/- AddFlag (package few), walked. -/
import Derived.Test.YtmmkebdaijmpiaaGreatNAdd
namespace Go.Proofs.YtmmkebdaijmpiaaGreat
open Go.RowKit
set_option linter.unusedVariables false
set_option linter.unusedSimpArgs false

theorem firstB_none {s : ByteArray} (h : s.size = 0) : firstB s = none := by rw [firstB, dif_neg (by omega)]
theorem firstB_some {s : ByteArray} (h : 0 < s.size) : firstB s = some s[0] := by rw [firstB, dif_pos h]
theorem emptyB (s : ByteArray) : (s.toList == ([] : List UInt8)) = decide (s.size = 0) := by
  rw [show ([] : List UInt8) = (⟨#[]⟩ : ByteArray).toList from by rw [ByteArray.toList_eq], toList_beq]
  by_cases h : s.size = 0
  · rw [decide_eq_true h, decide_eq_true_iff]
    exact ByteArray.ext (Array.size_eq_zero_iff.1 h)
  · rw [decide_eq_false h, decide_eq_false_iff_not]
    rintro rfl
    exact h rfl

theorem isEmptyB (s : ByteArray) : s.toList.isEmpty = decide (s.size = 0) := by
  rw [← emptyB]
  cases s.toList <;> rfl
theorem grown_cells {w w' : World} {B n : Nat} {v : Value} {xs : List Value} (hg : w.grownBy w' v.ownBlock) (hr : w.ownsRow B 80 1 v n xs) {b : Nat} {c : Array Value} {t : TypeId} {z : Nat × Nat} (hb : w.heap[b]? = some (Obj.cells c t z)) (ht : t ≠ 80) : w'.heap[b]? = some (Obj.cells c t z) :=
  (hg.block b (lt_of_block hb) (fun e => by
    obtain ⟨_, c', hc⟩ := ownsRow_cells hr e.symm
    rw [hc] at hb
    cases hb
    exact ht rfl)).trans hb

set_option maxRecDepth 100000 in
set_option maxHeartbeats 6400000 in
theorem addN_any {w0 w : World} {F : Nat} {fm : Option Nat} {fl : List (ByteArray × Value)} {sm : Option Nat} {sl : List (UInt8 × Value)} {ofv : Value} {ol : List Value} (h : Many w0 F fm fl sm sl ofv ol w) {G : Nat} {cs : Array Value} {nm sh : ByteArray} (hG : w.heap[G]? = some (.cells cs 85 (0, 0)))
    (h0 : cs[0]? = some (.string nm)) (h1 : cs[1]? = some (.string sh)) (lG : w0.heap.size ≤ G) (ho : ol.length ≤ 1099511627776) (hsz : sh.size ≤ 4294967295) :
    Calls Tryz.prog 71 #[ptr F, ptr G] w (AddEnd w0 w F G nm sh cs fl sl ofv ol) := by
  obtain ⟨i0, hi0, hz0, hz1, hz2⟩ := info_parts infoFP
  have hn1 : ∀ (m : Option Nat) w, Sem.run Tryz.prog (binOp BinOp.eql 69 (Value.map m) (Value.map none)) w = .ok (.bool m.isNone) w := fun m _ => by cases m <;> kernel_rfl
  have hm1 : ∀ (m : Option Nat) w, Sem.run Tryz.prog (binOp BinOp.eql 71 (Value.map m) (Value.map none)) w = .ok (.bool m.isNone) w := fun m _ => by cases m <;> kernel_rfl
  have hmm := @run_makeMap Tryz.prog
  have c0 := cell_of hG 0 (.string nm) h0
  have CN := Lib.hid (norm_any F w (h.cF 16 .nilFunc rfl) nm)
  have HK := Lib.hid (show ∀ W, Below w.heap.size w W → Many w0 F fm fl sm sl ofv ol W ∧ W.heap[G]? = some (.cells cs 85 (0, 0)) from fun W hb => ⟨h.later hb, (hb.block _ (lt_of_block hG)).trans hG⟩)
  have hFG : G ≠ F := cells_ne hG h.hF (by decide)
  have HCS := Lib.hid (show cs.setIfInBounds 0 (.string nm) = cs by
    apply Array.ext_getElem?
    intro i
    rw [Array.getElem?_setIfInBounds]
    split
    · rename_i e; subst e
      split
      · rw [h0]
      · rename_i e; rw [Array.getElem?_eq_none (by omega)] at h0; cases h0
    · rfl)
  have HC0 := Lib.hid h0
  have HC1 := Lib.hid h1
  clear h hG h0 h1
  unfold ptr at *
  go_enter Tryz.func71, Tryz.ntmps71
  go_wp2_with fail
  refine CN.out.mono ?_
  rintro e w1 ⟨rfl, hb1⟩
  obtain ⟨m1, g1⟩ := HK.out w1 hb1
  have HK1 : Hid (KeepG G w w1) := Lib.hid ((KeepT.below hb1).toG G)
  have HO1 : Hid (KeepO ofv.ownBlock w w1) := Lib.hid (KeepO.below hb1)
  clear c0 CN HK hb1
  have d8 := m1.cF 8 (.map fm) rfl
  have z8 := m1.zF 8
  have lF1 := lt_of_block m1.hF
  have lG1 := lt_of_block g1
  have hl := m1.hfm.look nm
  cases hfd : mapFind nm fl 0 with
  | some iv =>
    rw [hfd] at hl
    simp only [lookedUp] at hl
    have HE : Hid (¬ addOk nm sh fl sl) := Lib.hid fun hh => by rw [hh.1] at hfd; cases hfd
    have HM := Lib.hid m1.bel
    clear hfd m1 g1
    go_wp2_with fail
    exact ⟨rfl, HO1.out, fun hh => absurd hh HE.out, HK1.out, HM.out, fun hh => absurd hh HE.out, fun _ => ⟨_, _, rfl⟩⟩
  | none =>
    rw [hfd] at hl
    simp only [lookedUp] at hl
    have HFD := Lib.hid hfd
    have HM := Lib.hid m1
    have HG1 := Lib.hid g1
    clear hfd m1 g1
    go_upto_if 29 with fail
    go_cut [] from 29 to 33 (fun wx => ∃ am, Many w0 F (some am) fl sm sl ofv ol wx ∧ wx.heap[G]? = some (.cells cs 85 (0, 0)) ∧ KeepG G w1 wx ∧ KeepO ofv.ownBlock w1 wx)
    case first =>
      cases fm with
      | none =>
        go_wp2_with fail
        go_meet
        refine ⟨w1.heap.size, ?_, ?_, ?_, ?_⟩
        · rw [← World.setCell_alloc_past _ _ _ _ lF1]
          rcases HM.out.hfm with ⟨_, e⟩ | ⟨b, e, _⟩
          · subst e
            exact HM.out.mkForm
          · cases e
        · exact heap_past' (by simpa [size_setCell] using lG1) (heap_ne' hFG HG1.out)
        · exact ((KeepT.set HM.out.hF _).trans (KeepT.below ((Below.refl _ _).alloc (Nat.le_refl _) _))).toG G
        · exact (KeepO.set HM.out.hF (by decide) _).trans (KeepO.below ((Below.refl _ _).alloc (Nat.le_refl _) _))
      | some am =>
        go_wp2_with fail
        go_meet
        exact ⟨am, HM.out, HG1.out, KeepG.refl _ _, KeepO.refl _ _⟩
    case rest =>
    obtain ⟨am, m2, g2, k2, o2⟩ := hcut
    have HO2 : Hid (KeepO ofv.ownBlock w wc) := Lib.hid (HO1.out.trans o2)
    have HK2 : Hid (KeepG G w wc) := Lib.hid (HK1.out.trans k2)
    clear hl d8 z8 lF1 lG1 HM HG1 HK1 k2 hn1 HO1 o2
    have e8 := m2.cF 8 (.map (some am)) rfl
    have e0 := frozen_of g2 0
    have e2 := cell_of g2 0 (.string nm) HC0.out
    have e1 := lt_of_block g2
    have m3 := m2.setG g2 lG (j := 0) (.string nm) (by rw [HCS.out])
    have g3 : (wc.setCell ⟨G, 0, none⟩ (.string nm)).heap[G]? = some (.cells cs 85 (0, 0)) := by rw [heap_set g2 0 _, HCS.out]
    have k3 : KeepG G wc (wc.setCell ⟨G, 0, none⟩ (.string nm)) := KeepG.setG G _ 0 _
    have HO3 : Hid (KeepO ofv.ownBlock w (wc.setCell ⟨G, 0, none⟩ (.string nm))) := Lib.hid (HO2.out.trans (KeepO.set g2 (by decide) _))
    obtain ⟨w4, hmu, m4, k4, g4, o4⟩ := m3.putF rfl nm g3 HC0.out lG HFD.out
    have HO4 : Hid (KeepO ofv.ownBlock w w4) := Lib.hid (HO3.out.trans (o4 _))
    have HK4 : Hid (KeepG G w w4) := Lib.hid ((HK2.out.trans k3).trans (k4.toG G))
    rw [g3] at g4
    have HM4 := Lib.hid m4
    have HG4 := Lib.hid g4
    have rOf := m4.rOf
    have d9 := m4.cF 9 ofv rfl
    have z9 := m4.zF 9
    have l4 := lt_of_block m4.hF
    have lG4 := lt_of_block g4
    clear m2 g2 m3 g3 k3 m4 k4 g4 HK2 HO2 HO3 o4
    unfold ptr at hmu
    go_upto_if 58 with (
      at_builtin
      refine wpList_append_lies _ (by rfl) _ _ _ (by rfl) w0.heap.size 80 i0 _ 1 8 Tryz.underlying70 hi0 hz0 hz1 hz2 rfl (by omega) ofv ol.length ol (by rfl) (rOf.alloc _)
        ⟨w4.heap.size, 0, none⟩ 1 1 [.pointer (some ⟨G, 0, none⟩)] (by rfl) (by rfl) (World.news_of_block (cs := #[.pointer (some ⟨G, 0, none⟩)]) (t := 80) (fr := (0, 0)) (heap_alloc_new w4 _)) (by simp [Value.oneCell'])
        (by omega) (by unfold maxLen; omega) (by omega) (by have := HM4.out.bel.size; simp only [World.size_alloc]; exact Nat.le_succ_of_le this) (w4.heap.size + 1) (by simp only [World.size_alloc]) ?_
      intro gg cap w5 hown1 hgrow hat hlt5
      obtain ⟨f1, m5⟩ := (HM4.out.later ((Below.refl _ w4).alloc (Nat.le_refl _) _)).append (ol' := ol ++ [.pointer (some ⟨G, 0, none⟩)]) hgrow (by simpa using hown1)
      have g5 := grown_cells hgrow (rOf.alloc _) (heap_past' lG4 HG4.out) (by decide)
      have HK5 : Hid (KeepT w4 w5) := Lib.hid ((KeepT.below ((Below.refl _ w4).alloc (Nat.le_refl _) _)).trans (KeepT.grown hgrow (rOf.alloc _)))
      have HOWN : Hid (∀ R, (Value.slice (some ⟨gg, 0, none⟩) (ol.length + 1) cap).ownBlock = some R → ofv.ownBlock = some R ∨ w.heap.size ≤ R) := Lib.hid (fun R hR => by
        rw [own_some] at hR
        cases hR
        rcases hat with h | h
        · exact .inl h
        · right; have := HK4.out.size; omega)
      have HO5 : Hid (KeepO ofv.ownBlock w4 w5) := Lib.hid ((KeepO.below ((Below.refl _ w4).alloc (Nat.le_refl _) _)).trans (KeepO.grown hgrow))
      have f2 := frozen_of f1 9
      have f9 := cell_of f1 9 ofv rfl
      have f3 := lt_of_block f1
      have f4 := cell_of g5 1 (.string sh) HC1.out
      have f5 := lt_of_block g5)
    obtain ⟨w6, hw6⟩ : ∃ w6, w6 = w5.setCell ⟨F, 9, none⟩ (.slice (some ⟨gg, 0, none⟩) (ol.length + 1) cap) := ⟨_, rfl⟩
    rw [← hw6]
    have HO6 : Hid (KeepO ofv.ownBlock w w6) := Lib.hid (by rw [hw6]; exact (HO4.out.trans HO5.out).trans (KeepO.set f1 (by decide) _))
    have HK6 : Hid (KeepG G w w6) := Lib.hid (by rw [hw6]; exact HK4.out.trans ((HK5.out.trans (KeepT.set f1 _)).toG G))
    have m6 : Many w0 F (some am) (fl ++ [(nm, ptr G)]) sm sl (.slice (some ⟨gg, 0, none⟩) (ol.length + 1) cap) (ol ++ [ptr G]) w6 := by
      rw [hw6]
      have := m5
      simp only [List.length_append, List.length_singleton] at this
      exact this
    have g6 : w6.heap[G]? = some (.cells cs 85 (0, 0)) := by rw [hw6]; exact heap_ne' hFG g5
    have HM6 := Lib.hid m6
    have HG6 := Lib.hid g6
    clear hw6 m5 f9 f1 f2 f3 f4 f5 g5 HK5 HK4 HO4 HO5 hown1 hgrow hat hlt5 rOf d9 z9 l4 lG4 HM4 HG4 hmu e8 e0 e1 e2
    have f4 := cell_of g6 1 (.string sh) HC1.out
    have f5 := lt_of_block g6
    have f6 := m6.cF 11 (.map sm) rfl
    have f7 := m6.zF 11
    have f8 := lt_of_block m6.hF
    clear m6 g6
    by_cases hs0 : sh.size = 0
    · have hq : (sh.toList == ([] : List UInt8)) = true := by rw [emptyB]; exact decide_eq_true hs0
      have hqe : sh.toList.isEmpty = true := by rw [isEmptyB]; exact decide_eq_true hs0
      first | rw [hqe] | rw [hq]
      have HE : Hid (addOk nm sh fl sl) := Lib.hid ⟨HFD.out, .inl hs0⟩
      go_wp2_with fail
      refine bodyPost_ret (results_none rfl _ _ _) rfl ?_
      have M7 : Many w0 F (some am) (fl ++ [(nm, ptr G)]) sm (sl ++ ((firstB sh).map fun c => (c, ptr G)).toList) (.slice (some ⟨gg, 0, none⟩) (ol.length + 1) cap) (ol ++ [ptr G]) w6 := by
        rw [firstB_none hs0]
        simpa using HM6.out
      exact ⟨HO6.out, fun _ => ⟨_, _, _, HOWN.out, M7⟩, HK6.out, HM6.out.bel, fun _ => ⟨rfl, HG6.out, _, _, _, M7⟩, fun hh => absurd HE.out hh⟩
    have hq : (sh.toList == ([] : List UInt8)) = false := by rw [emptyB]; exact decide_eq_false hs0
    have hqe : sh.toList.isEmpty = false := by rw [isEmptyB]; exact decide_eq_false hs0
    first | rw [hqe] | rw [hq]
    by_cases hs1 : 1 < sh.size
    · have hq1 : (1 : Int) < (sh.size : Int) := by omega
      have HE : Hid (¬ addOk nm sh fl sl) := Lib.hid (by rintro ⟨_, h | ⟨h, _⟩⟩ <;> omega)
      go_wp2_with fail
      exact ⟨rfl, HO6.out, fun hh => absurd hh HE.out, HK6.out, HM6.out.bel, fun hh => absurd hh HE.out, fun _ => ⟨_, _, rfl⟩⟩
    have hs2 : sh.size = 1 := by omega
    have q1 : ¬ (1 : Int) < (sh.size : Int) := by omega
    have q0 : (0 : Int) < (sh.size : Int) := by omega
    go_upto_if 70 with fail
    go_cut [] from 70 to 74 (fun wx => ∃ sb, Many w0 F (some am) (fl ++ [(nm, ptr G)]) (some sb) sl (.slice (some ⟨gg, 0, none⟩) (ol.length + 1) cap) (ol ++ [ptr G]) wx ∧ wx.heap[G]? = some (.cells cs 85 (0, 0)) ∧ KeepG G w6 wx ∧ KeepO ofv.ownBlock w6 wx)
    case first =>
      cases sm with
      | none =>
        go_wp2_with fail
        go_meet
        refine ⟨w6.heap.size, ?_, ?_, ?_, ?_⟩
        · rw [← World.setCell_alloc_past _ _ _ _ f8]
          rcases HM6.out.hsm with ⟨_, e⟩ | ⟨b, e, _⟩
          · subst e
            exact HM6.out.mkShort
          · cases e
        · exact heap_past' (by simpa [size_setCell] using f5) (heap_ne' hFG HG6.out)
        · exact ((KeepT.set HM6.out.hF _).trans (KeepT.below ((Below.refl _ _).alloc (Nat.le_refl _) _))).toG G
        · exact (KeepO.set HM6.out.hF (by decide) _).trans (KeepO.below ((Below.refl _ _).alloc (Nat.le_refl _) _))
      | some sb =>
        go_wp2_with fail
        go_meet
        exact ⟨sb, HM6.out, HG6.out, KeepG.refl _ _, KeepO.refl _ _⟩
    case rest =>
    obtain ⟨sb, m7, g7, k7, o7⟩ := hcut
    have HO7 : Hid (KeepO ofv.ownBlock w wc) := Lib.hid (HO6.out.trans o7)
    have HK7 : Hid (KeepG G w wc) := Lib.hid (HK6.out.trans k7)
    obtain ⟨c, hc⟩ : ∃ c, sh[0] = c := ⟨_, rfl⟩
    have g8 := cell_of g7 1 (.string sh) HC1.out
    have d11 := m7.cF 11 (.map (some sb)) rfl
    have hl2 := m7.hsm.lookC c true
    cases hfd : mapFind c sl 0 with
    | some iv =>
      rw [hfd] at hl2
      simp only [lookedUp] at hl2
      have HE : Hid (¬ addOk nm sh fl sl) := Lib.hid (by
        rintro ⟨_, h | ⟨h, h2⟩⟩
        · omega
        · rw [hc, hfd] at h2; cases h2)
      have HM7 := Lib.hid m7
      clear m7 g7 k7
      go_wp2_with fail
      exact ⟨rfl, HO7.out, fun hh => absurd hh HE.out, HK7.out, HM7.out.bel, fun hh => absurd hh HE.out, fun _ => ⟨_, _, rfl⟩⟩
    | none =>
      rw [hfd] at hl2
      simp only [lookedUp] at hl2
      have HE : Hid (addOk nm sh fl sl) := Lib.hid ⟨HFD.out, .inr ⟨hs2, by rw [hc]; exact hfd⟩⟩
      obtain ⟨w8, hmu, m8, k8, g9, o8⟩ := m7.putS rfl c g7 hfd
      rw [g7] at g9
      have M8 : Many w0 F (some am) (fl ++ [(nm, ptr G)]) (some sb) (sl ++ ((firstB sh).map fun c => (c, ptr G)).toList) (.slice (some ⟨gg, 0, none⟩) (ol.length + 1) cap) (ol ++ [ptr G]) w8 := by
        rw [firstB_some (by omega), hc]
        exact m8
      have HM8 := Lib.hid M8
      have HG8 := Lib.hid g9
      have HK8 := Lib.hid (HK7.out.trans (k8.toG G))
      have HO8 := Lib.hid (HO7.out.trans (o8 _))
      unfold ptr at hmu
      clear m7 g7 k7 m8 M8 g9 k8 o8
      go_wp2_with fail
      refine bodyPost_ret (results_none rfl _ _ _) rfl ?_
      exact ⟨HO8.out, fun _ => ⟨_, _, _, HOWN.out, HM8.out⟩, HK8.out, HM8.out.bel, fun _ => ⟨rfl, HG8.out, _, _, _, HM8.out⟩, fun hh => absurd HE.out hh⟩
end Go.Proofs.YtmmkebdaijmpiaaGreat
