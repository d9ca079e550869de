/- few's Set of a flag to the text 1. -/
import Derived.Test.YtmmkebdaijmpiaaGreatVSet
namespace Go.Proofs.YtmmkebdaijmpiaaGreat
open Go.RowKit
set_option linter.unusedVariables false
set_option linter.unusedSimpArgs false

/-- The place of a name. -/
def placeE (es : List (DefD × Nat)) (nm : ByteArray) : Option Nat := es.findIdx? fun e => decide (e.1.nm = nm)
/-- What is set behind one more. -/
def stepA (es : List (DefD × Nat)) (nm : ByteArray) (acts : List Nat) : List Nat := match placeE es nm with
  | none => acts
  | some i => if i ∈ acts then acts else acts ++ [i]
theorem find_place (nm : ByteArray) : ∀ (es : List (DefD × Nat)) (k : Nat), mapFind nm (flE es) k = (placeE es nm).map fun i => (k + i, ptr (es[i]!).2)
  | [], k => rfl
  | e :: es, k => by
    rw [flE, List.map_cons, mapFind, placeE, List.findIdx?_cons]
    by_cases h : nm = e.1.nm
    · simp [h]
    · have h' : ¬ e.1.nm = nm := fun e' => h e'.symm
      have := find_place nm es (k + 1)
      rw [flE] at this
      rw [if_neg h, this, placeE]
      simp only [h', decide_false, Bool.false_eq_true, if_false]
      cases es.findIdx? (fun e => decide (e.1.nm = nm)) with
      | none => rfl
      | some i => simp; omega
theorem place_some {es : List (DefD × Nat)} {nm : ByteArray} {i : Nat} (h : placeE es nm = some i) : ∃ hi : i < es.length, es[i].1.nm = nm := by
  rw [placeE, List.findIdx?_eq_some_iff_getElem] at h
  obtain ⟨hi, hp, _⟩ := h
  exact ⟨hi, by simpa using hp⟩
theorem strSet_any (P : Nat) (s : ByteArray) (v : Value) (w : World) (h : w.heap[P]? = some (.cells #[v] 9 (0, 0))) :
    Calls Tryz.prog 165 #[ptr P, .string s] w fun e w' => e = .returned .nilIface ∧ w' = w.setCell ⟨P, 0, none⟩ (.string s) := by
  have c := cell_of_one h
  have z := free_of_one h
  clear h
  unfold ptr
  go_enter Tryz.func165, Tryz.ntmps165
  go_wp2_with fail
  go_ret
  exact ⟨rfl, rfl⟩
theorem boolSet_any (P : Nat) (v : Value) (w : World) (h : w.heap[P]? = some (.cells #[v] 4 (0, 0))) :
    Calls Tryz.prog 128 #[ptr P, .string ⟨#[49]⟩] w fun e w' => e = .returned .nilIface ∧ w' = w.setCell ⟨P, 0, none⟩ (.bool true) := by
  have c := cell_of_one h
  have z := free_of_one h
  clear h
  unfold ptr
  go_enter Tryz.func128, Tryz.ntmps128
  go_wp2
  go_ret
  exact ⟨rfl, rfl⟩
section
variable {w0 : World} {F : Nat} {so : Bool} {fm : Option Nat} {es : List (DefD × Nat)} {am : Option Nat} {oav ofv : Value} {sm : Option Nat} {acts : List Nat} {w w' : World}
/-- The value of a flag is written. -/
theorem VSet.setP (h : VSet w0 F so fm es am oav ofv sm acts w) {P : Nat} (hP : w0.heap.size ≤ P) {c : Value} {t : TypeId} (hc : w.heap[P]? = some (.cells #[c] t (0, 0))) (v : Value) (ht : (t = 9 ∧ ∃ s, v = .string s) ∨ (t = 4 ∧ ∃ b, v = .bool b)) : VSet w0 F so fm es am oav ofv sm acts (w.setCell ⟨P, 0, none⟩ v) := by
  have k : ∀ b, b ≠ P → (w.setCell ⟨P, 0, none⟩ v).heap[b]? = w.heap[b]? := fun b hb => heap_ne _ _ _ _ hb
  have hs := heap_set hc 0 v
  have tF : t ≠ 75 := by rcases ht with ⟨rfl, _⟩ | ⟨rfl, _⟩ <;> decide
  have tR : t ≠ 80 := by rcases ht with ⟨rfl, _⟩ | ⟨rfl, _⟩ <;> decide
  have tG : t ≠ 85 := by rcases ht with ⟨rfl, _⟩ | ⟨rfl, _⟩ <;> decide
  refine h.moved (h.bel.setCell hP _) (fun b c' t' hb ht' => (k b (cells_ne hb hc (by rcases ht' with rfl | rfl; exact tF.symm; exact tR.symm))).trans hb) (fun b e cl hb => (k b (by rintro rfl; rw [hc] at hb; cases hb)).trans hb) fun i hi => ?_
  obtain ⟨Q, df, no, hQ, ⟨e, hG, s, hs'⟩ | ⟨e, hG, s, hs'⟩⟩ := h.flag i hi
  · refine ⟨Q, df, no, hQ, .inl ⟨e, (k _ (cells_ne hG hc tG.symm)).trans hG, ?_⟩⟩
    by_cases q : Q = P
    · subst q
      rw [hc] at hs'
      cases hs'
      rcases ht with ⟨_, s', rfl⟩ | ⟨e', _⟩
      · exact ⟨s', hs⟩
      · exact absurd e' (by decide)
    · exact ⟨s, (k Q q).trans hs'⟩
  · refine ⟨Q, df, no, hQ, .inr ⟨e, (k _ (cells_ne hG hc tG.symm)).trans hG, ?_⟩⟩
    by_cases q : Q = P
    · subst q
      rw [hc] at hs'
      cases hs'
      rcases ht with ⟨e', _⟩ | ⟨_, s', rfl⟩
      · exact absurd e' (by decide)
      · exact ⟨s', hs⟩
    · exact ⟨s, (k Q q).trans hs'⟩
theorem VSet.mkAct (h : VSet w0 F so fm es none oav ofv sm acts w) : VSet w0 F so fm es (some w.heap.size) oav ofv sm acts ((w.alloc (.map #[] 0)).setCell ⟨F, 5, none⟩ (.map (some w.heap.size))) := by
  have h1 := h.later ((Below.refl _ w).alloc (Nat.le_refl _) (.map #[] 0))
  have hnil : alA es acts = [] := by
    rcases h.ham with ⟨_, e⟩ | ⟨b, e, _⟩
    · exact e
    · cases e
  refine h1.setF 5 _ rfl (.inr ⟨_, rfl, by rw [hnil]; exact MapIs.empty w⟩) h1.rOa fun b e => ?_
  cases e
  refine ⟨h.bel.size, fun e => ?_⟩
  have := h.hfm.lt _ e; omega
end
theorem infoFP' : (Tryz.prog.info? 80).map (fun i => (i.zero, i.size, i.bytes)) = some (some (.pointer none), 1, 8) := by kernel_rfl

set_option maxRecDepth 100000 in
set_option maxHeartbeats 6400000 in
/-- The flag at place i is set: behind its value. -/
theorem fsSet_any {w0 w : World} {F : Nat} {so : Bool} {fm : Option Nat} {es : List (DefD × Nat)} {am : Option Nat} {oav ofv : Value} {sm : Option Nat} {acts : List Nat} (h : VSet w0 F so fm es am oav ofv sm acts w) (nm : ByteArray) (ha : acts.length ≤ 1048576) :
    Calls Tryz.prog 27 #[ptr F, .string nm, .string ⟨#[49]⟩] w fun e w' => (∃ v, e = .returned v) ∧ ∃ am' oav', VSet w0 F so fm es am' oav' ofv sm (stepA es nm acts) w' := by
  obtain ⟨i0, hi0, hz0, hz1, hz2⟩ := info_parts infoFP'
  have hm1 : ∀ (m : Option Nat) w, Sem.run Tryz.prog (binOp BinOp.eql 69 (Value.map m) (Value.map none)) w = .ok (.bool m.isNone) w := fun m _ => by cases m <;> kernel_rfl
  have hn0 : ∀ w, Sem.run Tryz.prog (binOp BinOp.neq 77 Value.nilIface Value.nilIface) w = .ok (.bool false) w := fun _ => by kernel_rfl
  have hmm := @run_makeMap Tryz.prog
  have CN := Lib.hid (norm_any F w (h.cF 16 .nilFunc rfl) nm)
  have HK := Lib.hid (fun W (hb : Below w.heap.size w W) => h.later hb)
  clear h
  unfold ptr at *
  go_enter Tryz.func27, Tryz.ntmps27
  go_wp2_with fail
  refine CN.out.mono ?_
  rintro e w1 ⟨rfl, hb1⟩
  have m1 := HK.out w1 hb1
  clear CN HK hb1
  have d8 := m1.cF 8 (.map fm) rfl
  have hl := m1.hfm.look nm
  rw [find_place] at hl
  cases hp : placeE es nm with
  | none =>
    rw [hp] at hl
    simp only [Option.map_none, lookedUp] at hl
    have HE := Lib.hid (show stepA es nm acts = acts by rw [stepA, hp])
    have HM := Lib.hid (fun o => m1.later ((Below.refl _ w1).alloc (Nat.le_refl _) o))
    clear m1 hp
    go_wp2_with fail
    go_ret
    exact ⟨⟨_, rfl⟩, _, _, by rw [HE.out]; exact HM.out _⟩
  | some i =>
    obtain ⟨hi, hnm⟩ := place_some hp
    rw [hp] at hl
    have ei : es[i]! = es[i] := getElem!_pos es i hi
    simp only [Option.map_some, lookedUp, ei] at hl
    have M1 := Lib.hid m1
    clear m1
    unfold ptr at hl
    go_upto_region 5 with fail
    go_cut [10] from 29 to 34 (fun v10 wx => v10 = .nilIface ∧ VSet w0 F so fm es am oav ofv sm acts wx)
    case first =>
      obtain ⟨P, df, no, hP, ⟨ek, hG, s, hs⟩ | ⟨ek, hG, s, hs⟩⟩ := M1.out.flag i hi
      · have c3 := cell_of hG 3 (ivS P) rfl
        have hm : ∀ w, (method 329 146 (.pointer (some ⟨P, 0, none⟩)) "Set").run Tryz.prog w = .ok (165, .pointer (some ⟨P, 0, none⟩)) w := fun _ => by kernel_rfl
        have C := Lib.hid (strSet_any P ⟨#[49]⟩ _ w1 hs)
        have HR := Lib.hid (M1.out.setP hP hs (.string ⟨#[49]⟩) (.inl ⟨rfl, _, rfl⟩))
        clear hG hs
        unfold ivS ptr at *
        go_wp2_with fail
        refine C.out.mono ?_
        rintro e w2 ⟨rfl, rfl⟩
        go_wp2_with fail
        go_meet
        exact ⟨rfl, HR.out⟩
      · have c3 := cell_of hG 3 (ivB P) rfl
        have hm : ∀ w, (method 329 139 (.pointer (some ⟨P, 0, none⟩)) "Set").run Tryz.prog w = .ok (128, .pointer (some ⟨P, 0, none⟩)) w := fun _ => by kernel_rfl
        have C := Lib.hid (boolSet_any P _ w1 hs)
        have HR := Lib.hid (M1.out.setP hP hs (.bool true) (.inr ⟨rfl, _, rfl⟩))
        clear hG hs
        unfold ivB ptr at *
        go_wp2_with fail
        refine C.out.mono ?_
        rintro e w2 ⟨rfl, rfl⟩
        go_wp2_with fail
        go_meet
        exact ⟨rfl, HR.out⟩
    case rest =>
    obtain ⟨rfl, m2⟩ := hcut
    obtain ⟨iv, df, no, hG⟩ := (m2.flag i hi).cells
    have c5 := cell_of hG 5 (.bool (decide (i ∈ acts))) rfl
    have M2 := Lib.hid m2
    have HP := Lib.hid hp
    clear M1 hl d8 hp
    by_cases hin : i ∈ acts
    · have HE := Lib.hid (show stepA es nm acts = acts by rw [stepA, HP.out]; exact if_pos hin)
      rw [decide_eq_true hin] at c5
      clear m2 hG
      go_wp2_with fail
      go_ret
      exact ⟨⟨_, rfl⟩, _, _, by rw [HE.out]; exact M2.out⟩
    have HE := Lib.hid (show stepA es nm acts = acts ++ [i] by rw [stepA, HP.out]; exact if_neg hin)
    rw [decide_eq_false hin] at c5
    have z5 := m2.zF 5
    have f5 := m2.cF 5 (.map am) rfl
    have l5 := lt_of_block m2.hF
    clear m2 hG
    go_upto_if 52 with fail
    go_cut [] from 52 to 56 (fun wx => ∃ a, VSet w0 F so fm es (some a) oav ofv sm acts wx)
    case first =>
      cases am with
      | none =>
        go_wp2_with fail
        go_meet
        refine ⟨wc.heap.size, ?_⟩
        rw [← World.setCell_alloc_past _ _ _ _ l5]
        exact M2.out.mkAct
      | some a =>
        go_wp2_with fail
        go_meet
        exact ⟨a, M2.out⟩
    case rest =>
    obtain ⟨a, m3⟩ := hcut
    clear z5 f5 l5 c5 M2 hm1
    have e5 := m3.cF 5 (.map (some a)) rfl
    have hmi : MapIs strKey wc a (alA es acts) := by
      rcases m3.ham with ⟨e, _⟩ | ⟨b, e, hb⟩
      · cases e
      · cases e; exact hb
    obtain ⟨o, hmu, hm4⟩ := run_mapUpdate_map (P := Tryz.prog) (T := 69) (kt := 99) (et := 80) hmi (by kernel_rfl) (by kernel_rfl) nm (ptr es[i].2)
    have hnew : mapFind nm (alA es acts) 0 = none := by
      rw [find_none]
      intro x hx e
      obtain ⟨j, hj, rfl⟩ := List.mem_map.1 hx
      have hjl := m3.alt j hj
      rw [getElem!_pos es j hjl] at e
      have := m3.names j i hjl hi (by rw [hnm]; exact e)
      subst this
      exact hin hj
    rw [mapPut_new nm _ _ 0 hnew] at hm4
    have HADD := Lib.hid (fun (ob : Obj) (w5 : World) (g cap : Nat) => m3.add (o := o) (ob := ob) (w5 := w5) (g := g) (cap := cap) hi hin (by rw [hnm]; exact hm4))
    have hF4 : ({ wc with heap := wc.heap.setIfInBounds a o } : World).heap[F]? = some (.cells (fsV so (some a) oav fm ofv sm) 75 (0, 0)) := (setBlock_ne (Ne.symm (hmi.ne m3.hF))).trans m3.hF
    obtain ⟨iv, df, no, hG⟩ := (m3.flag i hi).cells
    have HG := Lib.hid hG
    have hG4 : ({ wc with heap := wc.heap.setIfInBounds a o } : World).heap[es[i].2]? = some (.cells (flV es[i].1.nm es[i].1.sh iv df no (decide (i ∈ acts))) 85 (0, 0)) := (setBlock_ne (Ne.symm (hmi.ne hG))).trans hG
    have rOf : ({ wc with heap := wc.heap.setIfInBounds a o } : World).ownsRow w0.heap.size 80 1 oav acts.length (oaA es acts) := ownsRow_at m3.rOa fun g e => setBlock_ne (by
      rintro rfl
      obtain ⟨_, c, hc⟩ := ownsRow_cells m3.rOa e
      exact hmi.ne hc rfl)
    have hs4 : w0.heap.size ≤ ({ wc with heap := wc.heap.setIfInBounds a o } : World).heap.size := by
      have := m3.bel.size
      simpa using this
    clear m3 hmi hm4 hnew hG
    generalize ({ wc with heap := wc.heap.setIfInBounds a o } : World) = w4 at *
    have f6 := cell_of hF4 6 oav rfl
    have hmu' : (Instr.mapUpdate 69 (.map (some a)) (.string nm) (.pointer (some ⟨es[i].2, 0, none⟩))).run Tryz.prog wc = .ok () w4 := hmu
    clear hmu
    generalize hGe : es[i].2 = G at HADD HG hG4 hmu' ⊢
    go_wp2_with (
      at_builtin
      refine wpList_append_lies _ (by rfl) _ _ _ (by rfl) w0.heap.size 80 i0 _ 1 8 Tryz.underlying70 hi0 hz0 hz1 hz2 rfl (by omega) oav acts.length (oaA es acts) (by rfl) (rOf.alloc _)
        ⟨w4.heap.size, 0, none⟩ 1 1 [.pointer (some ⟨G, 0, none⟩)] (by rfl) (by rfl) (World.news_of_block (cs := #[.pointer (some ⟨G, 0, none⟩)]) (t := 80) (fr := (0, 0)) (heap_alloc_new w4 _)) (by simp [Value.oneCell'])
        (by omega) (by unfold maxLen; omega) (by omega) (by simp only [World.size_alloc]; exact Nat.le_succ_of_le hs4) (w4.heap.size + 1) (by simp only [World.size_alloc]) ?_
      intro gg cap w5 hown1 hgrow hat hlt5
      obtain ⟨y1, y2, y3, y4⟩ := HADD.out _ w5 gg cap hgrow hown1
      have y5 := y2 _ HG.out
      have g1 := cell_of y1 6 oav rfl
      have g2 := frozen_of y1 6
      have g3 := lt_of_block y1
      have g4 := cell_of y5 5 (.bool (decide (i ∈ acts))) rfl
      have g5 := frozen_of y5 5
      have g6 := lt_of_block y5)
    (try simp only [Exit.inBlock, Exit.then])
    go_ret
    rw [HE.out]
    exact ⟨⟨_, rfl⟩, _, _, y4⟩
end Go.Proofs.YtmmkebdaijmpiaaGreat
