/- The reference's set of flags whose flags are set (spec.NameSet's set). -/
import Derived.Test.YtmmkebdaijmpiaaGreatNAddS
import Derived.Test.YtmmkebdaijmpiaaGreatVImpl
namespace Go.Proofs.YtmmkebdaijmpiaaGreat
open Go.RowKit
set_option linter.unusedVariables false
set_option linter.unusedSimpArgs false

theorem flatMap_set {α : Type} (f : α → List Value) (sz : Nat) (hf : ∀ x, (f x).length = sz) (x' : α) (j : Nat) (hj : j < sz) (v : Value) : ∀ (l : List α) (i : Nat) (h : i < l.length), f x' = (f l[i]).set j v → (l.flatMap f).set (i * sz + j) v = (l.set i x').flatMap f
  | x :: l, 0, h, e => by
    rw [List.set_cons_zero, List.flatMap_cons, List.flatMap_cons, Nat.zero_mul, Nat.zero_add, List.set_append_left _ _ (by rw [hf]; exact hj), e]
    rfl
  | x :: l, i + 1, h, e => by
    have ih := flatMap_set f sz hf x' j hj v l i (by simpa using h) e
    rw [List.set_cons_succ, List.flatMap_cons, List.flatMap_cons, List.set_append_right _ _ (by rw [hf, Nat.add_mul]; omega), hf, show (i + 1) * sz + j - sz = i * sz + j by rw [Nat.add_mul]; omega, ih]
theorem flatF_set (l : List NFlag) (i : Nat) (h : i < l.length) (x' : NFlag) (j : Nat) (hj : j < 11) (v : Value) (e : x'.cells = l[i].cells.set j v) : (flatF l).set (i * 11 + j) v = flatF (l.set i x') :=
  flatMap_set NFlag.cells 11 NFlag.length x' j hj v l i h e
/-- A cell of a flag is written. -/
theorem NSet.setE {w0 w : World} {N g n c : Nat} {pl : Bool} {sv : Value} {l : List NFlag} (h : NSet w0 N (.slice (some ⟨g, 0, none⟩) n c) pl sv l w) {i : Nat} (hi : i < l.length) (x' : NFlag) (j : Nat) (hj : j < 11) (v : Value) (e : x'.cells = l[i].cells.set j v) :
    NSet w0 N (.slice (some ⟨g, 0, none⟩) n c) pl sv (l.set i x') (w.setCell ⟨g, i * 11 + j, none⟩ v) ∧ w.frozen? ⟨g, i * 11 + j, none⟩ = false ∧ g < w.heap.size ∧ w0.heap.size ≤ g ∧ ∃ cs, w.heap[g]? = some (.cells cs 62 (0, 0)) := by
  rcases h.row.2 with ⟨e', hn⟩ | ⟨b, cap, cur, e', hb, hh, hnc, hcm, hcs, ht⟩
  · cases e'
  · cases e'
    refine ⟨⟨h.bel.setCell hb _, heap_ne' (cells_ne h.hN hh (by decide)) h.hN, ⟨?_, .inr ⟨g, c, cur.setIfInBounds (i * 11 + j) v, ?_, hb, heap_set hh _ _, ?_, hcm, by simpa using hcs, ?_⟩⟩, h.lN⟩, frozen_of hh _, lt_of_block hh, hb, cur, hh⟩
    · rw [← flatF_set l i hi x' j hj v e, List.length_set, List.length_set]; exact h.row.1
    · rw [List.length_set]
    · rw [List.length_set]; exact hnc
    · rw [List.length_set, Array.toList_setIfInBounds, List.take_set, ht]; exact flatF_set l i hi x' j hj v e
def intsV (acts : List Nat) : List Value := acts.map fun (i : Nat) => Value.int .i64 (i : Int)
/-- The reference's set: its flags' definitions, those that were set. -/
structure RefV (w0 : World) (N : Nat) (pl : Bool) (ls : List DefD) (acts : List Nat) (w : World) : Prop where
  ex : ∃ fv sv l, NSet w0 N fv pl sv l w ∧ l.map (·.d) = ls ∧ (∀ i (hi : i < l.length), l[i].chg = decide (i ∈ acts)) ∧ w.ownsRow w0.heap.size 3 1 sv acts.length (intsV acts)
theorem RefV.later {w0 w w' : World} {N : Nat} {pl : Bool} {ls : List DefD} {acts : List Nat} (h : RefV w0 N pl ls acts w) (hb : Below w.heap.size w w') : RefV w0 N pl ls acts w' := by
  obtain ⟨fv, sv, l, hn, e, hc, hr⟩ := h.ex
  exact ⟨fv, sv, l, hn.later hb, e, hc, row_grow hr hb⟩
/-- Blocks of other types stay. -/
structure KeepR (w w' : World) : Prop where
  size : w.heap.size ≤ w'.heap.size
  cells : ∀ (b : Nat) (c : Array Value) (t : TypeId), w.heap[b]? = some (Obj.cells c t (0, 0)) → t ≠ 41 → t ≠ 62 → t ≠ 3 → w'.heap[b]? = some (Obj.cells c t (0, 0))
theorem KeepR.trans {a b c : World} (h : KeepR a b) (k : KeepR b c) : KeepR a c := ⟨Nat.le_trans h.size k.size, fun x cs t hx h1 h2 h3 => k.cells x cs t (h.cells x cs t hx h1 h2 h3) h1 h2 h3⟩
theorem KeepR.below {w w' : World} (h : Below w.heap.size w w') : KeepR w w' := ⟨h.size, fun b c t hb _ _ _ => (h.block b (lt_of_block hb)).trans hb⟩
theorem KeepR.set {w : World} {g : Nat} {cs : Array Value} {T : TypeId} (h : w.heap[g]? = some (.cells cs T (0, 0))) (hT : T = 41 ∨ T = 62) (j : Nat) (v : Value) : KeepR w (w.setCell ⟨g, j, none⟩ v) :=
  ⟨by rw [size_setCell]; exact Nat.le_refl _, fun b c t hb h1 h2 _ => heap_ne' (cells_ne hb h (by rcases hT with rfl | rfl; exact h1; exact h2)) hb⟩

theorem castTruth_any (w : World) : Calls Tryz.prog 36 #[.string ⟨#[49]⟩] w fun e w' => e = .returned (.tuple #[.bool true, .bool true]) ∧ w' = w := by
  go_enter Tryz.func36, Tryz.ntmps36
  go_wp2
  go_ret2
  exact ⟨rfl, rfl⟩
theorem place_idx (l : List NFlag) (nm : ByteArray) : idxI (fun x => x.d.nm = nm) l = match placeD (l.map (·.d)) nm with | some i => (i : Int) | none => -1 := by
  rw [idxI, placeD, List.findIdx?_map]; rfl
theorem placeD_some {l : List DefD} {nm : ByteArray} {i : Nat} (h : placeD l nm = some i) : i < l.length := by
  rw [placeD, List.findIdx?_eq_some_iff_getElem] at h
  exact h.1
theorem infoInt : (Tryz.prog.info? 3).map (fun i => (i.zero, i.size, i.bytes)) = some (some (.int .i64 0), 1, 8) := by kernel_rfl
/-- A place is put behind those that were set. -/
theorem NSet.appendS {w0 w w1 : World} {N : Nat} {fv sv : Value} {pl : Bool} {l : List NFlag} {acts : List Nat} (h : NSet w0 N fv pl sv l w) (hr : w.ownsRow w0.heap.size 3 1 sv acts.length (intsV acts)) {o : Obj} (hg : (w.alloc o).grownBy w1 sv.ownBlock) {g cap : Nat} (i : Nat) (hr1 : w1.ownsRow w0.heap.size 3 1 (.slice (some ⟨g, 0, none⟩) (acts.length + 1) cap) (acts.length + 1) (intsV acts ++ [.int .i64 (i : Int)])) :
    w1.heap[N]? = some (.cells (setC fv pl sv) 41 (0, 0)) ∧ NSet w0 N fv pl (.slice (some ⟨g, 0, none⟩) (acts.length + 1) cap) l (w1.setCell ⟨N, 3, none⟩ (.slice (some ⟨g, 0, none⟩) (acts.length + 1) cap)) ∧
      (w1.setCell ⟨N, 3, none⟩ (.slice (some ⟨g, 0, none⟩) (acts.length + 1) cap)).ownsRow w0.heap.size 3 1 (.slice (some ⟨g, 0, none⟩) (acts.length + 1) cap) (acts ++ [i]).length (intsV (acts ++ [i])) ∧ KeepR w (w1.setCell ⟨N, 3, none⟩ (.slice (some ⟨g, 0, none⟩) (acts.length + 1) cap)) := by
  have hb := (Below.refl w.heap.size w).alloc (Nat.le_refl _) o
  have h1 := h.later hb
  have hra := row_grow hr hb
  have oth : ∀ {b : Nat} {c : Array Value} {t : TypeId} {z : Nat × Nat}, (w.alloc o).heap[b]? = some (Obj.cells c t z) → t ≠ 3 → w1.heap[b]? = some (Obj.cells c t z) := fun {b c t z} hb ht => (hg.block _ (lt_of_block hb) (fun e => by
    obtain ⟨_, c', hc⟩ := ownsRow_cells hra e.symm
    rw [hc] at hb
    cases hb
    exact ht rfl)).trans hb
  have hN := oth h1.hN (by decide)
  have k : ∀ {b : Nat} {c : Array Value} {t : TypeId} {z : Nat × Nat}, w1.heap[b]? = some (Obj.cells c t z) → t ≠ 41 → (w1.setCell ⟨N, 3, none⟩ (.slice (some ⟨g, 0, none⟩) (acts.length + 1) cap)).heap[b]? = w1.heap[b]? := fun {b c t z} hb ht => heap_ne _ _ _ _ (cells_ne hb hN ht)
  refine ⟨hN, ⟨Below.setCell (h1.bel.trans (grownBy_below hg (fun b hb => (ownsRow_cells hra hb).1) h1.bel.size)) h.lN _, by rw [heap_set hN 3 _]; rfl, ⟨h.row.1, ?_⟩, h.lN⟩, ?_, ?_, fun b c t hb h1 h2 h3 => ?_⟩
  · rcases h1.row.2 with h0 | ⟨b, cap, cur, e, hb', hh, hrr⟩
    · exact .inl h0
    · have hw := oth hh (by decide)
      exact .inr ⟨b, cap, cur, e, hb', (k hw (by decide)).trans hw, hrr⟩
  · have e : intsV (acts ++ [i]) = intsV acts ++ [.int .i64 (i : Int)] := by simp [intsV]
    rw [e, List.length_append, List.length_singleton]
    refine ownsRow_at hr1 fun g' e' => ?_
    obtain ⟨_, c, hc⟩ := ownsRow_cells hr1 e'
    exact k hc (by decide)
  · rw [size_setCell]
    have := hg.size
    simp only [World.size_alloc] at this
    omega
  · have hb1 := oth (heap_past' (o := o) (lt_of_block hb) hb) h3
    exact (k hb1 h1).trans hb1

set_option maxRecDepth 100000 in
set_option maxHeartbeats 6400000 in
theorem setN_any {w0 w : World} {N : Nat} {pl : Bool} {ls : List DefD} {acts : List Nat} (h : RefV w0 N pl ls acts w) (nm : ByteArray) (hl : ls.length ≤ 1048576) (ha : acts.length ≤ 1048576) :
    Calls Tryz.prog 21 #[.pointer (some ⟨N, 0, none⟩), .string nm, .string ⟨#[49]⟩] w fun e w' => (∃ b, e = .returned (.bool b)) ∧ RefV w0 N pl ls (stepD ls nm acts) w' ∧ KeepR w w' := by
  obtain ⟨i0, hi0, hz0, hz1, hz2⟩ := info_parts infoInt
  have HR := Lib.hid h
  obtain ⟨fv, sv, l, hn, el, hc, hr⟩ := h.ex
  clear h
  obtain ⟨a, c, rfl⟩ := hn.form
  obtain ⟨sa, sc, rfl⟩ := row_form hr
  have hll : l.length = ls.length := by rw [← el, List.length_map]
  have C := find_any hn nm (by omega)
  rw [place_idx, el] at C
  have CN := Lib.hid C
  clear C
  have c2 := cell_of hn.hN 2 (.slice a l.length c) rfl
  have HN := Lib.hid hn
  have HC := Lib.hid hc
  have HRW := Lib.hid hr
  have HEL := Lib.hid el
  have HLL := Lib.hid hll
  clear hn hc hr el hll
  go_enter Tryz.func21, Tryz.ntmps21
  go_wp2_with fail
  refine CN.out.mono ?_
  rintro e w1 ⟨rfl, rfl⟩
  clear CN
  cases hp : placeD ls nm with
  | none =>
    have HE := Lib.hid (show stepD ls nm acts = acts by rw [stepD, hp])
    simp only
    go_wp2_with fail
    go_ret
    exact ⟨⟨_, rfl⟩, by rw [HE.out]; exact HR.out, KeepR.below (Below.refl _ _)⟩
  | some i =>
    have hi : i < l.length := by rw [HLL.out]; exact placeD_some hp
    have HP := Lib.hid hp
    clear hp
    simp only
    obtain ⟨g, rfl, hat⟩ := HN.out.at i hi
    have k2 := hat 2 (.int .i64 l[i].d.k) (by omega) rfl
    obtain ⟨x, hx⟩ : ∃ x, l[i] = x := ⟨_, rfl⟩
    rw [hx] at k2
    have HX := Lib.hid hx
    clear hat hx HR
    have CT := Lib.hid (castTruth_any w1)
    go_upto_if 24 with fail
    go_cut [2, 8, 9, 23, 24] from 25 to 32 (fun v2 v8 v9 v23 v24 wx => (∃ s, v2 = .string s) ∧ wx = w1)
    case first =>
      by_cases hk : x.d.k = 1
      · have q1 : (x.d.k == 1) = true := by rw [hk]; rfl
        go_wp2_with fail
        refine CT.out.mono ?_
        rintro e w2 ⟨rfl, rfl⟩
        go_wp2_with fail
        go_meet
        exact ⟨⟨_, rfl⟩, rfl⟩
      · have q1 : (x.d.k == 1) = false := by simp [hk]
        go_wp2_with fail
        go_meet
        exact ⟨⟨_, rfl⟩, rfl⟩
    case rest =>
    obtain ⟨⟨s, rfl⟩, rfl⟩ := hcut
    clear CT k2
    obtain ⟨n1, z1, l1, b1, cs1, r1⟩ := HN.out.setE hi ⟨x.d, s, x.chg⟩ 7 (by omega) (.string s) (by rw [HX.out]; rfl)
    have kk := HN.out.at i hi
    obtain ⟨g', eg, kk⟩ := kk
    cases eg
    have k7 := kk 7 (.string x.val) (by omega) (by rw [HX.out]; rfl)
    have K1 := Lib.hid (KeepR.set r1 (.inr rfl) (i * 11 + 7) (.string s))
    have d2 := cell_of n1.hN 2 (.slice (some ⟨g, 0, none⟩) l.length c) rfl
    have hi1 : i < (l.set i ⟨x.d, s, x.chg⟩).length := by rw [List.length_set]; exact hi
    have kk1 := n1.at i hi1
    obtain ⟨g', eg, kk1⟩ := kk1
    cases eg
    have m8 := kk1 8 (.bool x.chg) (by omega) (by rw [List.getElem_set_self]; rfl)
    have hch : x.chg = decide (i ∈ acts) := by have := HC.out i hi; rw [HX.out] at this; exact this
    have N1 := Lib.hid n1
    have R1 := Lib.hid (show (wc.setCell ⟨g, i * 11 + 7, none⟩ (.string s)).ownsRow w0.heap.size 3 1 (.slice sa acts.length sc) acts.length (intsV acts) from ownsRow_at HRW.out fun g' e => by
      obtain ⟨_, c', hc'⟩ := ownsRow_cells HRW.out e
      exact heap_ne _ _ _ _ (cells_ne hc' r1 (by decide)))
    have HC1 := Lib.hid (show (l.set i ⟨x.d, s, x.chg⟩).map (·.d) = ls by
      rw [List.map_set, ← HEL.out]
      refine List.ext_getElem? fun j => ?_
      rw [List.getElem?_set]
      split
      · rename_i e; subst e; rw [if_pos (by simpa using hi), List.getElem?_map, List.getElem?_eq_getElem hi, HX.out]; rfl
      · rfl)
    have HL1 := Lib.hid (show (l.set i ⟨x.d, s, x.chg⟩).length = l.length from List.length_set)
    clear n1 kk kk1 r1
    by_cases hin : i ∈ acts
    · have HE := Lib.hid (show stepD ls nm acts = acts by rw [stepD, HP.out]; exact if_pos hin)
      rw [decide_eq_true hin] at hch
      have HCH := Lib.hid hch
      rw [hch] at m8
      clear hch
      go_wp2_with fail
      go_ret
      refine ⟨⟨_, rfl⟩, ?_, K1.out⟩
      rw [HE.out]
      refine ⟨_, _, _, N1.out, HC1.out, fun j hj => ?_, R1.out⟩
      rw [HL1.out] at hj
      rw [List.getElem_set]
      split
      · rename_i e; subst e; rw [decide_eq_true hin]; exact HCH.out
      · exact HC.out j hj
    · have HE := Lib.hid (show stepD ls nm acts = acts ++ [i] by rw [stepD, HP.out]; exact if_neg hin)
      rw [decide_eq_false hin] at hch
      rw [hch] at m8
      obtain ⟨n2, z2, l2, b2, cs2, r2⟩ := N1.out.setE hi1 ⟨x.d, s, true⟩ 8 (by omega) (.bool true) (by rw [List.getElem_set_self]; rfl)
      have K2 := Lib.hid (KeepR.set r2 (.inr rfl) (i * 11 + 8) (.bool true))
      rw [List.set_set] at n2
      have e2 := cell_of n2.hN 2 (.slice (some ⟨g, 0, none⟩) l.length c) (by rw [List.length_set] at *; rfl)
      have e3 := cell_of n2.hN 3 (.slice sa acts.length sc) rfl
      have R2 := ownsRow_at (w' := (wc.setCell ⟨g, i * 11 + 7, none⟩ (.string s)).setCell ⟨g, i * 11 + 8, none⟩ (.bool true)) R1.out fun g' e => by
        obtain ⟨_, c', hc'⟩ := ownsRow_cells R1.out e
        exact heap_ne _ _ _ _ (cells_ne hc' r2 (by decide))
      have HA := Lib.hid (fun (ob : Obj) (w5 : World) (gg cap : Nat) => n2.appendS R2 (o := ob) (w1 := w5) (g := gg) (cap := cap))
      have hs2 := n2.bel.size
      clear n2 r2 hch HRW HN
      have HC2 := Lib.hid (show (l.set i ⟨x.d, s, true⟩).map (·.d) = ls by
        rw [List.map_set, ← HEL.out]
        refine List.ext_getElem? fun j => ?_
        rw [List.getElem?_set]
        split
        · rename_i e; subst e; rw [if_pos (by simpa using hi), List.getElem?_map, List.getElem?_eq_getElem hi, HX.out]; rfl
        · rfl)
      have HL2 := Lib.hid (show (l.set i ⟨x.d, s, true⟩).length = l.length from List.length_set)
      have HF2 := Lib.hid (fun j (hj : j < (l.set i ⟨x.d, s, true⟩).length) => show (l.set i ⟨x.d, s, true⟩)[j].chg = decide (j ∈ acts ++ [i]) by
        rw [HL2.out] at hj
        rw [List.getElem_set]
        split
        · rename_i e; subst e; simp
        · rename_i e; rw [HC.out j hj]; simp [Ne.symm e])
      clear HC1 HC HX
      generalize hW1 : wc.setCell ⟨g, i * 11 + 7, none⟩ (.string s) = W1 at *
      generalize hW2 : W1.setCell ⟨g, i * 11 + 8, none⟩ (.bool true) = W2 at *
      go_wp2_with (
        at_builtin
        refine wpList_append_lies _ (by rfl) _ _ _ (by rfl) w0.heap.size 3 i0 _ 1 8 Tryz.underlying39 hi0 hz0 hz1 hz2 rfl (by omega) (.slice sa acts.length sc) acts.length (intsV acts) (by rfl) (R2.alloc _)
          ⟨W2.heap.size, 0, none⟩ 1 1 [.int .i64 (i : Int)] (by rfl) (by rfl) (World.news_of_block (cs := #[.int .i64 (i : Int)]) (t := 3) (fr := (0, 0)) (heap_alloc_new W2 _)) (by simp [Value.oneCell'])
          (by omega) (by unfold maxLen; omega) (by omega) (by simp only [World.size_alloc]; exact Nat.le_succ_of_le hs2) (W2.heap.size + 1) (by simp only [World.size_alloc]) ?_
        intro gg cap w5 hown1 hgrow hat hlt5
        obtain ⟨y1, y2, y3, y4⟩ := HA.out _ w5 gg cap hgrow i hown1
        have g1 := cell_of y1 3 (.slice sa acts.length sc) rfl
        have g2 := frozen_of y1 3
        have g3 := lt_of_block y1)
      go_ret
      exact ⟨⟨_, rfl⟩, by rw [HE.out]; exact ⟨_, _, _, y2, HC2.out, HF2.out, y3⟩, (K1.out.trans K2.out).trans y4⟩
end Go.Proofs.YtmmkebdaijmpiaaGreat
