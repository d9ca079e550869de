/- The walk of AddFlag: a flag that lies in memory already is put into the set's maps and row. -/
import Derived.Test.YtcpjdgbnfjdakaaParse
namespace Go.Proofs.Ytcpjdgbnfjdakaa
open Go.RowKit
set_option linter.unusedVariables false
set_option linter.unusedSimpArgs false

theorem mk_form {D : St} {w : World} (h : Inv D w) (ha : D.fm = none) : Inv { D with fm := some w.heap.size, formL := [] } ((w.setCell ⟨D.F, 8, none⟩ (.map (some w.heap.size))).alloc (.map #[] 0)) := by
  have lF := lt_of_block h.hF
  have h1 : Inv D (w.alloc (.map #[] 0)) := h.later ((Below.refl _ w).alloc (Nat.le_refl _) _)
  rw [← World.setCell_alloc_past _ _ _ _ lF]
  refine h1.setF { D with fm := some w.heap.size, formL := [] } 8 (.map (some w.heap.size)) rfl rfl rfl rfl rfl rfl rfl rfl rfl rfl rfl rfl rfl h1.hact (.inr ⟨_, rfl, MapIs.empty w⟩) h1.hsm h1.rArgs h1.rOa h1.rOf ?_ ?_ h.bsm h.doa h.dof
  · intro b e
    refine ⟨(h.bact b e).1, fun e' => ?_, (h.bact b e).2.2⟩
    cases e'
    have := h.hact.lt _ e; omega
  · intro b e
    cases e
    refine ⟨h.bel.size, fun e => ?_⟩
    have := h.hsm.lt _ e; omega
theorem mk_short {D : St} {w : World} (h : Inv D w) (ha : D.sm = none) : Inv { D with sm := some w.heap.size, shortL := [] } ((w.setCell ⟨D.F, 11, none⟩ (.map (some w.heap.size))).alloc (.map #[] 0)) := by
  have lF := lt_of_block h.hF
  have h1 : Inv D (w.alloc (.map #[] 0)) := h.later ((Below.refl _ w).alloc (Nat.le_refl _) _)
  rw [← World.setCell_alloc_past _ _ _ _ lF]
  refine h1.setF { D with sm := some w.heap.size, shortL := [] } 11 (.map (some w.heap.size)) rfl rfl rfl rfl rfl rfl rfl rfl rfl rfl rfl rfl rfl h1.hact h1.hfm (.inr ⟨_, rfl, MapIs.empty w⟩) h1.rArgs h1.rOa h1.rOf ?_ ?_ ?_ h.doa h.dof
  · intro b e
    refine ⟨(h.bact b e).1, (h.bact b e).2.1, fun e' => ?_⟩
    cases e'
    have := h.hact.lt _ e; omega
  · intro b e
    refine ⟨(h.bfm b e).1, fun e' => ?_⟩
    cases e'
    have := h.hfm.lt _ e; omega
  · intro b e
    cases e
    exact h.bel.size
theorem put_form {D : St} {w : World} (h : Inv D w) {am : Nat} (ha : D.fm = some am) (k : ByteArray) (v : Value) (hn : mapFind k D.formL 0 = none) :
    ∃ w', (Instr.mapUpdate 133 (.map (some am)) (.string k) v).run Try.prog w = .ok () w' ∧ Inv { D with formL := D.formL ++ [(k, v)] } w' := by
  have hm : MapIs strKey w am D.formL := by
    rcases h.hfm with ⟨e, _⟩ | ⟨b, e, hb⟩
    · rw [e] at ha; cases ha
    · rw [e] at ha; cases ha; exact hb
  obtain ⟨o, h1, h2⟩ := run_mapUpdate_map (P := Try.prog) (T := 133) (kt := 118) (et := 91) hm (by kernel_rfl) (by kernel_rfl) k v
  rw [mapPut_new k v _ 0 hn] at h2
  exact ⟨_, h1, h.putForm am ha o _ h2⟩
theorem put_short {D : St} {w : World} (h : Inv D w) {am : Nat} (ha : D.sm = some am) (k : UInt8) (v : Value) (hn : mapFind k D.shortL 0 = none) :
    ∃ w', (Instr.mapUpdate 134 (.map (some am)) (.int .u8 k.toNat) v).run Try.prog w = .ok () w' ∧ Inv { D with shortL := D.shortL ++ [(k, v)] } w' := by
  have hm : MapIs byteKey w am D.shortL := by
    rcases h.hsm with ⟨e, _⟩ | ⟨b, e, hb⟩
    · rw [e] at ha; cases ha
    · rw [e] at ha; cases ha; exact hb
  obtain ⟨o, h1, h2⟩ := run_mapUpdate_map (P := Try.prog) (T := 134) (kt := 5) (et := 91) hm (by kernel_rfl) (by kernel_rfl) k v
  rw [mapPut_new k v _ 0 hn] at h2
  exact ⟨_, h1, h.putShort am ha o _ h2⟩
theorem lookup_sm {D : St} {w : World} (h : Inv D w) (c : UInt8) (hn : mapFind c D.shortL 0 = none) :
    (Instr.lookup 134 (.map D.sm) (.int .u8 c.toNat) true).run Try.prog w = .ok (.tuple #[.pointer none, .bool false]) w := by
  have e : lookedUp (.pointer none) true (mapFind c D.shortL 0) = .tuple #[.pointer none, .bool false] := by rw [hn]; rfl
  rcases h.hsm with ⟨e1, e2⟩ | ⟨b, e1, hb⟩
  · rw [e1, ← e, e2]
    exact run_lookup_nilmap (P := Try.prog) (K := byteKey) (T := 134) (kt := 5) (et := 91) (z := .pointer none) (by kernel_rfl) (by kernel_rfl) (by kernel_rfl) c true
  · rw [e1, ← e]
    exact run_lookup_map (P := Try.prog) (T := 134) (kt := 5) (et := 91) (z := .pointer none) hb (by kernel_rfl) (by kernel_rfl) (by kernel_rfl) c true
theorem lookup_fm {D : St} {w : World} (h : Inv D w) (n : ByteArray) (hn : mapFind n D.formL 0 = none) :
    (Instr.lookup 133 (.map D.fm) (.string n) true).run Try.prog w = .ok (.tuple #[.pointer none, .bool false]) w := by
  rw [lookup_form h, hn]; rfl

/-- A name is written into a flag. -/
theorem name_put {D : St} {w : World} (h : Inv D w) {i : Nat} {x : FlagR} (hx : D.rs[i]? = some x) (n : ByteArray) : Inv { D with rs := D.rs.set i { x with nm := n } } (w.setCell ⟨x.fb, 0, none⟩ (.string n)) :=
  h.setFlag i x { x with nm := n } hx 0 (.string n) rfl rfl rfl rfl rfl

theorem of_end {D : St} {w w2 : World} (h : Inv D w) {o : Obj} (p : Value) (hg : (w.alloc o).grownBy w2 D.ofv.ownBlock) (g cap : Nat) (hat : D.ofv.ownBlock = some g ∨ g = w.heap.size + 1)
    (hr : w2.ownsRow D.base 91 1 (.slice (some ⟨g, 0, none⟩) (D.ofL.length + 1) cap) (D.ofL.length + 1) (D.ofL ++ [p])) :
    w2.heap[D.F]? = some (.cells (fsCells D) 136 (0, 0)) ∧ (∀ (j : Nat) (r : FlagR), D.rs[j]? = some r → w2.heap[r.fb]? = some (.cells (flagCells r) 129 (0, 0))) ∧
      Inv { D with ofv := .slice (some ⟨g, 0, none⟩) (D.ofL.length + 1) cap, ofL := D.ofL ++ [p] } (w2.setCell ⟨D.F, 9, none⟩ (.slice (some ⟨g, 0, none⟩) (D.ofL.length + 1) cap)) := by
  have h1 : Inv D (w.alloc o) := h.later ((Below.refl _ w).alloc (Nat.le_refl _) o)
  have e1 : (D.ofL ++ [p]).length = D.ofL.length + 1 := by simp
  obtain ⟨a, b, c⟩ := h1.appendOf hg g cap (D.ofL ++ [p]) (by simpa using hat) (by rw [e1]; exact hr)
  rw [e1] at c
  exact ⟨a, b, c⟩
theorem of_cells {D : St} {x : FlagR} {w2 : World} (hF : w2.heap[D.F]? = some (.cells (fsCells D) 136 (0, 0))) (hx2 : w2.heap[x.fb]? = some (.cells (flagCells x) 129 (0, 0))) :
    w2.cell? ⟨D.F, 9, none⟩ = some D.ofv ∧ w2.frozen? ⟨D.F, 9, none⟩ = false ∧ w2.cell? ⟨D.F, 11, none⟩ = some (.map D.sm) ∧ w2.frozen? ⟨D.F, 11, none⟩ = false ∧ w2.cell? ⟨x.fb, 1, none⟩ = some (.string x.short) ∧ x.fb ≠ D.F ∧ D.F < w2.heap.size ∧ x.fb < w2.heap.size := by
  refine ⟨by simp [World.cell?, hF, fsCells], by simp [World.frozen?, hF], by simp [World.cell?, hF, fsCells], by simp [World.frozen?, hF], by simp [World.cell?, hx2, flagCells], cells_ne hx2 hF (by decide), lt_of_block hF, lt_of_block hx2⟩

set_option maxRecDepth 100000 in
set_option maxHeartbeats 6400000 in
theorem addFlag_any {D : St} {w : World} {lo da : Bool} (h : Inv D w) (hno : NormIs D lo da) {i : Nat} {x : FlagR} (hx : D.rs[i]? = some x) (hz : x.nm.size ≤ 4294967295) (hf : mapFind (foldG lo da x.nm) D.formL 0 = none)
    (hs : x.short.size = 0 ∨ ∃ h1 : x.short.size = 1, mapFind (x.short[0]'(by omega)) D.shortL 0 = none) (ho : D.ofL.length ≤ 1099511627776) :
    Calls Try.prog 103 #[ptr D.F, ptr x.fb] w fun e w' => e = .returned (.tuple #[]) ∧ ∃ fm sm ofv, Inv { D with rs := D.rs.set i { x with nm := foldG lo da x.nm }, fm := fm, formL := D.formL ++ [(foldG lo da x.nm, ptr x.fb)], ofv := ofv, ofL := D.ofL ++ [ptr x.fb], sm := sm, shortL := D.shortL ++ ((byteO x.short 0).map fun c => (c, ptr x.fb)).toList } w' := by
  obtain ⟨i0, hi0, hz0, hz1, hz2⟩ := info_parts infoP
  have hlt := (List.getElem?_eq_some_iff.1 hx).1
  have hx' : (D.rs.set i { x with nm := foldG lo da x.nm })[i]? = some { x with nm := foldG lo da x.nm } := List.getElem?_set_self hlt
  have hn1 : ∀ w, Sem.run Try.prog (binOp BinOp.eql 133 (Value.map none) (Value.map none)) w = .ok (.bool true) w := fun _ => by kernel_rfl
  have hn2 : ∀ b w, Sem.run Try.prog (binOp BinOp.eql 133 (Value.map (some b)) (Value.map none)) w = .ok (.bool false) w := fun _ _ => by kernel_rfl
  have hm1 : ∀ w, Sem.run Try.prog (binOp BinOp.eql 134 (Value.map none) (Value.map none)) w = .ok (.bool true) w := fun _ => by kernel_rfl
  have hm2 : ∀ b w, Sem.run Try.prog (binOp BinOp.eql 134 (Value.map (some b)) (Value.map none)) w = .ok (.bool false) w := fun _ _ => by kernel_rfl
  have hmm := @run_makeMap Try.prog
  have c0 := h.cellFlag hx 0 (.string x.nm) rfl
  go_enter Try.func103, Try.ntmps103
  go_wp2_with fail
  refine (normalize_any h hno x.nm hz).mono ?_
  rintro e w1 ⟨rfl, hb1⟩
  have i1 := h.later hb1
  clear c0 h
  have hl := lookup_fm i1 _ hf
  have d8 := i1.cellF 8 (.map D.fm) rfl
  have z8 := i1.freeF 8
  have e0 := i1.cellFlag hx 0 (.string x.nm) rfl
  have y0 := i1.freeFlag hx 0
  have lF := World.block_lt_of_cell? w1 _ d8
  have lX := World.block_lt_of_cell? w1 _ e0
  have hne : x.fb ≠ D.F := cells_ne (i1.hfl i x hx) i1.hF (by decide)
  cases ha : D.fm with
  | some am =>
    rw [ha] at d8 hl
    have i2 := name_put i1 hx (foldG lo da x.nm)
    obtain ⟨w4, hmu, i4⟩ := put_form i2 (am := am) ha (foldG lo da x.nm) (ptr x.fb) hf
    have d9 := i4.cellF 9 D.ofv rfl
    have rOf : w4.ownsRow D.base 91 1 D.ofv D.ofL.length D.ofL := i4.rOf
    rcases hs with hs0 | ⟨hs1, hs2⟩
    · have hq : (x.short.toList == []) = true := by rw [toList_nil]; exact decide_eq_true hs0
      have HS0 := Lib.hid (show ((byteO x.short 0).map fun c => (c, ptr x.fb)).toList = [] by rw [byteO_none (by omega)]; rfl)
      have HS0 := Lib.hid (show D.shortL ++ ((byteO x.short 0).map fun c => (c, ptr x.fb)).toList = D.shortL by rw [HS0.out, List.append_nil])
      go_wp2_with (
        at_builtin
        refine wpList_append_lies _ (by rfl) _ _ _ (by rfl) D.base 91 i0 _ 1 8 Try.underlying85 hi0 hz0 hz1 hz2 rfl (by omega) D.ofv D.ofL.length D.ofL (by rfl) (rOf.alloc _)
          ⟨w4.heap.size, 0, none⟩ 1 1 [ptr x.fb] (by rfl) (by rfl) (World.news_of_block (cs := #[ptr x.fb]) (t := 91) (fr := (0, 0)) (heap_alloc_new w4 _)) (by simp [Value.oneCell'])
          (by omega) (by unfold maxLen; omega) (by omega) (by have := i4.bel.size; simp only [World.size_alloc]; exact Nat.le_succ_of_le this) (w4.heap.size + 1) (by simp only [World.size_alloc]) ?_
        intro gg cap w5 hown1 hgrow hat hlt5
        obtain ⟨yF, yfl, yI⟩ := of_end i4 (ptr x.fb) hgrow gg cap hat hown1
        obtain ⟨f1, f2, f3, f4, f5, f6, f7, f8⟩ := of_cells (x := { x with nm := foldG lo da x.nm }) yF (yfl i _ hx'))
      (try simp only [Exit.inBlock, Exit.then])
      refine bodyPost_ret (results_none rfl _ _ _) rfl ?_
      rw [HS0.out]
      exact ⟨rfl, _, _, _, yI⟩
    · have hq : (x.short.toList == []) = false := by rw [toList_nil]; exact decide_eq_false (by omega)
      have HS0 := Lib.hid (show D.shortL ++ ((byteO x.short 0).map fun c => (c, ptr x.fb)).toList = D.shortL ++ [(x.short[0], ptr x.fb)] by rw [byteO_some (by omega)]; rfl)
      have q1 : ¬ (1 : Int) < (x.short.size : Int) := by omega
      have q0 : (0 : Int) < (x.short.size : Int) := by omega
      obtain ⟨c, hc⟩ : ∃ c, x.short[0] = c := ⟨_, rfl⟩
      rw [hc] at hs2
      rw [hc] at HS0
      cases hsm : D.sm with
      | some sb =>
        go_wp2_with (
          at_builtin
          refine wpList_append_lies _ (by rfl) _ _ _ (by rfl) D.base 91 i0 _ 1 8 Try.underlying85 hi0 hz0 hz1 hz2 rfl (by omega) D.ofv D.ofL.length D.ofL (by rfl) (rOf.alloc _)
            ⟨w4.heap.size, 0, none⟩ 1 1 [ptr x.fb] (by rfl) (by rfl) (World.news_of_block (cs := #[ptr x.fb]) (t := 91) (fr := (0, 0)) (heap_alloc_new w4 _)) (by simp [Value.oneCell'])
            (by omega) (by unfold maxLen; omega) (by omega) (by have := i4.bel.size; simp only [World.size_alloc]; exact Nat.le_succ_of_le this) (w4.heap.size + 1) (by simp only [World.size_alloc]) ?_
          intro gg cap w5 hown1 hgrow hat hlt5
          obtain ⟨yF, yfl, yI⟩ := of_end i4 (ptr x.fb) hgrow gg cap hat hown1
          obtain ⟨f1, f2, f3, f4, f5, f6, f7, f8⟩ := of_cells (x := { x with nm := foldG lo da x.nm }) yF (yfl i _ hx')
          have hl7 := lookup_sm yI c hs2
          obtain ⟨w8, hmu8, i8⟩ := put_short yI (am := sb) hsm c (ptr x.fb) hs2
          simp only [hsm] at hl7 f3)
        go_end0
        rw [HS0.out]
        exact ⟨rfl, _, _, _, i8⟩
      | none =>
        have hshL : D.shortL = [] := by
          rcases i1.hsm with ⟨_, e⟩ | ⟨b, e, _⟩
          · exact e
          · rw [hsm] at e; cases e
        go_wp2_with (
          at_builtin
          refine wpList_append_lies _ (by rfl) _ _ _ (by rfl) D.base 91 i0 _ 1 8 Try.underlying85 hi0 hz0 hz1 hz2 rfl (by omega) D.ofv D.ofL.length D.ofL (by rfl) (rOf.alloc _)
            ⟨w4.heap.size, 0, none⟩ 1 1 [ptr x.fb] (by rfl) (by rfl) (World.news_of_block (cs := #[ptr x.fb]) (t := 91) (fr := (0, 0)) (heap_alloc_new w4 _)) (by simp [Value.oneCell'])
            (by omega) (by unfold maxLen; omega) (by omega) (by have := i4.bel.size; simp only [World.size_alloc]; exact Nat.le_succ_of_le this) (w4.heap.size + 1) (by simp only [World.size_alloc]) ?_
          intro gg cap w5 hown1 hgrow hat hlt5
          obtain ⟨yF, yfl, yI⟩ := of_end i4 (ptr x.fb) hgrow gg cap hat hown1
          obtain ⟨f1, f2, f3, f4, f5, f6, f7, f8⟩ := of_cells (x := { x with nm := foldG lo da x.nm }) yF (yfl i _ hx')
          have i7 := mk_short yI hsm
          rw [size_setCell] at i7
          have hl7 := lookup_sm i7 c rfl
          obtain ⟨w8, hmu8, i8⟩ := put_short i7 rfl c (ptr x.fb) rfl
          simp only [hsm] at f3)
        go_end0
        rw [List.append_cancel_left HS0.out]
        exact ⟨rfl, _, _, _, i8⟩
  | none =>
    rw [ha] at d8 hl
    have hfmL : D.formL = [] := by
      rcases i1.hfm with ⟨_, e⟩ | ⟨b, e, _⟩
      · exact e
      · rw [ha] at e; cases e
    have i2 := name_put (mk_form i1 ha) hx (foldG lo da x.nm)
    rw [World.setCell_alloc_past _ _ _ _ (by rw [size_setCell]; exact lX)] at i2
    obtain ⟨w4, hmu, i4⟩ := put_form i2 (am := w1.heap.size) rfl (foldG lo da x.nm) (ptr x.fb) rfl
    have d9 := i4.cellF 9 D.ofv rfl
    have rOf : w4.ownsRow D.base 91 1 D.ofv D.ofL.length D.ofL := i4.rOf
    rcases hs with hs0 | ⟨hs1, hs2⟩
    · have hq : (x.short.toList == []) = true := by rw [toList_nil]; exact decide_eq_true hs0
      have HS0 := Lib.hid (show ((byteO x.short 0).map fun c => (c, ptr x.fb)).toList = [] by rw [byteO_none (by omega)]; rfl)
      have HS0 := Lib.hid (show D.shortL ++ ((byteO x.short 0).map fun c => (c, ptr x.fb)).toList = D.shortL by rw [HS0.out, List.append_nil])
      go_wp2_with (
        at_builtin
        refine wpList_append_lies _ (by rfl) _ _ _ (by rfl) D.base 91 i0 _ 1 8 Try.underlying85 hi0 hz0 hz1 hz2 rfl (by omega) D.ofv D.ofL.length D.ofL (by rfl) (rOf.alloc _)
          ⟨w4.heap.size, 0, none⟩ 1 1 [ptr x.fb] (by rfl) (by rfl) (World.news_of_block (cs := #[ptr x.fb]) (t := 91) (fr := (0, 0)) (heap_alloc_new w4 _)) (by simp [Value.oneCell'])
          (by omega) (by unfold maxLen; omega) (by omega) (by have := i4.bel.size; simp only [World.size_alloc]; exact Nat.le_succ_of_le this) (w4.heap.size + 1) (by simp only [World.size_alloc]) ?_
        intro gg cap w5 hown1 hgrow hat hlt5
        obtain ⟨yF, yfl, yI⟩ := of_end i4 (ptr x.fb) hgrow gg cap hat hown1
        obtain ⟨f1, f2, f3, f4, f5, f6, f7, f8⟩ := of_cells (x := { x with nm := foldG lo da x.nm }) yF (yfl i _ hx'))
      (try simp only [Exit.inBlock, Exit.then])
      refine bodyPost_ret (results_none rfl _ _ _) rfl ?_
      rw [HS0.out]
      try rw [hfmL]
      exact ⟨rfl, _, _, _, yI⟩
    · have hq : (x.short.toList == []) = false := by rw [toList_nil]; exact decide_eq_false (by omega)
      have HS0 := Lib.hid (show D.shortL ++ ((byteO x.short 0).map fun c => (c, ptr x.fb)).toList = D.shortL ++ [(x.short[0], ptr x.fb)] by rw [byteO_some (by omega)]; rfl)
      have q1 : ¬ (1 : Int) < (x.short.size : Int) := by omega
      have q0 : (0 : Int) < (x.short.size : Int) := by omega
      obtain ⟨c, hc⟩ : ∃ c, x.short[0] = c := ⟨_, rfl⟩
      rw [hc] at hs2
      rw [hc] at HS0
      cases hsm : D.sm with
      | some sb =>
        go_wp2_with (
          at_builtin
          refine wpList_append_lies _ (by rfl) _ _ _ (by rfl) D.base 91 i0 _ 1 8 Try.underlying85 hi0 hz0 hz1 hz2 rfl (by omega) D.ofv D.ofL.length D.ofL (by rfl) (rOf.alloc _)
            ⟨w4.heap.size, 0, none⟩ 1 1 [ptr x.fb] (by rfl) (by rfl) (World.news_of_block (cs := #[ptr x.fb]) (t := 91) (fr := (0, 0)) (heap_alloc_new w4 _)) (by simp [Value.oneCell'])
            (by omega) (by unfold maxLen; omega) (by omega) (by have := i4.bel.size; simp only [World.size_alloc]; exact Nat.le_succ_of_le this) (w4.heap.size + 1) (by simp only [World.size_alloc]) ?_
          intro gg cap w5 hown1 hgrow hat hlt5
          obtain ⟨yF, yfl, yI⟩ := of_end i4 (ptr x.fb) hgrow gg cap hat hown1
          obtain ⟨f1, f2, f3, f4, f5, f6, f7, f8⟩ := of_cells (x := { x with nm := foldG lo da x.nm }) yF (yfl i _ hx')
          have hl7 := lookup_sm yI c hs2
          obtain ⟨w8, hmu8, i8⟩ := put_short yI (am := sb) hsm c (ptr x.fb) hs2
          simp only [hsm] at hl7 f3)
        go_end0
        rw [HS0.out]
        try rw [hfmL]
        exact ⟨rfl, _, _, _, i8⟩
      | none =>
        have hshL : D.shortL = [] := by
          rcases i1.hsm with ⟨_, e⟩ | ⟨b, e, _⟩
          · exact e
          · rw [hsm] at e; cases e
        go_wp2_with (
          at_builtin
          refine wpList_append_lies _ (by rfl) _ _ _ (by rfl) D.base 91 i0 _ 1 8 Try.underlying85 hi0 hz0 hz1 hz2 rfl (by omega) D.ofv D.ofL.length D.ofL (by rfl) (rOf.alloc _)
            ⟨w4.heap.size, 0, none⟩ 1 1 [ptr x.fb] (by rfl) (by rfl) (World.news_of_block (cs := #[ptr x.fb]) (t := 91) (fr := (0, 0)) (heap_alloc_new w4 _)) (by simp [Value.oneCell'])
            (by omega) (by unfold maxLen; omega) (by omega) (by have := i4.bel.size; simp only [World.size_alloc]; exact Nat.le_succ_of_le this) (w4.heap.size + 1) (by simp only [World.size_alloc]) ?_
          intro gg cap w5 hown1 hgrow hat hlt5
          obtain ⟨yF, yfl, yI⟩ := of_end i4 (ptr x.fb) hgrow gg cap hat hown1
          obtain ⟨f1, f2, f3, f4, f5, f6, f7, f8⟩ := of_cells (x := { x with nm := foldG lo da x.nm }) yF (yfl i _ hx')
          have i7 := mk_short yI hsm
          rw [size_setCell] at i7
          have hl7 := lookup_sm i7 c rfl
          obtain ⟨w8, hmu8, i8⟩ := put_short i7 rfl c (ptr x.fb) rfl
          simp only [hsm] at f3)
        go_end0
        rw [List.append_cancel_left HS0.out]
        try rw [hfmL]
        exact ⟨rfl, _, _, _, i8⟩
end Go.Proofs.Ytcpjdgbnfjdakaa
