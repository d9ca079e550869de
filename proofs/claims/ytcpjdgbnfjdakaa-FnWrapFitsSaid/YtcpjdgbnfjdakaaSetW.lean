/- The walk of (*FlagSet).Set: a flag of the set takes a text, or refuses it. -/
import Derived.Test.YtcpjdgbnfjdakaaOwn
import Derived.Test.YtcpjdgbnfjdakaaReady
namespace Go.Proofs.Ytcpjdgbnfjdakaa
open Go.RowKit
set_option linter.unusedVariables false
set_option linter.unusedSimpArgs false

theorem set_core (l : List FlagR) (i : Nat) (x x' : FlagR) (hx : l[i]? = some x) (h : x'.core = x.core) : (l.set i x').map FlagR.core = l.map FlagR.core := by
  apply List.ext_getElem?
  intro j
  rw [List.getElem?_map, List.getElem?_map, List.getElem?_set]
  by_cases e : i = j
  · subst e
    obtain ⟨h1, h2⟩ := List.getElem?_eq_some_iff.1 hx
    simp [h, h1, h2]
  · simp [e]

theorem mk_act {D : St} {w : World} (h : Inv D w) (ha : D.act = none) : Inv { D with act := some w.heap.size, actL := [] } ((w.alloc (.map #[] 0)).setCell ⟨D.F, 5, none⟩ (.map (some w.heap.size))) := by
  have h1 : Inv D (w.alloc (.map #[] 0)) := h.later ((Below.refl _ w).alloc (Nat.le_refl _) _)
  refine h1.setF { D with act := some w.heap.size, actL := [] } 5 (.map (some w.heap.size)) rfl rfl rfl rfl rfl rfl rfl rfl rfl rfl rfl rfl rfl (.inr ⟨_, rfl, MapIs.empty w⟩) h1.hfm h1.hsm h1.rArgs h1.rOa h1.rOf ?_ h.bfm h.bsm h.doa h.dof
  intro b e
  cases e
  refine ⟨h.bel.size, fun e => ?_, fun e => ?_⟩
  · have := h.hfm.lt _ e; omega
  · have := h.hsm.lt _ e; omega

theorem put_act {D : St} {w : World} (h : Inv D w) {am : Nat} (ha : D.act = some am) (k : ByteArray) (v : Value) :
    ∃ w', (Instr.mapUpdate 133 (.map (some am)) (.string k) v).run Try.prog w = .ok () w' ∧ Inv { D with actL := mapPut k v D.actL } w' := by
  have hm : MapIs strKey w am D.actL := by
    rcases h.hact with ⟨e, _⟩ | ⟨b, e, hb⟩
    · rw [e] at ha; cases ha
    · rw [e] at ha; cases ha; exact hb
  obtain ⟨o, h1, h2⟩ := run_mapUpdate_map (P := Try.prog) (T := 133) (kt := 118) (et := 91) hm (by kernel_rfl) (by kernel_rfl) k v
  exact ⟨_, h1, h.putAct am ha o _ h2⟩

theorem find_form {D : St} {w : World} {s : SetD} (h : Inv D w) (k : Ready D s) {i : Nat} {x : FlagR} (hx : D.rs[i]? = some x) :
    (Instr.lookup 133 (.map D.fm) (.string (s.fold x.nm)) true).run Try.prog w = .ok (.tuple #[ptr x.fb, .bool true]) w := by
  have hf := k.own hx
  rcases h.hfm with ⟨_, e⟩ | ⟨b, e, hb⟩
  · rw [e] at hf; simp [mapFind] at hf
  · rw [e]
    have := run_lookup_map (P := Try.prog) (T := 133) (kt := 118) (et := 91) (z := .pointer none) hb (by kernel_rfl) (by kernel_rfl) (by kernel_rfl) (s.fold x.nm) true
    rw [hf] at this
    exact this

theorem Inv.cellFlag {D : St} {w : World} (h : Inv D w) {i : Nat} {x : FlagR} (hx : D.rs[i]? = some x) (j : Nat) (v : Value) (hv : (flagCells x)[j]? = some v) : w.cell? ⟨x.fb, j, none⟩ = some v := by
  simp [World.cell?, h.hfl i x hx, hv]
theorem Inv.freeFlag {D : St} {w : World} (h : Inv D w) {i : Nat} {x : FlagR} (hx : D.rs[i]? = some x) (j : Nat) : w.frozen? ⟨x.fb, j, none⟩ = false := by
  simp [World.frozen?, h.hfl i x hx]

set_option maxRecDepth 100000 in
theorem set_no {D : St} {w : World} {s : SetD} (h : Inv D w) (k : Ready D s) {i : Nat} {x : FlagR} (hx : D.rs[i]? = some x) (v : ByteArray) (hb : hasB x.bad v = true) :
    Calls Try.prog 95 #[ptr D.F, .string x.nm, .string v] w fun e w' => ∃ b y, e = .returned (.iface 141 (ptr b)) ∧ Inv D w' ∧ w'.heap[b]? = some (.cells #[ptr x.fb, .string v, y] 158 (0, 0)) := by
  obtain ⟨s1, s2, s3⟩ := k.small i x hx
  have hm : ∀ w, (method 305 121 (ptr x.ob) "Set").run Try.prog w = .ok (150, ptr x.ob) w := fun _ => by kernel_rfl
  have hne : ∀ w, Sem.run Try.prog (binOp BinOp.neq 83 (.iface 97 (.agg #[])) Value.nilIface) w = .ok (.bool true) w := fun _ => by kernel_rfl
  go_enter Try.func95, Try.ntmps95
  go_wp2_with fail
  refine (normalize_any h k.norm x.nm s1).mono ?_
  rintro e w1 ⟨rfl, hb1⟩
  have i1 := h.later hb1
  have c8 := i1.cellF 8 (.map D.fm) rfl
  have hl := find_form i1 k hx
  have c3 := i1.cellFlag hx 3 (.iface 121 (ptr x.ob)) rfl
  simp only [SetD.fold] at hl
  go_wp2_with fail
  refine (ownSet_no i1 hx v s3 hb).mono ?_
  rintro e w2 ⟨rfl, rfl⟩
  go_wp2_with fail
  go_ret
  refine ⟨_, _, rfl, i1.later ?_, heap_at _ _ _ rfl⟩
  exact (Below.refl _ _).alloc (Nat.le_refl _) _

set_option maxRecDepth 100000 in
theorem set_had {D : St} {w : World} {s : SetD} (h : Inv D w) (k : Ready D s) {i : Nat} {x : FlagR} (hx : D.rs[i]? = some x) (v : ByteArray) (hb : hasB x.bad v = false) (hg : D.given.length ≤ 1099511627776) (hc : x.chg = true) :
    Calls Try.prog 95 #[ptr D.F, .string x.nm, .string v] w fun e w' => e = .returned .nilIface ∧ ∃ sv, Inv { D with saidV := sv, given := D.given ++ [(i, v)] } w' := by
  obtain ⟨s1, s2, s3⟩ := k.small i x hx
  have hm : ∀ w, (method 305 121 (ptr x.ob) "Set").run Try.prog w = .ok (150, ptr x.ob) w := fun _ => by kernel_rfl
  have hne : ∀ w, Sem.run Try.prog (binOp BinOp.neq 83 Value.nilIface Value.nilIface) w = .ok (.bool false) w := fun _ => by kernel_rfl
  go_enter Try.func95, Try.ntmps95
  go_wp2_with fail
  refine (normalize_any h k.norm x.nm s1).mono ?_
  rintro e w1 ⟨rfl, hb1⟩
  have i1 := h.later hb1
  have c8 := i1.cellF 8 (.map D.fm) rfl
  have hl := find_form i1 k hx
  have c3 := i1.cellFlag hx 3 (.iface 121 (ptr x.ob)) rfl
  simp only [SetD.fold] at hl
  go_wp2_with fail
  refine (ownSet_yes i1 hx v s3 hb hg).mono ?_
  rintro e w2 ⟨rfl, sv, i2⟩
  have c5 := i2.cellFlag hx 5 (.bool x.chg) rfl
  rw [hc] at c5
  go_wp2_with fail
  go_ret
  exact ⟨rfl, sv, i2⟩

/-- The end of a first setting: the flag is put into its row, and marked. -/
theorem oa_end {D : St} {w w2 : World} (h : Inv D w) {o : Obj} {i : Nat} {x : FlagR} (hx : D.rs[i]? = some x) (hg : (w.alloc o).grownBy w2 D.oav.ownBlock) (g cap : Nat) (hat : D.oav.ownBlock = some g ∨ g = w.heap.size + 1)
    (hr : w2.ownsRow D.base 91 1 (.slice (some ⟨g, 0, none⟩) (D.oaL.length + 1) cap) (D.oaL.length + 1) (D.oaL ++ [ptr x.fb])) :
    w2.heap[D.F]? = some (.cells (fsCells D) 136 (0, 0)) ∧ (∀ (j : Nat) (r : FlagR), D.rs[j]? = some r → w2.heap[r.fb]? = some (.cells (flagCells r) 129 (0, 0))) ∧
      Inv { D with oav := .slice (some ⟨g, 0, none⟩) (D.oaL.length + 1) cap, oaL := D.oaL ++ [ptr x.fb], rs := D.rs.set i { x with chg := true } } ((w2.setCell ⟨D.F, 6, none⟩ (.slice (some ⟨g, 0, none⟩) (D.oaL.length + 1) cap)).setCell ⟨x.fb, 5, none⟩ (.bool true)) := by
  have h1 : Inv D (w.alloc o) := h.later ((Below.refl _ w).alloc (Nat.le_refl _) o)
  have e1 : (D.oaL ++ [ptr x.fb]).length = D.oaL.length + 1 := by simp
  obtain ⟨a, b, c⟩ := h1.appendOa hg g cap (D.oaL ++ [ptr x.fb]) (by simpa using hat) (by rw [e1]; exact hr)
  rw [e1] at c
  exact ⟨a, b, c.setFlag i x { x with chg := true } hx 5 (.bool true) rfl rfl rfl rfl rfl⟩

theorem put_end {D : St} {w w2 : World} (h : Inv D w) {i : Nat} {x : FlagR} (hx : D.rs[i]? = some x) (hF : w2.heap[D.F]? = some (.cells (fsCells D) 136 (0, 0))) (hx2 : w2.heap[x.fb]? = some (.cells (flagCells x) 129 (0, 0))) :
    w2.cell? ⟨D.F, 6, none⟩ = some D.oav ∧ w2.frozen? ⟨D.F, 6, none⟩ = false ∧ w2.cell? ⟨x.fb, 5, none⟩ = some (.bool x.chg) ∧ w2.frozen? ⟨x.fb, 5, none⟩ = false ∧ x.fb ≠ D.F := by
  refine ⟨by simp [World.cell?, hF, fsCells], by simp [World.frozen?, hF], by simp [World.cell?, hx2, flagCells], by simp [World.frozen?, hx2], cells_ne hx2 hF (by decide)⟩

set_option maxRecDepth 100000 in
set_option maxHeartbeats 3200000 in
theorem set_new {D : St} {w : World} {s : SetD} (h : Inv D w) (k : Ready D s) {i : Nat} {x : FlagR} (hx : D.rs[i]? = some x) (v : ByteArray) (hb : hasB x.bad v = false) (hg : D.given.length ≤ 1099511627776) (ho : D.oaL.length ≤ 1099511627776) (hc : x.chg = false) :
    Calls Try.prog 95 #[ptr D.F, .string x.nm, .string v] w fun e w' => e = .returned .nilIface ∧ ∃ sv a al ov, Inv { D with saidV := sv, given := D.given ++ [(i, v)], act := a, actL := al, oav := ov, oaL := D.oaL ++ [ptr x.fb], rs := D.rs.set i { x with chg := true } } w' := by
  obtain ⟨s1, s2, s3⟩ := k.small i x hx
  obtain ⟨i0, hi0, hz0, hz1, hz2⟩ := info_parts infoP
  have hm : ∀ w, (method 305 121 (ptr x.ob) "Set").run Try.prog w = .ok (150, ptr x.ob) w := fun _ => by kernel_rfl
  have hne : ∀ w, Sem.run Try.prog (binOp BinOp.neq 83 Value.nilIface Value.nilIface) w = .ok (.bool false) w := fun _ => by kernel_rfl
  have hn1 : ∀ w, Sem.run Try.prog (binOp BinOp.eql 133 (Value.map none) (Value.map none)) w = .ok (.bool true) w := fun _ => by kernel_rfl
  have hn2 : ∀ b w, Sem.run Try.prog (binOp BinOp.eql 133 (Value.map (some b)) (Value.map none)) w = .ok (.bool false) w := fun _ _ => by kernel_rfl
  have hmm := @run_makeMap Try.prog
  go_enter Try.func95, Try.ntmps95
  go_wp2_with fail
  refine (normalize_any h k.norm x.nm s1).mono ?_
  rintro e w1 ⟨rfl, hb1⟩
  have i1 := h.later hb1
  have c8 := i1.cellF 8 (.map D.fm) rfl
  have hl := find_form i1 k hx
  have c3 := i1.cellFlag hx 3 (.iface 121 (ptr x.ob)) rfl
  simp only [SetD.fold] at hl
  go_wp2_with fail
  refine (ownSet_yes i1 hx v s3 hb hg).mono ?_
  rintro e w2 ⟨rfl, sv, i2⟩
  have c5 := i2.cellFlag hx 5 (.bool x.chg) rfl
  rw [hc] at c5
  have d5 := i2.cellF 5 (.map D.act) rfl
  have z5 := i2.freeF 5
  clear hl c8 c3 hb1 i1 h
  cases ha : D.act with
  | some am =>
    rw [ha] at d5
    obtain ⟨w4, hmu, i4⟩ := put_act i2 ha (foldG s.lo s.da x.nm) (ptr x.fb)
    have d6 := i4.cellF 6 D.oav rfl
    have rOa : w4.ownsRow D.base 91 1 D.oav D.oaL.length D.oaL := i4.rOa
    go_wp2_with (
      at_builtin
      refine wpList_append_lies _ (by rfl) _ _ _ (by rfl) D.base 91 i0 _ 1 8 Try.underlying85 hi0 hz0 hz1 hz2 rfl (by omega) D.oav D.oaL.length D.oaL (by rfl) (rOa.alloc _)
        ⟨w4.heap.size, 0, none⟩ 1 1 [ptr x.fb] (by rfl) (by rfl) (World.news_of_block (cs := #[ptr x.fb]) (t := 91) (fr := (0, 0)) (heap_alloc_new w4 _)) (by simp [Value.oneCell'])
        (by omega) (by unfold maxLen; omega) (by omega) (by have := i4.bel.size; simp only [World.size_alloc]; exact Nat.le_succ_of_le this) (w4.heap.size + 1) (by simp only [World.size_alloc]) ?_
      intro gg cap w5 hown1 hgrow hat hlt
      obtain ⟨yF, yfl, yI⟩ := oa_end i4 hx hgrow gg cap hat hown1
      obtain ⟨f1, f2, f3, f4, f5⟩ := put_end i4 hx yF (yfl i x hx))
    go_ret
    exact ⟨rfl, sv, _, _, _, yI⟩
  | none =>
    rw [ha] at d5
    have lF := World.block_lt_of_cell? w2 _ d5
    have i3 := mk_act i2 ha
    rw [World.setCell_alloc_past _ _ _ _ lF] at i3
    obtain ⟨w4, hmu, i4⟩ := put_act i3 rfl (foldG s.lo s.da x.nm) (ptr x.fb)
    have d6 := i4.cellF 6 D.oav rfl
    have rOa : w4.ownsRow D.base 91 1 D.oav D.oaL.length D.oaL := i4.rOa
    go_wp2_with (
      at_builtin
      refine wpList_append_lies _ (by rfl) _ _ _ (by rfl) D.base 91 i0 _ 1 8 Try.underlying85 hi0 hz0 hz1 hz2 rfl (by omega) D.oav D.oaL.length D.oaL (by rfl) (rOa.alloc _)
        ⟨w4.heap.size, 0, none⟩ 1 1 [ptr x.fb] (by rfl) (by rfl) (World.news_of_block (cs := #[ptr x.fb]) (t := 91) (fr := (0, 0)) (heap_alloc_new w4 _)) (by simp [Value.oneCell'])
        (by omega) (by unfold maxLen; omega) (by omega) (by have := i4.bel.size; simp only [World.size_alloc]; exact Nat.le_succ_of_le this) (w4.heap.size + 1) (by simp only [World.size_alloc]) ?_
      intro gg cap w5 hown1 hgrow hat hlt
      obtain ⟨yF, yfl, yI⟩ := oa_end i4 hx hgrow gg cap hat hown1
      obtain ⟨f1, f2, f3, f4, f5⟩ := put_end i4 hx yF (yfl i x hx))
    go_ret
    exact ⟨rfl, sv, _, _, _, yI⟩
end Go.Proofs.Ytcpjdgbnfjdakaa
