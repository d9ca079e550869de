/- The first flag of a set (package few) is added; what stays. (Printed by gen_oneu.py out of XOneS.) -/
import Derived.Test.YtioldikeiiibgaaGreatDoorOne
namespace Go.Proofs.YtioldikeiiibgaaGreatDoor
open Go.RowKit
set_option linter.unusedVariables false
set_option linter.unusedSimpArgs false

theorem infoFP : (Tryz.prog.info? 90).map (fun i => (i.zero, i.size, i.bytes)) = some (some (.pointer none), 1, 8) := by kernel_rfl

/-- What stays: all but two blocks. -/
structure Keep (F G : Nat) (w w' : World) : Prop where
  size : w.heap.size ≤ w'.heap.size
  block : ∀ b, b < w.heap.size → b ≠ F → b ≠ G → w'.heap[b]? = w.heap[b]?
theorem Keep.below {F G : Nat} {w w' : World} (h : Below w.heap.size w w') : Keep F G w w' := ⟨h.size, fun b hb _ _ => h.block b hb⟩
theorem Keep.trans {F G : Nat} {a b c : World} (h : Keep F G a b) (k : Keep F G b c) : Keep F G a c :=
  ⟨Nat.le_trans h.size k.size, fun i hi h1 h2 => (k.block i (Nat.lt_of_lt_of_le hi h.size) h1 h2).trans (h.block i hi h1 h2)⟩
theorem Keep.set {F G : Nat} {w : World} {b j : Nat} {v : Value} (h : b = F ∨ b = G) : Keep F G w (w.setCell ⟨b, j, none⟩ v) :=
  ⟨by rw [size_setCell]; exact Nat.le_refl _, fun i _ h1 h2 => heap_ne _ _ _ _ (by rcases h with rfl | rfl <;> assumption)⟩

set_option maxRecDepth 100000 in
/-- The first flag is added. -/
theorem addF_any {tP : TypeId} {iv : Value} {w0 : World} {F G P : Nat} {df : ByteArray} {pv : Value} (w : World) (hb : Below w0.heap.size w0 w) (hF : w.heap[F]? = some (.cells (fsC (.map none) (.slice none 0 0) (.map none) (.slice none 0 0)) 79 (0, 0)))
    (hG : w.heap[G]? = some (.cells (flC iv df ⟨#[]⟩ false) 100 (0, 0))) (hP : w.heap[P]? = some (.cells #[pv] tP (0, 0))) (lF : w0.heap.size ≤ F) (lG : w0.heap.size ≤ G) (lP : w0.heap.size ≤ P) (nFG : F ≠ G) (nFP : F ≠ P) (nGP : G ≠ P) :
    Calls Tryz.prog 83 #[ptr F, ptr G] w fun e w' => e = .returned (.tuple #[]) ∧ ∃ M ofv, OneX tP iv w0 F G M P df ⟨#[]⟩ false pv (.map none) (.slice none 0 0) ofv w' ∧ Keep F G w w' := by
  obtain ⟨i0, hi0, hz0, hz1, hz2⟩ := info_parts infoFP
  have hn1 : ∀ w, Sem.run Tryz.prog (binOp BinOp.eql 74 (Value.map none) (Value.map none)) w = .ok (.bool true) w := fun _ => by kernel_rfl
  have hmm := @run_makeMap Tryz.prog
  have c0 := cell_of hG 0 (.string X) rfl
  have CN := Lib.hid (norm_any F w hF X)
  have HK := Lib.hid (show ∀ W, Below w.heap.size w W → Below w0.heap.size w0 W ∧ W.heap[F]? = some (.cells (fsC (.map none) (.slice none 0 0) (.map none) (.slice none 0 0)) 79 (0, 0)) ∧ W.heap[G]? = some (.cells (flC iv df ⟨#[]⟩ false) 100 (0, 0)) ∧ W.heap[P]? = some (.cells #[pv] tP (0, 0)) from fun W h => ⟨hb.trans (h.mono hb.size), (h.block _ (lt_of_block hF)).trans hF, (h.block _ (lt_of_block hG)).trans hG, (h.block _ (lt_of_block hP)).trans hP⟩)
  clear hb hF hG hP
  unfold ptr X at *
  go_enter Tryz.func83, Tryz.ntmps83
  go_wp2_with fail
  refine CN.out.mono ?_
  rintro e w1 ⟨rfl, hb1⟩
  obtain ⟨kb, kF, kG, kP⟩ := HK.out w1 hb1
  have HK1 : Hid (Keep F G w w1) := Lib.hid (Keep.below hb1)
  clear c0 CN HK hb1
  have hl : (Instr.lookup 74 (.map none) (.string ⟨#[120]⟩) true).run Tryz.prog w1 = .ok (.tuple #[.pointer none, .bool false]) w1 :=
    run_lookup_nilmap (P := Tryz.prog) (K := strKey) (T := 74) (kt := 88) (et := 90) (z := .pointer none) (by kernel_rfl) (by kernel_rfl) (by kernel_rfl) ⟨#[120]⟩ true
  have d8 := cell_of kF 8 (.map none) rfl
  have z8 := frozen_of kF 8
  have e0 := cell_of kG 0 (.string ⟨#[120]⟩) rfl
  have y0 := frozen_of kG 0
  have lF1 := lt_of_block kF
  have lG1 := lt_of_block kG
  have lP1 := lt_of_block kP
  have nGF := Ne.symm nFG
  obtain ⟨WX, hWX⟩ : ∃ WX, WX = (((w1.setCell ⟨F, 8, none⟩ (.map (some w1.heap.size))).setCell ⟨G, 0, none⟩ (.string ⟨#[120]⟩)).alloc (.map #[] 0)) := ⟨_, rfl⟩
  have xs : WX.heap.size = w1.heap.size + 1 := by rw [hWX]; simp [size_setCell]
  have xM : MapIs strKey WX w1.heap.size [] := by
    rw [hWX]
    have := MapIs.empty (K := strKey) ((w1.setCell ⟨F, 8, none⟩ (.map (some w1.heap.size))).setCell ⟨G, 0, none⟩ (.string ⟨#[120]⟩))
    simpa [size_setCell] using this
  have xF : WX.heap[F]? = some (.cells (fsC (.map none) (.slice none 0 0) (.map (some w1.heap.size)) (.slice none 0 0)) 79 (0, 0)) := by
    rw [hWX]
    exact heap_past' (by simpa [size_setCell] using lF1) (heap_ne' nFG (heap_set kF 8 _))
  have xG : WX.heap[G]? = some (.cells (flC iv df ⟨#[]⟩ false) 100 (0, 0)) := by
    rw [hWX]
    exact heap_past' (by simpa [size_setCell] using lG1) (heap_set (heap_ne' nGF kG) 0 _)
  have xP : WX.heap[P]? = some (.cells #[pv] tP (0, 0)) := by
    rw [hWX]
    exact heap_past' (by simpa [size_setCell] using lP1) (heap_ne' (Ne.symm nGP) (heap_ne' (Ne.symm nFP) kP))
  have xb : Below w0.heap.size w0 WX := by
    rw [hWX]
    exact (((kb.setCell lF _).setCell lG _)).alloc (by simpa [size_setCell] using kb.size) _
  obtain ⟨o, hmu, xM2⟩ := run_mapUpdate_map (P := Tryz.prog) (T := 74) (kt := 88) (et := 90) xM (by kernel_rfl) (by kernel_rfl) ⟨#[120]⟩ (ptr G)
  obtain ⟨w4, hw4⟩ : ∃ w4, w4 = ({ WX with heap := WX.heap.setIfInBounds w1.heap.size o } : World) := ⟨_, rfl⟩
  rw [← hw4] at hmu xM2
  have HO : OneX tP iv w0 F G w1.heap.size P df ⟨#[]⟩ false pv (.map none) (.slice none 0 0) (.slice none 0 0) w4 := by
    rw [hw4]
    refine ⟨⟨xb.os, xb.tape, xb.output, by show _ ≤ (WX.heap.setIfInBounds _ o).size; rw [Array.size_setIfInBounds]; exact xb.size, fun b hb => (setBlock_ne (by have := kb.size; omega)).trans (xb.block b hb)⟩, (setBlock_ne (by omega)).trans xF, (setBlock_ne (by omega)).trans xG, ?_, (setBlock_ne (by omega)).trans xP, lF, lG, kb.size, lP, nFG, nFP, nGP⟩
    rw [← hw4]
    exact xM2
  have hmu' : (Instr.mapUpdate 74 (.map (some w1.heap.size)) (.string ⟨#[120]⟩) (.pointer (some ⟨G, 0, none⟩))).run Tryz.prog WX = .ok () w4 := hmu
  have HK4 : Hid (Keep F G w1 w4) := Lib.hid (by
    rw [hw4]
    refine ⟨by show _ ≤ (WX.heap.setIfInBounds _ o).size; rw [Array.size_setIfInBounds]; omega, fun b hb h1 h2 => ?_⟩
    rw [setBlock_ne (by omega), hWX, heap_past _ _ _ (by simpa [size_setCell] using hb)]
    exact (heap_ne _ _ _ _ h2).trans (heap_ne _ _ _ _ h1))
  rw [hWX] at hmu'
  have HOX := Lib.hid HO
  have d9 := HO.cF 9 (.slice none 0 0) rfl
  clear hw4 hWX xs xM xF xG xP xb xM2 kF kG kP HO hmu
  go_wp2_with (
    at_builtin
    refine wpList_append_lies _ (by rfl) _ _ _ (by rfl) w0.heap.size 90 i0 _ 1 8 Tryz.underlying75 hi0 hz0 hz1 hz2 rfl (by omega) (.slice none 0 0) 0 [] (by rfl) (World.ownsRow_nil _ _ _ _)
      ⟨w4.heap.size, 0, none⟩ 1 1 [.pointer (some ⟨G, 0, none⟩)] (by rfl) (by rfl) (World.news_of_block (cs := #[.pointer (some ⟨G, 0, none⟩)]) (t := 90) (fr := (0, 0)) (heap_alloc_new w4 _)) (by simp [Value.oneCell'])
      (by omega) (by unfold maxLen; omega) (by omega) (by have := HOX.out.bel.size; simp only [World.size_alloc]; exact Nat.le_succ_of_le this) (w4.heap.size + 1) (by simp only [World.size_alloc]) ?_
    intro gg cap w5 hown1 hgrow hat hlt5
    have hb5 : Below w4.heap.size w4 w5 := by
      have h1 : Below w4.heap.size w4 (w4.alloc (.cells #[.pointer (some ⟨G, 0, none⟩)] 90)) := by (repeat (first | (with_reducible exact Below.refl _ _) | (with_reducible assumption) | ((with_reducible refine Below.alloc ?_ ?_ _); rotate_left; focus ((try simp only [World.size_alloc, size_setCell, World.heap_drewN]); (try omega); done)) | ((with_reducible refine Below.setCell ?_ ?_ _); rotate_left; focus ((try simp only [World.size_alloc, size_setCell, World.heap_drewN]); (try omega); done)) | (with_reducible refine Below.drewN' ?_) | (with_reducible refine Below.drew ?_)))
      exact h1.trans (grownBy_below hgrow (fun k hk => by cases hk) h1.size)
    have H5 := HOX.out.later hb5
    have HK5 : Hid (Keep F G w w5) := Lib.hid ((HK1.out.trans HK4.out).trans (Keep.below hb5))
    have f1 := H5.cF 9 (.slice none 0 0) rfl
    have f2 := H5.zF 9
    have f3 := H5.cG 1 (.string ⟨#[]⟩) rfl
    have f4 := lt_of_block H5.hF
    have f5 := lt_of_block H5.hG)
  (try simp only [Exit.inBlock, Exit.then])
  refine bodyPost_ret (results_none rfl _ _ _) rfl ?_
  exact ⟨rfl, _, _, H5.setOf _, HK5.out.trans (Keep.set (.inl rfl))⟩
end Go.Proofs.YtioldikeiiibgaaGreatDoor
