/- The closure of impl.Visit that appends a flag's name. -/
import Derived.Test.YtmmkebdaijmpiaaGreatVSetW
namespace Go.Proofs.YtmmkebdaijmpiaaGreat
open Go.RowKit
set_option linter.unusedVariables false
set_option linter.unusedSimpArgs false

/-- Nothing that was there has turned but the block B. -/
structure Apart (B : Nat) (w0 w : World) : Prop where
  os : w.os = w0.os
  tape : w.tape = w0.tape
  output : w.output = w0.output
  size : w0.heap.size ≤ w.heap.size
  block : ∀ b, b < w0.heap.size → b ≠ B → w.heap[b]? = w0.heap[b]?
theorem Apart.of {B N : Nat} {w0 w : World} (h : Below N w0 w) (hN : w0.heap.size ≤ N) : Apart B w0 w := ⟨h.os, h.tape, h.output, h.size, fun b hb _ => h.block b (Nat.lt_of_lt_of_le hb hN)⟩
theorem Apart.later {B : Nat} {w0 w w1 : World} (h : Apart B w0 w) (k : Below w.heap.size w w1) : Apart B w0 w1 :=
  ⟨k.os.trans h.os, k.tape.trans h.tape, k.output.trans h.output, Nat.le_trans h.size k.size, fun b hb hne => (k.block b (Nat.lt_of_lt_of_le hb h.size)).trans (h.block b hb hne)⟩
theorem Apart.setCell {B : Nat} {w0 w : World} (h : Apart B w0 w) {b : Nat} (hb : w0.heap.size ≤ b ∨ b = B) (j : Nat) (v : Value) : Apart B w0 (w.setCell ⟨b, j, none⟩ v) := by
  refine ⟨h.os, h.tape, h.output, by rw [size_setCell]; exact h.size, fun x hx hne => (heap_ne w ⟨b, j, none⟩ v x ?_).trans (h.block x hx hne)⟩
  show x ≠ b
  rcases hb with hb | rfl
  · omega
  · exact hne
theorem Apart.grown {B : Nat} {w0 w w1 : World} (h : Apart B w0 w) {row : Option Nat} (k : w.grownBy w1 row) (hr : ∀ g, row = some g → w0.heap.size ≤ g) : Apart B w0 w1 :=
  ⟨k.os.trans h.os, k.tape.trans h.tape, k.output.trans h.output, Nat.le_trans h.size k.size, fun b hb hne => (k.block b (Nat.lt_of_lt_of_le hb h.size) (fun e => by have := hr b e.symm; omega)).trans (h.block b hb hne)⟩
/-- The texts in the box at B. -/
structure OutS (w0 : World) (B : Nat) (l : List ByteArray) (ov : Value) (w : World) : Prop where
  fr : Apart B w0 w
  box : w.heap[B]? = some (.cells #[ov] 23 (0, 0))
  row : w.ownsRow w0.heap.size 9 1 ov l.length (l.map Value.string)
/-- Rows of flags, and flags, stay. -/
structure KeepV (w w' : World) : Prop where
  size : w.heap.size ≤ w'.heap.size
  cells : ∀ (b : Nat) (c : Array Value) (t : TypeId), w.heap[b]? = some (Obj.cells c t (0, 0)) → t = 85 ∨ t = 80 → w'.heap[b]? = some (Obj.cells c t (0, 0))
theorem KeepV.trans {a b c : World} (h : KeepV a b) (k : KeepV b c) : KeepV a c := ⟨Nat.le_trans h.size k.size, fun x cs t hx ht => k.cells x cs t (h.cells x cs t hx ht) ht⟩
theorem KeepV.below {w w' : World} (h : Below w.heap.size w w') : KeepV w w' := ⟨h.size, fun b c t hb _ => (h.block b (lt_of_block hb)).trans hb⟩
theorem infoStrT : (Tryz.prog.info? 9).map (fun i => (i.zero, i.size, i.bytes)) = some (some (.string ⟨#[]⟩), 1, 16) := by kernel_rfl
section
variable {w0 w w1 : World} {B : Nat} {l : List ByteArray} {ov : Value}
theorem OutS.later (h : OutS w0 B l ov w) (hb : Below w.heap.size w w1) : OutS w0 B l ov w1 :=
  ⟨h.fr.later hb, (hb.block _ (lt_of_block h.box)).trans h.box, row_grow h.row hb⟩
theorem OutS.append (h : OutS w0 B l ov w) {o : Obj} {m : Nat} (hg : ((w.alloc o).drewN m).grownBy w1 ov.ownBlock) {g cap : Nat} (nm : ByteArray) (hr : w1.ownsRow w0.heap.size 9 1 (.slice (some ⟨g, 0, none⟩) (l.length + 1) cap) (l.length + 1) (l.map Value.string ++ [.string nm])) :
    w1.heap[B]? = some (.cells #[ov] 23 (0, 0)) ∧ OutS w0 B (l ++ [nm]) (.slice (some ⟨g, 0, none⟩) (l.length + 1) cap) (w1.setCell ⟨B, 0, none⟩ (.slice (some ⟨g, 0, none⟩) (l.length + 1) cap)) ∧ KeepV w (w1.setCell ⟨B, 0, none⟩ (.slice (some ⟨g, 0, none⟩) (l.length + 1) cap)) := by
  have h1 : OutS w0 B l ov ((w.alloc o).drewN m) := h.later (Below.drewN' ((Below.refl _ w).alloc (Nat.le_refl _) o))
  have oth : ∀ {b : Nat} {c : Array Value} {t : TypeId} {z : Nat × Nat}, ((w.alloc o).drewN m).heap[b]? = some (Obj.cells c t z) → t ≠ 9 → w1.heap[b]? = some (Obj.cells c t z) := fun {b c t z} hb ht => (hg.block _ (lt_of_block hb) (fun e => by
    obtain ⟨_, c', hc⟩ := ownsRow_cells h1.row e.symm
    rw [hc] at hb
    cases hb
    exact ht rfl)).trans hb
  have hB := oth h1.box (by decide)
  refine ⟨hB, ⟨?_, by rw [heap_set hB 0 _]; rfl, ?_⟩, ?_, fun b c t hb ht => ?_⟩
  · exact (h1.fr.grown hg (fun g hg' => (ownsRow_cells h1.row hg').1)).setCell (.inr rfl) 0 _
  · rw [List.map_append, List.length_append, List.length_singleton]
    refine ownsRow_at hr fun g' e => heap_ne _ _ _ _ ?_
    obtain ⟨_, c, hc⟩ := ownsRow_cells hr e
    exact Ne.symm (cells_ne hB hc (by decide))
  · rw [size_setCell]
    have := hg.size
    simp only [World.heap_drewN, World.size_alloc] at this
    omega
  · have hb1 := oth (heap_drew' (m := m) (heap_past' (o := o) (lt_of_block hb) hb)) (by rcases ht with rfl | rfl <;> decide)
    exact heap_ne' (cells_ne hb1 hB (by rcases ht with rfl | rfl <;> decide)) hb1
end

set_option maxRecDepth 100000 in
set_option maxHeartbeats 3200000 in
theorem told_any {w0 w : World} {B G : Nat} {l : List ByteArray} {ov : Value} (h : OutS w0 B l ov w) {nm sh : ByteArray} {iv : Value} {df no : ByteArray} {chg : Bool} (hG : w.heap[G]? = some (.cells (flV nm sh iv df no chg) 85 (0, 0))) (hl : l.length ≤ 1048576) :
    Calls Tryz.prog 29 #[ptr G, ptr B] w fun e w' => e = .returned (.tuple #[]) ∧ (∃ ov', OutS w0 B (l ++ [nm]) ov' w') ∧ KeepV w w' := by
  obtain ⟨i0, hi0, hz0, hz1, hz2⟩ := info_parts infoStrT
  have c0 := cell_of hG 0 (.string nm) rfl
  have d0 := cell_of_one h.box
  have e0 := free_of_one h.box
  have lB := lt_of_block h.box
  obtain ⟨a, c, rfl⟩ := row_form h.row
  have HO := Lib.hid (fun (m : Nat) (w1 : World) (g cap : Nat) => h.append (o := .cells #[.string nm] 9) (m := m) (w1 := w1) (g := g) (cap := cap))
  have hrow := h.row
  have hs0 := h.fr.size
  clear h hG
  unfold ptr at *
  go_enter Tryz.func29, Tryz.ntmps29
  go_region_law (
    refine step_append_lies _ (by rfl) _ _ _ (by rfl) w0.heap.size 9 i0 _ 1 16 Tryz.underlying23 hi0 hz0 hz1 hz2 rfl (by omega) (.slice a l.length c) l.length (l.map Value.string) (by rfl) ((hrow.alloc _).drew)
        ⟨w.heap.size, 0, none⟩ 1 1 [.string nm] (by rfl) (by rfl) (World.news_of_block (cs := #[.string nm]) (t := 9) (fr := (0, 0)) (heap_alloc_new w _)) (by simp [Value.oneCell'])
        (by omega) (by unfold maxLen; omega) (by omega) (by simp; exact Nat.le_succ_of_le hs0) (w.heap.size + 1) (by simp) ?_; intro gg cap w2 hown1 hgrow hat hlt; obtain ⟨yN, yI, yK⟩ := HO.out _ w2 gg cap hgrow nm hown1; have zc := cell_of_one yN; have zf := free_of_one yN; have zl := lt_of_block yN)
  all_goals (go_end0; exact ⟨rfl, ⟨_, yI⟩, yK⟩)
end Go.Proofs.YtmmkebdaijmpiaaGreat
