/- A set of flags (package few) with any flags, as it lies in a world; what stays of all else. -/
import Derived.Test.YtmmkebdaijmpiaaGreatH
import Derived.Test.YtmmkebdaijmpiaaGreatMapsB
namespace Go.Proofs.YtmmkebdaijmpiaaGreat
open Go.RowKit
set_option linter.unusedVariables false
set_option linter.unusedSimpArgs false

def ptr (b : Nat) : Value := .pointer (some ⟨b, 0, none⟩)
/-- A map value, nil or made. -/
def MapOr {κ : Type} [DecidableEq κ] (K : KeyKind κ) (w : World) (m : Option Nat) (L : List (κ × Value)) : Prop :=
  (m = none ∧ L = []) ∨ ∃ b, m = some b ∧ MapIs K w b L
theorem MapOr.later {κ : Type} [DecidableEq κ] {K : KeyKind κ} {w w' : World} {m : Option Nat} {L : List (κ × Value)} (h : MapOr K w m L) (hk : ∀ b, m = some b → w'.heap[b]? = w.heap[b]?) : MapOr K w' m L := by
  rcases h with h | ⟨b, rfl, h⟩
  · exact .inl h
  · exact .inr ⟨b, rfl, h.at (hk b rfl)⟩
theorem MapOr.lt {κ : Type} [DecidableEq κ] {K : KeyKind κ} {w : World} {m : Option Nat} {L : List (κ × Value)} (h : MapOr K w m L) : ∀ b, m = some b → b < w.heap.size := by
  intro b e
  rcases h with ⟨e', _⟩ | ⟨b', e', h'⟩
  · rw [e'] at e; cases e
  · rw [e'] at e; cases e; exact h'.lt
theorem MapOr.ne {κ : Type} [DecidableEq κ] {K : KeyKind κ} {w : World} {m : Option Nat} {L : List (κ × Value)} (h : MapOr K w m L) {b : Nat} {c : Array Value} {t : TypeId} {z : Nat × Nat} (hb : w.heap[b]? = some (.cells c t z)) : ∀ a, m = some a → a ≠ b := by
  rintro a rfl
  rcases h with ⟨e, _⟩ | ⟨b', e, h'⟩
  · cases e
  · cases e; exact h'.ne hb
def fsN (fm : Option Nat) (ofv : Value) (sm : Option Nat) : Array Value := #[.bool true, .bool false, .bool false, .string ⟨#[]⟩, .bool false, .map none, .slice none 0 0, .slice none 0 0, .map fm, ofv, .slice none 0 0, .map sm, .slice none 0 0, .int .i64 (-1), .int .i64 0, .bool true, .nilFunc]

/-- The set at F: its map of names, its map of shorthands, its row of flags. -/
structure Many (w0 : World) (F : Nat) (fm : Option Nat) (fl : List (ByteArray × Value)) (sm : Option Nat) (sl : List (UInt8 × Value)) (ofv : Value) (ol : List Value) (w : World) : Prop where
  bel : Below w0.heap.size w0 w
  hF : w.heap[F]? = some (.cells (fsN fm ofv sm) 75 (0, 0))
  hfm : MapOr strKey w fm fl
  hsm : MapOr byteKey w sm sl
  rOf : w.ownsRow w0.heap.size 80 1 ofv ol.length ol
  hfl : ∀ x ∈ fl, ∃ fb cs, x.2 = ptr fb ∧ w.heap[fb]? = some (.cells cs 85 (0, 0)) ∧ cs[0]? = some (.string x.1) ∧ w0.heap.size ≤ fb
  lF : w0.heap.size ≤ F
  bfm : ∀ b, fm = some b → w0.heap.size ≤ b ∧ sm ≠ some b
  bsm : ∀ b, sm = some b → w0.heap.size ≤ b
/-- All blocks but sets and rows of flags stay. -/
structure KeepT (w w' : World) : Prop where
  size : w.heap.size ≤ w'.heap.size
  cells : ∀ (b : Nat) (c : Array Value) (t : TypeId) (z : Nat × Nat), w.heap[b]? = some (Obj.cells c t z) → t ≠ 75 → t ≠ 80 → w'.heap[b]? = some (Obj.cells c t z)
/-- .. and but the block G. -/
structure KeepG (G : Nat) (w w' : World) : Prop where
  size : w.heap.size ≤ w'.heap.size
  cells : ∀ (b : Nat) (c : Array Value) (t : TypeId) (z : Nat × Nat), w.heap[b]? = some (Obj.cells c t z) → t ≠ 75 → t ≠ 80 → b ≠ G → w'.heap[b]? = some (Obj.cells c t z)
theorem KeepT.refl (w : World) : KeepT w w := ⟨Nat.le_refl _, fun _ _ _ _ h _ _ => h⟩
theorem KeepT.trans {a b c : World} (h : KeepT a b) (k : KeepT b c) : KeepT a c := ⟨Nat.le_trans h.size k.size, fun x cs t z hx h1 h2 => k.cells x cs t z (h.cells x cs t z hx h1 h2) h1 h2⟩
theorem KeepT.below {w w' : World} (h : Below w.heap.size w w') : KeepT w w' := ⟨h.size, fun b _ _ _ hb _ _ => (h.block b (lt_of_block hb)).trans hb⟩
theorem KeepT.set {w : World} {b j : Nat} {c : Array Value} {z : Nat × Nat} (h : w.heap[b]? = some (.cells c 75 z)) (v : Value) : KeepT w (w.setCell ⟨b, j, none⟩ v) :=
  ⟨by rw [size_setCell]; exact Nat.le_refl _, fun x cs t' z' hx h1 _ => (heap_ne _ _ _ _ (by
    show x ≠ b
    rintro rfl
    rw [h] at hx
    cases hx
    exact h1 rfl)).trans hx⟩
theorem KeepT.setNew {w w' : World} {b j : Nat} (h : KeepT w w') (hb : w.heap.size ≤ b) (v : Value) : KeepT w (w'.setCell ⟨b, j, none⟩ v) :=
  ⟨by rw [size_setCell]; exact h.size, fun x cs t' z' hx h1 h2 => (heap_ne _ _ _ _ (by
    show x ≠ b
    have := lt_of_block hx
    omega)).trans (h.cells x cs t' z' hx h1 h2)⟩
theorem KeepT.putMap {κ : Type} [DecidableEq κ] {K : KeyKind κ} {w : World} {m : Nat} {L : List (κ × Value)} (h : MapIs K w m L) (o : Obj) : KeepT w { w with heap := w.heap.setIfInBounds m o } :=
  ⟨by show _ ≤ (w.heap.setIfInBounds m o).size; rw [Array.size_setIfInBounds]; exact Nat.le_refl _, fun b c t z hb _ _ => (setBlock_ne (fun e => h.ne hb e.symm)).trans hb⟩
theorem KeepT.grown {w w' : World} {v : Value} {B n : Nat} {xs : List Value} (h : w.grownBy w' v.ownBlock) (hr : w.ownsRow B 80 1 v n xs) : KeepT w w' :=
  ⟨h.size, fun b c t z hb _ h3 => (h.block b (lt_of_block hb) (by
    intro e
    obtain ⟨_, c', hc⟩ := ownsRow_cells hr e.symm
    rw [hc] at hb
    cases hb
    exact h3 rfl)).trans hb⟩
theorem KeepT.toG {w w' : World} (h : KeepT w w') (G : Nat) : KeepG G w w' := ⟨h.size, fun b c t z hb h1 h2 _ => h.cells b c t z hb h1 h2⟩
theorem KeepG.refl (G : Nat) (w : World) : KeepG G w w := (KeepT.refl w).toG G
theorem KeepG.trans {G : Nat} {a b c : World} (h : KeepG G a b) (k : KeepG G b c) : KeepG G a c := ⟨Nat.le_trans h.size k.size, fun x cs t z hx h1 h2 h3 => k.cells x cs t z (h.cells x cs t z hx h1 h2 h3) h1 h2 h3⟩
theorem KeepG.setG (G : Nat) (w : World) (j : Nat) (v : Value) : KeepG G w (w.setCell ⟨G, j, none⟩ v) :=
  ⟨by rw [size_setCell]; exact Nat.le_refl _, fun _ _ _ _ hx _ _ h3 => (heap_ne _ _ _ _ h3).trans hx⟩
/-- Rows of flags stay but one. -/
structure KeepO (row : Option Nat) (w w' : World) : Prop where
  cells : ∀ (b : Nat) (c : Array Value) (z : Nat × Nat), w.heap[b]? = some (Obj.cells c 80 z) → some b ≠ row → w'.heap[b]? = some (Obj.cells c 80 z)
theorem KeepO.refl (row : Option Nat) (w : World) : KeepO row w w := ⟨fun _ _ _ h _ => h⟩
theorem KeepO.trans {row : Option Nat} {a b c : World} (h : KeepO row a b) (k : KeepO row b c) : KeepO row a c := ⟨fun x cs z hx h1 => k.cells x cs z (h.cells x cs z hx h1) h1⟩
theorem KeepO.below {row : Option Nat} {w w' : World} (h : Below w.heap.size w w') : KeepO row w w' := ⟨fun b _ _ hb _ => (h.block b (lt_of_block hb)).trans hb⟩
theorem KeepO.set {row : Option Nat} {w : World} {b j : Nat} {c : Array Value} {t : TypeId} {z : Nat × Nat} (h : w.heap[b]? = some (.cells c t z)) (ht : t ≠ 80) (v : Value) : KeepO row w (w.setCell ⟨b, j, none⟩ v) :=
  ⟨fun x cs z' hx _ => (heap_ne _ _ _ _ (by
    show x ≠ b
    rintro rfl
    rw [h] at hx
    cases hx
    exact ht rfl)).trans hx⟩
theorem KeepO.block {row : Option Nat} {w w' : World} {m : Nat} {e : Array MapEntry} {cl : Nat} (hm : w.heap[m]? = some (.map e cl)) (h : ∀ b, b ≠ m → w'.heap[b]? = w.heap[b]?) : KeepO row w w' :=
  ⟨fun b c z hb _ => (h b (by rintro rfl; rw [hm] at hb; cases hb)).trans hb⟩
theorem KeepO.grown {w w' : World} {row : Option Nat} (h : w.grownBy w' row) : KeepO row w w' := ⟨fun b c z hb hne => (h.block b (lt_of_block hb) hne).trans hb⟩
/-- The block G is new. -/
theorem KeepG.new {w w' : World} {o : Obj} (h : KeepG w.heap.size (w.alloc o) w') : KeepT w w' :=
  ⟨Nat.le_trans (by simp only [World.size_alloc]; omega) h.size, fun b c t z hb h1 h2 => h.cells b c t z (heap_past' (lt_of_block hb) hb) h1 h2 (by have := lt_of_block hb; omega)⟩
section
variable {w0 : World} {F : Nat} {fm : Option Nat} {fl : List (ByteArray × Value)} {sm : Option Nat} {sl : List (UInt8 × Value)} {ofv : Value} {ol : List Value} {w w' : World}
theorem Many.cF (h : Many w0 F fm fl sm sl ofv ol w) (j : Nat) (v : Value) (hv : (fsN fm ofv sm)[j]? = some v) : w.cell? ⟨F, j, none⟩ = some v := cell_of h.hF j v hv
theorem Many.zF (h : Many w0 F fm fl sm sl ofv ol w) (j : Nat) : w.frozen? ⟨F, j, none⟩ = false := frozen_of h.hF j
/-- Where the blocks that the set speaks of stay. -/
theorem Many.move (h : Many w0 F fm fl sm sl ofv ol w) (hb : Below w0.heap.size w0 w') (hF : w'.heap[F]? = w.heap[F]?) (hm : ∀ b, fm = some b → w'.heap[b]? = w.heap[b]?) (hs : ∀ b, sm = some b → w'.heap[b]? = w.heap[b]?) (hr : ∀ g, ofv.ownBlock = some g → w'.heap[g]? = w.heap[g]?)
    (hx : ∀ (b : Nat) (c : Array Value), w.heap[b]? = some (Obj.cells c 85 (0, 0)) → w'.heap[b]? = w.heap[b]?) : Many w0 F fm fl sm sl ofv ol w' :=
  ⟨hb, hF.trans h.hF, h.hfm.later hm, h.hsm.later hs, ownsRow_at h.rOf hr, fun x hx' => by
    obtain ⟨fb, cs, e1, e2, e3, e4⟩ := h.hfl x hx'
    exact ⟨fb, cs, e1, (hx _ _ e2).trans e2, e3, e4⟩, h.lF, h.bfm, h.bsm⟩
theorem Many.later (h : Many w0 F fm fl sm sl ofv ol w) (hb : Below w.heap.size w w') : Many w0 F fm fl sm sl ofv ol w' :=
  h.move (h.bel.trans (hb.mono h.bel.size)) (hb.block _ (lt_of_block h.hF)) (fun b e => hb.block b (h.hfm.lt b e)) (fun b e => hb.block b (h.hsm.lt b e)) (fun g e => by
    obtain ⟨_, c, hc⟩ := ownsRow_cells h.rOf e
    exact hb.block g (lt_of_block hc)) (fun b c e => hb.block b (lt_of_block e))
/-- A cell of the FlagSet is written. -/
theorem Many.setF (h : Many w0 F fm fl sm sl ofv ol w) (j : Nat) (v : Value) {fm' : Option Nat} {fl' : List (ByteArray × Value)} {sm' : Option Nat} {sl' : List (UInt8 × Value)} (hc : (fsN fm ofv sm).setIfInBounds j v = fsN fm' ofv sm')
    (h1 : MapOr strKey w fm' fl') (h2 : MapOr byteKey w sm' sl') (hfl : ∀ x ∈ fl', x ∈ fl) (b1 : ∀ b, fm' = some b → w0.heap.size ≤ b ∧ sm' ≠ some b) (b2 : ∀ b, sm' = some b → w0.heap.size ≤ b) : Many w0 F fm' fl' sm' sl' ofv ol (w.setCell ⟨F, j, none⟩ v) := by
  have k : ∀ b, b ≠ F → (w.setCell ⟨F, j, none⟩ v).heap[b]? = w.heap[b]? := fun b hb => heap_ne _ _ _ _ hb
  refine ⟨h.bel.setCell h.lF _, by rw [heap_set h.hF j v, hc], h1.later fun b e => k b (h1.ne h.hF b e), h2.later fun b e => k b (h2.ne h.hF b e), ownsRow_at h.rOf fun g e => ?_, fun x hx => ?_, h.lF, b1, b2⟩
  · obtain ⟨_, c, hc⟩ := ownsRow_cells h.rOf e
    exact k g (Ne.symm (cells_ne h.hF hc (by decide)))
  · obtain ⟨fb, cs, e1, e2, e3, e4⟩ := h.hfl x (hfl x hx)
    exact ⟨fb, cs, e1, (k fb (cells_ne e2 h.hF (by decide))).trans e2, e3, e4⟩
theorem Many.mkForm (h : Many w0 F none fl sm sl ofv ol w) : Many w0 F (some w.heap.size) [] sm sl ofv ol ((w.alloc (.map #[] 0)).setCell ⟨F, 8, none⟩ (.map (some w.heap.size))) := by
  have h1 := h.later ((Below.refl _ w).alloc (Nat.le_refl _) (.map #[] 0))
  refine h1.setF 8 _ rfl (.inr ⟨_, rfl, MapIs.empty w⟩) h1.hsm (fun x hx => by simp at hx) (fun b e => ?_) h1.bsm
  cases e
  refine ⟨h.bel.size, fun e => ?_⟩
  have := h.hsm.lt _ e; omega
theorem Many.mkShort (h : Many w0 F fm fl none sl ofv ol w) : Many w0 F fm fl (some w.heap.size) [] ofv ol ((w.alloc (.map #[] 0)).setCell ⟨F, 11, none⟩ (.map (some w.heap.size))) := by
  have h1 := h.later ((Below.refl _ w).alloc (Nat.le_refl _) (.map #[] 0))
  refine h1.setF 11 _ rfl h1.hfm (.inr ⟨_, rfl, MapIs.empty w⟩) (fun x hx => hx) (fun b e => ?_) (fun b e => ?_)
  · refine ⟨(h.bfm b e).1, fun e' => ?_⟩
    cases e'
    have := h.hfm.lt _ e; omega
  · cases e
    exact h.bel.size
theorem Many.putForm {am : Nat} (h : Many w0 F (some am) fl sm sl ofv ol w) {o : Obj} {fl' : List (ByteArray × Value)} (hm : MapIs strKey { w with heap := w.heap.setIfInBounds am o } am fl') (hfl : ∀ x ∈ fl', ∃ fb cs, x.2 = ptr fb ∧ w.heap[fb]? = some (.cells cs 85 (0, 0)) ∧ cs[0]? = some (.string x.1) ∧ w0.heap.size ≤ fb) :
    Many w0 F (some am) fl' sm sl ofv ol { w with heap := w.heap.setIfInBounds am o } := by
  have k : ∀ b, b ≠ am → ({ w with heap := w.heap.setIfInBounds am o } : World).heap[b]? = w.heap[b]? := fun b hb => setBlock_ne hb
  have ne : ∀ {b : Nat} {c : Array Value} {t : TypeId} {z : Nat × Nat}, w.heap[b]? = some (Obj.cells c t z) → b ≠ am := fun hb => Ne.symm (h.hfm.ne hb am rfl)
  refine ⟨h.bel.trans ⟨rfl, rfl, rfl, by simp, fun b hb' => setBlock_ne (by have := (h.bfm am rfl).1; omega)⟩, (k _ (ne h.hF)).trans h.hF, .inr ⟨am, rfl, hm⟩, h.hsm.later fun b e => k b (fun e' => (h.bfm am rfl).2 (by rw [e, e'])), ownsRow_at h.rOf fun g e => ?_, fun x hx => ?_, h.lF, h.bfm, h.bsm⟩
  · obtain ⟨_, c, hc⟩ := ownsRow_cells h.rOf e
    exact k g (ne hc)
  · obtain ⟨fb, cs, e1, e2, e3, e4⟩ := hfl x hx
    exact ⟨fb, cs, e1, (k fb (ne e2)).trans e2, e3, e4⟩
theorem Many.putShort {am : Nat} (h : Many w0 F fm fl (some am) sl ofv ol w) {o : Obj} {sl' : List (UInt8 × Value)} (hm : MapIs byteKey { w with heap := w.heap.setIfInBounds am o } am sl') :
    Many w0 F fm fl (some am) sl' ofv ol { w with heap := w.heap.setIfInBounds am o } := by
  have k : ∀ b, b ≠ am → ({ w with heap := w.heap.setIfInBounds am o } : World).heap[b]? = w.heap[b]? := fun b hb => setBlock_ne hb
  have ne : ∀ {b : Nat} {c : Array Value} {t : TypeId} {z : Nat × Nat}, w.heap[b]? = some (Obj.cells c t z) → b ≠ am := fun hb => Ne.symm (h.hsm.ne hb am rfl)
  refine ⟨h.bel.trans ⟨rfl, rfl, rfl, by simp, fun b hb' => setBlock_ne (by have := h.bsm am rfl; omega)⟩, (k _ (ne h.hF)).trans h.hF, h.hfm.later fun b e => k b (fun e' => (h.bfm b e).2 (by rw [e'])), .inr ⟨am, rfl, hm⟩, ownsRow_at h.rOf fun g e => ?_, fun x hx => ?_, h.lF, h.bfm, h.bsm⟩
  · obtain ⟨_, c, hc⟩ := ownsRow_cells h.rOf e
    exact k g (ne hc)
  · obtain ⟨fb, cs, e1, e2, e3, e4⟩ := h.hfl x hx
    exact ⟨fb, cs, e1, (k fb (ne e2)).trans e2, e3, e4⟩
/-- The row of flags grows. -/
theorem Many.append {w1 : World} (h : Many w0 F fm fl sm sl ofv ol w) (hg : w.grownBy w1 ofv.ownBlock) {g cap : Nat} {ol' : List Value} (hr : w1.ownsRow w0.heap.size 80 1 (.slice (some ⟨g, 0, none⟩) ol'.length cap) ol'.length ol') :
    w1.heap[F]? = some (.cells (fsN fm ofv sm) 75 (0, 0)) ∧ Many w0 F fm fl sm sl (.slice (some ⟨g, 0, none⟩) ol'.length cap) ol' (w1.setCell ⟨F, 9, none⟩ (.slice (some ⟨g, 0, none⟩) ol'.length cap)) := by
  have cel : ∀ {b : Nat} {c : Array Value} {t : TypeId} {z : Nat × Nat}, w.heap[b]? = some (Obj.cells c t z) → t ≠ 80 → w1.heap[b]? = some (Obj.cells c t z) := fun hb ht => (hg.block _ (lt_of_block hb) (fun e => by
    obtain ⟨_, c', hc⟩ := ownsRow_cells h.rOf e.symm
    rw [hc] at hb
    cases hb
    exact ht rfl)).trans hb
  have mp : ∀ (b : Nat) (es : Array MapEntry) (cl : Nat), w.heap[b]? = some (Obj.map es cl) → w1.heap[b]? = w.heap[b]? := fun b es cl hb => hg.block b (by
    rcases Nat.lt_or_ge b w.heap.size with h' | h'
    · exact h'
    · rw [Array.getElem?_eq_none h'] at hb; cases hb) (fun e => by
    obtain ⟨_, c', hc⟩ := ownsRow_cells h.rOf e.symm
    rw [hc] at hb
    cases hb)
  have hF1 := cel h.hF (by decide)
  have k : ∀ b, b ≠ F → (w1.setCell ⟨F, 9, none⟩ (.slice (some ⟨g, 0, none⟩) ol'.length cap)).heap[b]? = w1.heap[b]? := fun b hb => heap_ne _ _ _ _ hb
  have mo : ∀ {κ : Type} [DecidableEq κ] {K : KeyKind κ} {m : Option Nat} {Lx : List (κ × Value)}, MapOr K w m Lx → MapOr K w1 m Lx := fun {_ _ _ m _} hm => by
    rcases hm with hm | ⟨b, rfl, es, cl, e1, e2⟩
    · exact .inl hm
    · exact .inr ⟨b, rfl, es, cl, (mp b es cl e1).trans e1, e2⟩
  have m1 := mo h.hfm
  have m2 := mo h.hsm
  refine ⟨hF1, ⟨?_, by rw [heap_set hF1 9 _]; rfl, m1.later fun b e => k b (m1.ne hF1 b e), m2.later fun b e => k b (m2.ne hF1 b e), ownsRow_at hr fun g' e => ?_, fun x hx => ?_, h.lF, h.bfm, h.bsm⟩⟩
  · exact Below.setCell (h.bel.trans (grownBy_below hg (fun b hb => by have := (ownsRow_cells h.rOf hb).1; exact this) h.bel.size)) h.lF _
  · obtain ⟨_, c, hc⟩ := ownsRow_cells hr e
    exact k g' (Ne.symm (cells_ne hF1 hc (by decide)))
  · obtain ⟨fb, cs, e1, e2, e3, e4⟩ := h.hfl x hx
    have e5 := cel e2 (by decide)
    exact ⟨fb, cs, e1, (k fb (cells_ne e5 hF1 (by decide))).trans e5, e3, e4⟩
end
end Go.Proofs.YtmmkebdaijmpiaaGreat
