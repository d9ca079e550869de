/- A flag's value that is a list: a struct of a pointer to the list's slice and whether it was set; what its methods leave. -/
import Derived.Test.YtmmkebdaijmpiaaGreatSayM
import Derived.Laws.MakeOwn
namespace Go.Proofs.YtmmkebdaijmpiaaGreat
open Go.RowKit
set_option linter.unusedVariables false
set_option linter.unusedSimpArgs false

/-- The value's struct at vb, of type tV, points to the slice at pb, of type tS, whose elements, of type e, are the call's own. -/
structure LV (tV tS e : TypeId) (base vb pb : Nat) (ch : Bool) (pv : Value) (l : List Value) (w : World) : Prop where
  v : w.heap[vb]? = some (.cells #[.pointer (some ⟨pb, 0, none⟩), .bool ch] tV (0, 0))
  p : w.heap[pb]? = some (.cells #[pv] tS (0, 0))
  row : w.ownsRow base e 1 pv l.length l
theorem LV.later {tV tS e : TypeId} {base vb pb : Nat} {ch : Bool} {pv : Value} {l : List Value} {w w' : World} (h : LV tV tS e base vb pb ch pv l w) (hb : Below w.heap.size w w') : LV tV tS e base vb pb ch pv l w' :=
  ⟨(hb.block _ (lt_of_block h.v)).trans h.v, (hb.block _ (lt_of_block h.p)).trans h.p, row_grow h.row hb⟩
theorem LV.grown {tV tS e T : TypeId} {base base' vb pb sz n : Nat} {ch : Bool} {pv row : Value} {l xs : List Value} {w w' : World} (h : LV tV tS e base vb pb ch pv l w) (hg : w.grownBy w' row.ownBlock) (hr : w.ownsRow base' T sz row n xs) (h1 : tV ≠ T) (h2 : tS ≠ T) (h3 : e ≠ T) : LV tV tS e base vb pb ch pv l w' :=
  ⟨(hg.block _ (lt_of_block h.v) (fun q => row_ne h.v hr h1 q.symm)).trans h.v, (hg.block _ (lt_of_block h.p) (fun q => row_ne h.p hr h2 q.symm)).trans h.p,
    ownsRow_at h.row fun g hg' => by
      obtain ⟨_, c, hc⟩ := ownsRow_cells h.row hg'
      exact hg.block g (lt_of_block hc) (fun q => row_ne hc hr h3 q.symm)⟩

/-- What a method leaves of all else. -/
structure Moved (vb pb : Nat) (pv pv' : Value) (w w' : World) : Prop where
  os : w'.os = w.os
  tape : w'.tape = w.tape
  output : w'.output = w.output
  size : w.heap.size ≤ w'.heap.size
  block : ∀ b, b < w.heap.size → b ≠ vb → b ≠ pb → some b ≠ pv.ownBlock → w'.heap[b]? = w.heap[b]?
  own : pv'.ownBlock = pv.ownBlock ∨ ∀ b, pv'.ownBlock = some b → w.heap.size ≤ b
theorem Moved.below {vb pb : Nat} {pv pv' : Value} {w w' : World} {base : Nat} (h : Moved vb pb pv pv' w w') (h1 : base ≤ vb) (h2 : base ≤ pb) (h3 : ∀ b, pv.ownBlock = some b → base ≤ b) (h4 : base ≤ w.heap.size) : Below base w w' :=
  ⟨h.os, h.tape, h.output, h.size, fun b hb => h.block b (by omega) (by omega) (by omega) (fun q => by have := h3 b q.symm; omega)⟩
theorem Moved.same {vb pb : Nat} {pv : Value} {w w' : World} (h : Below w.heap.size w w') : Moved vb pb pv pv w w' :=
  ⟨h.os, h.tape, h.output, h.size, fun b hb _ _ _ => h.block b hb, .inl rfl⟩
theorem Moved.snap {vb pb : Nat} {pv pv' : Value} {w w' : World} (h : Moved vb pb pv pv' w w') {e tV tS : TypeId} {c1 c2 : Array Value} {z1 z2 : Nat × Nat} (hv : w.heap[vb]? = some (.cells c1 tV z1)) (hp : w.heap[pb]? = some (.cells c2 tS z2)) (h1 : tV ≠ e) (h2 : tS ≠ e) {v : Value} {l : List Value} (hs : Snap e w (fun b => some b = pv.ownBlock) v l) : Snap e w' (fun b => some b = pv'.ownBlock) v l :=
  hs.later fun b cs fz hb hx => ⟨h.block b (lt_of_block hb) (fun q => by subst q; rw [hv] at hb; cases hb; exact h1 rfl) (fun q => by subst q; rw [hp] at hb; cases hb; exact h2 rfl) hx, by
    rcases h.own with o | o
    · rw [o]; exact hx
    · intro q
      have := o b q.symm
      have := lt_of_block hb
      omega⟩
theorem Moved.row {vb pb : Nat} {pv pv' : Value} {w w' : World} (h : Moved vb pb pv pv' w w') {e tV tS T : TypeId} {c1 c2 : Array Value} {z1 z2 : Nat × Nat} {b1 b2 n1 n2 s2 : Nat} {row : Value} {l xs : List Value} (hv : w.heap[vb]? = some (.cells c1 tV z1)) (hp : w.heap[pb]? = some (.cells c2 tS z2)) (hpv : w.ownsRow b1 e 1 pv n1 l) (hr : w.ownsRow b2 T s2 row n2 xs) (h1 : tV ≠ T) (h2 : tS ≠ T) (h3 : e ≠ T) : w'.ownsRow b2 T s2 row n2 xs :=
  ownsRow_at hr fun g hg => by
    obtain ⟨_, c, hc⟩ := ownsRow_cells hr hg
    exact h.block g (lt_of_block hc) (fun q => by subst q; rw [hv] at hc; cases hc; exact h1 rfl) (fun q => by subst q; rw [hp] at hc; cases hc; exact h2 rfl) (fun q => by
      obtain ⟨_, c', hc'⟩ := ownsRow_cells hpv q.symm
      rw [hc] at hc'; cases hc'; exact h3 rfl)

/-- What a method answers and leaves. -/
def Did (tV tS e : TypeId) (base vb pb : Nat) (pv : Value) (bad ch' : Bool) (l' : List Value) (w : World) (en : Ending) (w' : World) : Prop :=
  ∃ er pv', en = .returned er ∧ (if bad then ∃ t q, er = .iface t q else er = .nilIface) ∧ LV tV tS e base vb pb ch' pv' l' w' ∧ Moved vb pb pv pv' w w'

/-- Cells of a row being filled. -/
structure Fill (e : TypeId) (z : Value) (w0 : World) (g : Nat) (l : List Value) (k : Nat) (wr : World) : Prop where
  bel : Below w0.heap.size w0 wr
  row : wr.heap[g]? = some (.cells (l.take k ++ List.replicate (l.length - k) z).toArray e (0, 0))
  lo : w0.heap.size ≤ g
theorem Fill.cell {e : TypeId} {z : Value} {w0 : World} {g : Nat} {l : List Value} {k : Nat} {wr : World} (h : Fill e z w0 g l k wr) (hk : k < l.length) : wr.cell? ⟨g, k, none⟩ = some z := by
  refine cell_of h.row k z ?_
  have h1 : (l.take k).length = k := by simp; omega
  rw [List.getElem?_toArray, List.getElem?_append_right (by omega), h1, Nat.sub_self, List.getElem?_replicate, if_pos (by omega)]
theorem Fill.next {e : TypeId} {z : Value} {w0 : World} {g : Nat} {l : List Value} {k : Nat} {wr : World} (h : Fill e z w0 g l k wr) (hk : k < l.length) {v : Value} (hv : v = l[k]) : Fill e z w0 g l (k + 1) (wr.setCell ⟨g, k, none⟩ v) := by
  subst hv
  refine ⟨h.bel.setCell h.lo _, ?_, h.lo⟩
  rw [heap_set h.row k _]
  congr 2
  rw [List.setIfInBounds_toArray]
  congr 1
  have h1 : (l.take k).length = k := by simp; omega
  have h2 : (l.take (k + 1)).length = k + 1 := by simp; omega
  apply List.ext_getElem?
  intro i
  rw [List.getElem?_set]
  by_cases hi : k = i
  · subst hi
    rw [if_pos rfl, if_pos (by simp; omega), List.getElem?_append_left (by omega), List.getElem?_take, if_pos (by omega), List.getElem?_eq_getElem hk]
  · rw [if_neg hi]
    by_cases h3 : i < k
    · rw [List.getElem?_append_left (by omega), List.getElem?_append_left (by omega), List.getElem?_take, List.getElem?_take, if_pos h3, if_pos (by omega)]
    · rw [List.getElem?_append_right (by omega), List.getElem?_append_right (by omega), List.getElem?_replicate, List.getElem?_replicate, h1, h2]
      by_cases h4 : i < l.length
      · rw [if_pos (by omega), if_pos (by omega)]
      · rw [if_neg (by omega), if_neg (by omega)]
theorem Fill.full {e : TypeId} {z : Value} {w0 : World} {g : Nat} {l : List Value} {wr : World} (h : Fill e z w0 g l l.length wr) : wr.heap[g]? = some (.cells l.toArray e (0, 0)) := by
  have := h.row
  simpa using this
theorem Fill.owned {e : TypeId} {z : Value} {w0 : World} {g : Nat} {l : List Value} {wr : World} (h : Fill e z w0 g l l.length wr) (hl : l.length ≤ maxLen) {base : Nat} (hb : base ≤ w0.heap.size) : wr.ownsRow base e 1 (.slice (some ⟨g, 0, none⟩) l.length l.length) l.length l :=
  ⟨by simp, .inr ⟨g, l.length, _, rfl, Nat.le_trans hb h.lo, h.full, Nat.le_refl _, hl, by simp, by simp⟩⟩
theorem Fill.start {e : TypeId} {z : Value} {w0 w w' : World} {l : List Value} (hb : Below w0.heap.size w0 w) (hw : w' = w.alloc (.cells (Array.replicate l.length z) e)) : Fill e z w0 w.heap.size l 0 w' := by
  subst hw
  refine ⟨hb.alloc hb.size _, ?_, hb.size⟩
  rw [heap_at _ _ _ rfl]
  simp
theorem made_one (z : Value) (n : Nat) : madeCells #[z] n = Array.replicate n z := by
  apply Array.ext_getElem?
  intro i
  simp only [madeCells, Array.getElem?_map, Array.getElem?_range, Array.getElem?_replicate]
  by_cases h : i < n
  · rw [if_pos h, if_pos h]; simp [Nat.mod_one]
  · rw [if_neg h, if_neg h]; rfl
/-- A slice is made. -/
theorem make_full {P : Program} (w : World) {t e : TypeId} {z : Value} {bytes : Nat} (ht : P.underlying t = some (.slice e)) (hi : (P.info? e).map (fun i => (i.zero, i.size, i.bytes)) = some (some z, 1, bytes)) (hz : z.cells = #[z]) (n : Nat) (hb : bytes * n ≤ 281474976710656) (h63 : n ≤ 9223372036854775807) :
    (Instr.makeSlice t (.int .i64 (n : Int)) (.int .i64 (n : Int))).run P w = .ok (.slice (some ⟨w.heap.size, 0, none⟩) n n) (w.alloc (.cells (Array.replicate n z) e)) := by
  obtain ⟨i0, hi0, hz0, hz1, hz2⟩ := info_parts hi
  have := run_make (P := P) w t e i0 z ht hi0 hz0 .i64 .i64 n n (by omega) (by omega) (by rw [hz2]; rw [← Int.natCast_mul]; omega) (by omega)
  simp only [hz1, Int.toNat_natCast, Nat.mul_one, hz, made_one] at this
  exact this
theorem Fill.snap {e : TypeId} {z : Value} {w0 : World} {g : Nat} {l : List Value} {wr : World} (h : Fill e z w0 g l l.length wr) {A : Nat → Prop} (hA : ∀ b, A b → b < w0.heap.size) : Snap e wr A (.slice (some ⟨g, 0, none⟩) l.length l.length) l :=
  ⟨_, _, rfl, .inr ⟨g, _, _, rfl, h.full, fun q => Nat.lt_irrefl _ (Nat.lt_of_lt_of_le (hA g q) h.lo), fun i hi => by simp [hi]⟩⟩
theorem LV.own_lt {tV tS e : TypeId} {base vb pb : Nat} {ch : Bool} {pv : Value} {l : List Value} {w : World} (h : LV tV tS e base vb pb ch pv l w) {b : Nat} (hb : some b = pv.ownBlock) : b < w.heap.size := by
  obtain ⟨_, c, hc⟩ := ownsRow_cells h.row hb.symm
  exact lt_of_block hc
theorem row_lt {w : World} {base : Nat} {e : TypeId} {size : Nat} {v : Value} {n : Nat} {xs : List Value} (h : w.ownsRow base e size v n xs) {b : Nat} (hb : some b = v.ownBlock) : b < w.heap.size := by
  obtain ⟨_, c, hc⟩ := ownsRow_cells h hb.symm
  exact lt_of_block hc
end Go.Proofs.YtmmkebdaijmpiaaGreat
