/- A set of flags (package few) whose flags are set: its maps and rows, its flags. -/
import Derived.Test.YtmmkebdaijmpiaaGreatNFlagsV
namespace Go.Proofs.YtmmkebdaijmpiaaGreat
open Go.RowKit
set_option linter.unusedVariables false
set_option linter.unusedSimpArgs false

def fsV (so : Bool) (am : Option Nat) (oav : Value) (fm : Option Nat) (ofv : Value) (sm : Option Nat) : Array Value := #[.bool so, .bool false, .bool false, .string ⟨#[]⟩, .bool false, .map am, oav, .slice none 0 0, .map fm, ofv, .slice none 0 0, .map sm, .slice none 0 0, .int .i64 (-1), .int .i64 0, .bool true, .nilFunc]
def flV (nm sh : ByteArray) (iv : Value) (df no : ByteArray) (chg : Bool) : Array Value := #[.string nm, .string sh, .string ⟨#[]⟩, iv, .string df, .bool chg, .string no, .string ⟨#[]⟩, .bool false, .string ⟨#[]⟩, .map none]
/-- A flag as it lies, its value at P. -/
def FlagV (w0 : World) (x : DefD) (chg : Bool) (G : Nat) (w : World) : Prop :=
  ∃ (P : Nat) (df no : ByteArray), w0.heap.size ≤ P ∧ ((x.k = 0 ∧ w.heap[G]? = some (.cells (flV x.nm x.sh (ivS P) df no chg) 85 (0, 0)) ∧ ∃ s, w.heap[P]? = some (.cells #[.string s] 9 (0, 0))) ∨
    (x.k = 1 ∧ w.heap[G]? = some (.cells (flV x.nm x.sh (ivB P) df no chg) 85 (0, 0)) ∧ ∃ b, w.heap[P]? = some (.cells #[.bool b] 4 (0, 0))))
theorem FlagV.cells {w0 w : World} {x : DefD} {chg : Bool} {G : Nat} (h : FlagV w0 x chg G w) : ∃ iv df no, w.heap[G]? = some (.cells (flV x.nm x.sh iv df no chg) 85 (0, 0)) := by
  obtain ⟨P, df, no, _, ⟨_, h, _⟩ | ⟨_, h, _⟩⟩ := h
  · exact ⟨_, _, _, h⟩
  · exact ⟨_, _, _, h⟩
/-- Where blocks of flags, texts and bools stay. -/
theorem FlagV.move {w0 w w' : World} {x : DefD} {chg : Bool} {G : Nat} (h : FlagV w0 x chg G w) (hk : ∀ (b : Nat) (c : Array Value) (t : TypeId), w.heap[b]? = some (Obj.cells c t (0, 0)) → t = 85 ∨ t = 9 ∨ t = 4 → w'.heap[b]? = some (Obj.cells c t (0, 0))) : FlagV w0 x chg G w' := by
  obtain ⟨P, df, no, hP, ⟨e, h, s, hs⟩ | ⟨e, h, s, hs⟩⟩ := h
  · exact ⟨P, df, no, hP, .inl ⟨e, hk _ _ _ h (.inl rfl), s, hk _ _ _ hs (.inr (.inl rfl))⟩⟩
  · exact ⟨P, df, no, hP, .inr ⟨e, hk _ _ _ h (.inl rfl), s, hk _ _ _ hs (.inr (.inr rfl))⟩⟩
theorem FlagV.of {w0 w : World} {x : DefD} {G : Nat} (h : FlagD w0 x.nm x.sh x.k x.on x.tx G w) : FlagV w0 x false G w := by
  rcases h with ⟨e, h⟩ | ⟨e, h⟩
  · obtain ⟨P, lP, hG, hP⟩ := h.val
    exact ⟨P, _, _, lP, .inl ⟨e, hG, _, hP⟩⟩
  · obtain ⟨P, lP, hG, hP⟩ := h.val
    exact ⟨P, _, _, lP, .inr ⟨e, hG, _, hP⟩⟩

/-- What was set, as the map and the row of the set hold it. -/
def alA (es : List (DefD × Nat)) (acts : List Nat) : List (ByteArray × Value) := acts.map fun i => (es[i]!.1.nm, ptr es[i]!.2)
def oaA (es : List (DefD × Nat)) (acts : List Nat) : List Value := acts.map fun i => ptr es[i]!.2
/-- The set at F, its flags, those that were set. -/
structure VSet (w0 : World) (F : Nat) (so : Bool) (fm : Option Nat) (es : List (DefD × Nat)) (am : Option Nat) (oav ofv : Value) (sm : Option Nat) (acts : List Nat) (w : World) : Prop where
  bel : Below w0.heap.size w0 w
  lF : w0.heap.size ≤ F
  hF : w.heap[F]? = some (.cells (fsV so am oav fm ofv sm) 75 (0, 0))
  hfm : MapOr strKey w fm (flE es)
  ham : MapOr strKey w am (alA es acts)
  rOa : w.ownsRow w0.heap.size 80 1 oav acts.length (oaA es acts)
  bfm : ∀ b, fm = some b → w0.heap.size ≤ b
  bam : ∀ b, am = some b → w0.heap.size ≤ b ∧ fm ≠ some b
  flag : ∀ i (h : i < es.length), FlagV w0 es[i].1 (decide (i ∈ acts)) es[i].2 w
  lG : ∀ i (h : i < es.length), w0.heap.size ≤ es[i].2
  nodup : (es.map (·.2)).Nodup
  names : ∀ i j (hi : i < es.length) (hj : j < es.length), es[i].1.nm = es[j].1.nm → i = j
  alt : ∀ i ∈ acts, i < es.length
  and : acts.Nodup
section
variable {w0 : World} {F : Nat} {so : Bool} {fm : Option Nat} {es : List (DefD × Nat)} {am : Option Nat} {oav ofv : Value} {sm : Option Nat} {acts : List Nat} {w w' : World}
theorem VSet.cF (h : VSet w0 F so fm es am oav ofv sm acts w) (j : Nat) (v : Value) (hv : (fsV so am oav fm ofv sm)[j]? = some v) : w.cell? ⟨F, j, none⟩ = some v := cell_of h.hF j v hv
theorem VSet.zF (h : VSet w0 F so fm es am oav ofv sm acts w) (j : Nat) : w.frozen? ⟨F, j, none⟩ = false := frozen_of h.hF j
theorem VSet.later (h : VSet w0 F so fm es am oav ofv sm acts w) (hb : Below w.heap.size w w') : VSet w0 F so fm es am oav ofv sm acts w' :=
  ⟨h.bel.trans (hb.mono h.bel.size), h.lF, (hb.block _ (lt_of_block h.hF)).trans h.hF, h.hfm.later fun b e => hb.block b (h.hfm.lt b e), h.ham.later fun b e => hb.block b (h.ham.lt b e),
    row_grow h.rOa hb, h.bfm, h.bam, fun i hi => (h.flag i hi).move fun b c t hc _ => (hb.block _ (lt_of_block hc)).trans hc, h.lG, h.nodup, h.names, h.alt, h.and⟩
/-- A cell of the FlagSet is written. -/
theorem VSet.setF (h : VSet w0 F so fm es am oav ofv sm acts w) (j : Nat) (v : Value) {so' : Bool} {am' : Option Nat} {oav' : Value} (hc : (fsV so am oav fm ofv sm).setIfInBounds j v = fsV so' am' oav' fm ofv sm)
    (ha : MapOr strKey w am' (alA es acts)) (hr : w.ownsRow w0.heap.size 80 1 oav' acts.length (oaA es acts)) (hb : ∀ b, am' = some b → w0.heap.size ≤ b ∧ fm ≠ some b) : VSet w0 F so' fm es am' oav' ofv sm acts (w.setCell ⟨F, j, none⟩ v) := by
  have k : ∀ b, b ≠ F → (w.setCell ⟨F, j, none⟩ v).heap[b]? = w.heap[b]? := fun b hb => heap_ne _ _ _ _ hb
  refine ⟨h.bel.setCell h.lF _, h.lF, by rw [heap_set h.hF j v, hc], h.hfm.later fun b e => k b (h.hfm.ne h.hF b e), ha.later fun b e => k b (ha.ne h.hF b e), ownsRow_at hr fun g e => ?_, h.bfm, hb, fun i hi => (h.flag i hi).move fun b c t hc ht => (k b (cells_ne hc h.hF (by rcases ht with rfl | rfl | rfl <;> decide))).trans hc, h.lG, h.nodup, h.names, h.alt, h.and⟩
  obtain ⟨_, c, hc⟩ := ownsRow_cells hr e
  exact k g (cells_ne hc h.hF (by decide))
/-- A text or a bool beside is written. -/
theorem VSet.moved (h : VSet w0 F so fm es am oav ofv sm acts w) (hb : Below w0.heap.size w0 w') (hk : ∀ (b : Nat) (c : Array Value) (t : TypeId), w.heap[b]? = some (Obj.cells c t (0, 0)) → t = 75 ∨ t = 80 → w'.heap[b]? = some (Obj.cells c t (0, 0)))
    (hm : ∀ (b : Nat) (e : Array MapEntry) (c : Nat), w.heap[b]? = some (Obj.map e c) → w'.heap[b]? = some (Obj.map e c)) (hf : ∀ i (hi : i < es.length), FlagV w0 es[i].1 (decide (i ∈ acts)) es[i].2 w') : VSet w0 F so fm es am oav ofv sm acts w' := by
  have mo : ∀ {m : Option Nat} {L : List (ByteArray × Value)}, MapOr strKey w m L → MapOr strKey w' m L := fun {m L} hx => by
    rcases hx with hx | ⟨b, rfl, es, cl, e1, e2⟩
    · exact .inl hx
    · exact .inr ⟨b, rfl, es, cl, hm _ _ _ e1, e2⟩
  refine ⟨hb, h.lF, hk _ _ _ h.hF (.inl rfl), mo h.hfm, mo h.ham, ?_, h.bfm, h.bam, hf, h.lG, h.nodup, h.names, h.alt, h.and⟩
  refine ⟨h.rOa.1, ?_⟩
  rcases h.rOa.2 with h0 | ⟨b, cap, cur, e, hb', hh, hr⟩
  · exact .inl h0
  · exact .inr ⟨b, cap, cur, e, hb', hk _ _ _ hh (.inr rfl), hr⟩
/-- A flag is set for the first time. -/
theorem VSet.add {a g cap : Nat} {o ob : Obj} {w5 : World} (h : VSet w0 F so fm es (some a) oav ofv sm acts w) {i : Nat} (hi : i < es.length) (hni : i ∉ acts)
    (hm : MapIs strKey { w with heap := w.heap.setIfInBounds a o } a (alA es acts ++ [(es[i].1.nm, ptr es[i].2)])) (hg : (({ w with heap := w.heap.setIfInBounds a o } : World).alloc ob).grownBy w5 oav.ownBlock)
    (hr : w5.ownsRow w0.heap.size 80 1 (.slice (some ⟨g, 0, none⟩) (acts.length + 1) cap) (acts.length + 1) (oaA es acts ++ [ptr es[i].2])) :
    w5.heap[F]? = some (.cells (fsV so (some a) oav fm ofv sm) 75 (0, 0)) ∧ (∀ c, w.heap[es[i].2]? = some (.cells c 85 (0, 0)) → w5.heap[es[i].2]? = some (.cells c 85 (0, 0))) ∧ es[i].2 ≠ F ∧
      VSet w0 F so fm es (some a) (.slice (some ⟨g, 0, none⟩) (acts.length + 1) cap) ofv sm (acts ++ [i]) ((w5.setCell ⟨F, 6, none⟩ (.slice (some ⟨g, 0, none⟩) (acts.length + 1) cap)).setCell ⟨es[i].2, 5, none⟩ (.bool true)) := by
  have hma : ∃ e c, w.heap[a]? = some (.map e c) := by
    rcases h.ham with ⟨e, _⟩ | ⟨b, e, es', cl, e1, _⟩
    · cases e
    · cases e; exact ⟨_, _, e1⟩
  obtain ⟨em, cm, hma⟩ := hma
  have hal : a < w.heap.size := lt_of_block hma
  have h4 : ∀ b, b ≠ a → ({ w with heap := w.heap.setIfInBounds a o } : World).heap[b]? = w.heap[b]? := fun b hb => setBlock_ne hb
  have hra : ({ w with heap := w.heap.setIfInBounds a o } : World).ownsRow w0.heap.size 80 1 oav acts.length (oaA es acts) := ownsRow_at h.rOa fun g e => h4 g (by
    rintro rfl
    obtain ⟨_, c, hc⟩ := ownsRow_cells h.rOa e
    rw [hma] at hc; cases hc)
  have c5 : ∀ {b : Nat} {c : Array Value} {t : TypeId} {z : Nat × Nat}, w.heap[b]? = some (Obj.cells c t z) → t ≠ 80 → w5.heap[b]? = some (Obj.cells c t z) := fun {b c t z} hb ht => by
    have hba : b ≠ a := by rintro rfl; rw [hma] at hb; cases hb
    have hb4 : ({ w with heap := w.heap.setIfInBounds a o } : World).heap[b]? = some (Obj.cells c t z) := (h4 b hba).trans hb
    exact grown_cells hg (hra.alloc _) (heap_past' (lt_of_block hb4) hb4) ht
  have hnr : ∀ {b : Nat} {e : Array MapEntry} {c : Nat}, (({ w with heap := w.heap.setIfInBounds a o } : World)).heap[b]? = some (Obj.map e c) → some b ≠ oav.ownBlock := fun {b e c} hb e' => by
    obtain ⟨_, c', hc⟩ := ownsRow_cells hra e'.symm
    rw [hb] at hc; cases hc
  have m5 : ∀ {b : Nat} {e : Array MapEntry} {c : Nat}, (({ w with heap := w.heap.setIfInBounds a o } : World)).heap[b]? = some (Obj.map e c) → w5.heap[b]? = some (Obj.map e c) := fun {b e c} hb =>
    (hg.block b (by rw [World.size_alloc]; exact Nat.lt_succ_of_lt (lt_of_block hb)) (hnr hb)).trans (heap_past' (lt_of_block hb) hb)
  obtain ⟨iv, df, no, hGc⟩ := (h.flag i hi).cells
  have nGF : es[i].2 ≠ F := cells_ne hGc h.hF (by decide)
  have hF5 := c5 h.hF (by decide)
  refine ⟨hF5, fun c hc => c5 hc (by decide), nGF, ?_⟩
  have k6 : ∀ b, b ≠ F → b ≠ es[i].2 → ((w5.setCell ⟨F, 6, none⟩ (.slice (some ⟨g, 0, none⟩) (acts.length + 1) cap)).setCell ⟨es[i].2, 5, none⟩ (.bool true)).heap[b]? = w5.heap[b]? := fun b h1 h2 => (heap_ne _ _ _ _ h2).trans (heap_ne _ _ _ _ h1)
  have hbel4 : Below w0.heap.size w0 { w with heap := w.heap.setIfInBounds a o } := h.bel.trans ⟨rfl, rfl, rfl, by simp, fun b hb' => setBlock_ne (by have := (h.bam a rfl).1; omega)⟩
  have hbel5 : Below w0.heap.size w0 w5 := grown_below (hbel4.alloc hbel4.size _) (by simp only [World.size_alloc]; exact Nat.le_succ_of_le hbel4.size) (hra.alloc _) hg
  have mF : ∀ {b : Nat} {e : Array MapEntry} {c : Nat}, w5.heap[b]? = some (Obj.map e c) → b ≠ F ∧ b ≠ es[i].2 := fun {b e c} hb => by
    refine ⟨?_, ?_⟩
    · rintro rfl; rw [hF5] at hb; cases hb
    · rintro rfl; rw [c5 hGc (by decide)] at hb; cases hb
  have eacts : ∀ {α : Type} (f : Nat → α), (acts ++ [i]).map f = acts.map f ++ [f i] := fun f => by simp
  have ei : es[i]! = es[i] := getElem!_pos es i hi
  refine ⟨(hbel5.setCell h.lF _).setCell (h.lG i hi) _, h.lF, ?_, ?_, ?_, ?_, h.bfm, h.bam, ?_, h.lG, h.nodup, h.names, ?_, ?_⟩
  · refine heap_ne' (Ne.symm nGF) ?_
    rw [heap_set hF5 6 _]; rfl
  · rcases h.hfm with hx | ⟨b, e, es', cl, e1, e2⟩
    · exact .inl hx
    · have hba : b ≠ a := fun e' => (h.bam a rfl).2 (by rw [e, e'])
      have e5 := m5 ((h4 b hba).trans e1)
      exact .inr ⟨b, e, es', cl, (k6 b (mF e5).1 (mF e5).2).trans e5, e2⟩
  · obtain ⟨es', cl, e1, e2⟩ := hm
    have e5 := m5 e1
    refine .inr ⟨a, rfl, es', cl, (k6 a (mF e5).1 (mF e5).2).trans e5, ?_⟩
    rw [alA, eacts, ei]
    exact e2
  · rw [oaA, eacts, ei, List.length_append, List.length_singleton]
    refine ownsRow_at hr fun g' e => ?_
    obtain ⟨_, c, hc⟩ := ownsRow_cells hr e
    exact k6 g' (cells_ne hc hF5 (by decide)) (cells_ne hc (c5 hGc (by decide)) (by decide))
  · intro j hj
    have hfj := h.flag j hj
    by_cases e : j = i
    · subst e
      have : decide (j ∈ acts ++ [j]) = true := by simp
      rw [this]
      obtain ⟨P, df, no, hP, ⟨e, hc, s, hs⟩ | ⟨e, hc, s, hs⟩⟩ := hfj
      · refine ⟨P, df, no, hP, .inl ⟨e, ?_, s, ?_⟩⟩
        · rw [heap_set (heap_ne' nGF (c5 hc (by decide))) 5 _]; rfl
        · exact (k6 P (cells_ne hs h.hF (by decide)) (cells_ne hs hc (by decide))).trans (c5 hs (by decide))
      · refine ⟨P, df, no, hP, .inr ⟨e, ?_, s, ?_⟩⟩
        · rw [heap_set (heap_ne' nGF (c5 hc (by decide))) 5 _]; rfl
        · exact (k6 P (cells_ne hs h.hF (by decide)) (cells_ne hs hc (by decide))).trans (c5 hs (by decide))
    · have : decide (j ∈ acts ++ [i]) = decide (j ∈ acts) := by simp [e]
      rw [this]
      have nG : es[j].2 ≠ es[i].2 := fun e' => e (by
        have hj' : j < (es.map (·.2)).length := by simpa using hj
        have hi' : i < (es.map (·.2)).length := by simpa using hi
        exact (List.getElem_inj h.nodup (h₀ := hj') (h₁ := hi')).1 (by simpa using e'))
      obtain ⟨P, df, no, hP, ⟨e, hc, s, hs⟩ | ⟨e, hc, s, hs⟩⟩ := hfj
      · exact ⟨P, df, no, hP, .inl ⟨e, (k6 _ (cells_ne hc h.hF (by decide)) nG).trans (c5 hc (by decide)), s, (k6 P (cells_ne hs h.hF (by decide)) (cells_ne hs hGc (by decide))).trans (c5 hs (by decide))⟩⟩
      · exact ⟨P, df, no, hP, .inr ⟨e, (k6 _ (cells_ne hc h.hF (by decide)) nG).trans (c5 hc (by decide)), s, (k6 P (cells_ne hs h.hF (by decide)) (cells_ne hs hGc (by decide))).trans (c5 hs (by decide))⟩⟩
  · intro j hj
    rcases List.mem_append.1 hj with hj | hj
    · exact h.alt j hj
    · rw [List.mem_singleton.1 hj]; exact hi
  · rw [List.nodup_append]
    refine ⟨h.and, by simp, ?_⟩
    intro x hx y hy e
    rw [List.mem_singleton] at hy
    subst hy; subst e
    exact hni hx
end
theorem names_of {es : List (DefD × Nat)} (h : AllOk (es.map (·.1))) : ∀ i j (hi : i < es.length) (hj : j < es.length), es[i].1.nm = es[j].1.nm → i = j := by
  have key : ∀ i j (hi : i < es.length) (hj : j < es.length), es[i].1.nm = es[j].1.nm → ¬ i < j := by
    intro i j hi hj e hlt
    have hj' : j < (es.map (·.1)).length := by simpa using hj
    refine (h j hj').1 es[i].1 ?_ (by rw [List.getElem_map]; exact e)
    rw [← List.map_take]
    exact List.mem_map.2 ⟨es[i], by rw [← List.getElem_take (h := by rw [List.length_take]; omega) (j := j)]; exact List.getElem_mem _, rfl⟩
  intro i j hi hj e
  have h1 := key i j hi hj e
  have h2 := key j i hj hi e.symm
  omega
theorem VSet.start {w0 w : World} {F : Nat} {es : List (DefD × Nat)} (h : ManyE w0 F es w) (ha : AllF w0 es w) (hok : AllOk (es.map (·.1))) : ∃ fm ofv sm, VSet w0 F true fm es none (.slice none 0 0) ofv sm [] w := by
  obtain ⟨fm, sm, ofv, h⟩ := h
  refine ⟨fm, ofv, sm, ⟨h.bel, h.lF, h.hF, h.hfm, .inl ⟨rfl, rfl⟩, World.ownsRow_nil _ _ _ _, fun b e => (h.bfm b e).1, fun b e => (by cases e), fun i hi => ?_, fun i hi => ?_, ha.nodup, names_of hok, fun i hi => (by simp at hi), by simp⟩⟩
  · simpa using FlagV.of (ha.flag _ (List.getElem_mem hi))
  · obtain ⟨fb, cs, e1, e2, e3, e4⟩ := h.hfl (es[i].1.nm, ptr es[i].2) (List.mem_map.2 ⟨_, List.getElem_mem hi, rfl⟩)
    have : fb = es[i].2 := by
      simp only [ptr, Value.pointer.injEq, Option.some.injEq, Addr.mk.injEq] at e1
      exact e1.1.symm
    rw [← this]; exact e4
end Go.Proofs.YtmmkebdaijmpiaaGreat
