/- impl.Names: the set is made; the rows of notes and of turns. -/
import Derived.Test.YtmmkebdaijmpiaaGreatJTurned
namespace Go.Proofs.YtmmkebdaijmpiaaGreat
open Go.RowKit
set_option linter.unusedVariables false
set_option linter.unusedSimpArgs false

theorem SetE.keepN {w0 w w' : World} {F : Nat} {l : List DefD} (h : SetE w0 F l w) (hk : ∀ (b : Nat) (o : Obj), w.heap[b]? = some o → (∀ c z, o ≠ Obj.cells c 32 z) → w'.heap[b]? = some o) (hbel : Below w0.heap.size w0 w') : SetE w0 F l w' := by
  obtain ⟨es, e, ⟨fm, sm, ofv, hm⟩, hf⟩ := h
  have kc : ∀ {b : Nat} {c : Array Value} {t : TypeId} {z : Nat × Nat}, w.heap[b]? = some (Obj.cells c t z) → t ≠ 32 → w'.heap[b]? = some (Obj.cells c t z) := fun hb ht => hk _ _ hb (fun c z e => by cases e; exact ht rfl)
  have km : ∀ {κ : Type} [DecidableEq κ] {K : KeyKind κ} {m : Option Nat} {L : List (κ × Value)}, MapOr K w m L → ∀ b, m = some b → w'.heap[b]? = w.heap[b]? := fun {_ _ _ m _} hx b e => by
    rcases hx with ⟨e', _⟩ | ⟨b', e', es', cl, e1, e2⟩
    · rw [e'] at e; cases e
    · rw [e'] at e; cases e
      exact (hk _ _ e1 (fun c z e => by cases e)).trans e1.symm
  refine ⟨es, e, ⟨fm, sm, ofv, hm.move hbel ((kc hm.hF (by decide)).trans hm.hF.symm) (km hm.hfm) (km hm.hsm) (fun g e => ?_) (fun b' c' hc => (kc hc (by decide)).trans hc.symm)⟩, fun x hx => ?_⟩
  · obtain ⟨_, c', hc⟩ := ownsRow_cells hm.rOf e
    exact (kc hc (by decide)).trans hc.symm
  · rcases hf x hx with ⟨e, h⟩ | ⟨e, h⟩
    · obtain ⟨P, lP, hG, hP⟩ := h.val
      exact .inl ⟨e, ⟨P, lP, kc hG (by decide), kc hP (by decide)⟩⟩
    · obtain ⟨P, lP, hG, hP⟩ := h.val
      exact .inr ⟨e, ⟨P, lP, kc hG (by decide), kc hP (by decide)⟩⟩
/-- A box of the caller's is written: the base with it. -/
theorem SetE.box {w w1 : World} {F X : Nat} {l : List DefD} (h : SetE w F l w1) {v0 : Value} (hX : w.heap[X]? = some (.cells #[v0] 65 (0, 0))) (u : Value) : SetE (w.setCell ⟨X, 0, none⟩ u) F l (w1.setCell ⟨X, 0, none⟩ u) := by
  obtain ⟨es, e, ⟨fm, sm, ofv, hm⟩, hf⟩ := h
  have lX := lt_of_block hX
  have hX1 := (hm.bel.block _ lX).trans hX
  have k : ∀ b, b ≠ X → (w1.setCell ⟨X, 0, none⟩ u).heap[b]? = w1.heap[b]? := fun b hb => heap_ne _ _ _ _ hb
  have sz : (w.setCell ⟨X, 0, none⟩ u).heap.size = w.heap.size := size_setCell _ _ _
  have bel : Below (w.setCell ⟨X, 0, none⟩ u).heap.size (w.setCell ⟨X, 0, none⟩ u) (w1.setCell ⟨X, 0, none⟩ u) := by
    refine ⟨hm.bel.os, hm.bel.tape, hm.bel.output, by rw [size_setCell, size_setCell]; exact hm.bel.size, fun b hb => ?_⟩
    rw [sz] at hb
    by_cases e : b = X
    · subst e
      rw [heap_set hX1 0 u, heap_set hX 0 u]
    · rw [k b e, heap_ne _ _ _ _ e]
      exact hm.bel.block b hb
  refine ⟨es, e, ⟨fm, sm, ofv, ⟨bel, (k _ (cells_ne hm.hF hX1 (by decide))).trans hm.hF, hm.hfm.later fun b e => k b (hm.hfm.ne hX1 b e), hm.hsm.later fun b e => k b (hm.hsm.ne hX1 b e), ?_, fun x hx => ?_, by rw [sz]; exact hm.lF, by rw [sz]; exact hm.bfm, by rw [sz]; exact hm.bsm⟩⟩, fun x hx => ?_⟩
  · rw [sz]
    refine ownsRow_at hm.rOf fun g e => ?_
    obtain ⟨_, c', hc⟩ := ownsRow_cells hm.rOf e
    exact k g (cells_ne hc hX1 (by decide))
  · obtain ⟨fb, cs, e1, e2, e3, e4⟩ := hm.hfl x hx
    exact ⟨fb, cs, e1, (k fb (cells_ne e2 hX1 (by decide))).trans e2, e3, by rw [sz]; exact e4⟩
  · rcases hf x hx with ⟨e, h⟩ | ⟨e, h⟩
    · obtain ⟨P, lP, hG, hP⟩ := h.val
      exact .inl ⟨e, ⟨P, by rw [sz]; exact lP, (k _ (cells_ne hG hX1 (by decide))).trans hG, (k _ (cells_ne hP hX1 (by decide))).trans hP⟩⟩
    · obtain ⟨P, lP, hG, hP⟩ := h.val
      exact .inr ⟨e, ⟨P, by rw [sz]; exact lP, (k _ (cells_ne hG hX1 (by decide))).trans hG, (k _ (cells_ne hP hX1 (by decide))).trans hP⟩⟩

set_option maxRecDepth 100000 in
set_option maxHeartbeats 1600000 in
theorem names1_any (w : World) (l : List DefD) (dv : Value) (hd : Defs w dv l) (hok : AllOk l) (hl : l.length ≤ 16) (hx : ∀ x ∈ l, (x.k = 0 ∨ x.k = 1) ∧ x.sh.size ≤ 60) {R D X : Nat}
    (hR : w.heap[R]? = some (.cells #[.slice none 0 0] 35 (0, 0))) (hD : w.heap[D]? = some (.cells #[dv] 22 (0, 0))) (hX : w.heap[X]? = some (.cells #[.pointer none] 65 (0, 0))) :
    Calls Tryz.prog 31 #[ptr R, ptr D, ptr X] w fun e w' => e = .returned (.tuple #[]) ∧ ∃ F, SetE (w.setCell ⟨X, 0, none⟩ (ptr F)) F l w' ∧ w'.heap[X]? = some (.cells #[ptr F] 65 (0, 0)) := by
  have CF := Lib.hid (flagsOfV_any dv l w hd hok hl hx)
  have r0 := cell_of_one hR
  have d0 := cell_of_one hD
  have HX := Lib.hid hX
  obtain ⟨a, cap, rfl, -⟩ := hd.len
  clear hd hok hx hR hD hX
  unfold ptr at *
  go_enter Tryz.func31, Tryz.ntmps31
  go_wp2_with fail
  refine CF.out.mono ?_
  rintro e w1 ⟨F, es, rfl, hes, hm, ha⟩
  have hX1 := (hm.bel.block _ (lt_of_block HX.out)).trans HX.out
  have x0 := cell_of_one hX1
  have x1 := free_of_one hX1
  have x2 := lt_of_block hX1
  have HS := Lib.hid (SetE.box (show SetE w F l w1 from ⟨es, hes, hm, ha.flag⟩) HX.out (.pointer (some ⟨F, 0, none⟩)))
  have HX2 := Lib.hid (heap_set hX1 0 (.pointer (some ⟨F, 0, none⟩)))
  clear hes hm ha hX1 CF
  go_wp2_with fail
  (first | go_end0 | ((try simp only [Exit.inBlock, Exit.then]); refine bodyPost_ret (results_none rfl _ _ _) rfl ?_))
  exact ⟨rfl, F, HS.out, HX2.out⟩
/-- Cells of rows of notes. -/
def flatN (ns : List (Array Value)) : List Value := ns.flatMap fun n => n.toList
theorem flatN_snoc (ns : List (Array Value)) (n : Array Value) : flatN (ns ++ [n]) = flatN ns ++ n.toList := by simp [flatN]
/-- Turns in a row: one that adds a set, then some that look up names. -/
structure TurnsAt (w : World) (g n : Nat) (dv : Value) (names : List ByteArray) : Prop where
  len : n = names.length + 1
  one : ∀ j v, (turnA dv)[j]? = some v → w.cell? ⟨g, j, none⟩ = some v
  more : ∀ k (hk : k < names.length) j v, (turnL names[k])[j]? = some v → w.cell? ⟨g, (k + 1) * 6 + j, none⟩ = some v
end Go.Proofs.YtmmkebdaijmpiaaGreat
