/- The walk of the law FnCut. (Printed by gen6.py.) -/
import Derived.Test.YtcpjdgbnfjdakaaComp
import Derived.Test.YtcpjdgbnfjdakaaGiv14
import Derived.Deep.CutRange
namespace Go.Proofs.Ytcpjdgbnfjdakaa
open Go.RowKit
set_option linter.unusedVariables false
set_option linter.unusedSimpArgs false

def cutD : List Nat := [7, 8, 9, 40, 41, 42, 43, 44, 45, 46, 47, 48, 49, 50, 51]
def cutVals (S V N : Value) (la lb : List ByteArray) (va vb : Value) (r1 r2 r3 : RunD) (c1 c2 c3 : List Nat) : List OVal :=
  [⟨0, 40, fun v _ => v = S⟩, ⟨1, 41, fun v _ => v = va⟩, ⟨2, 42, HVal r1 c1⟩, ⟨3, 43, fun v _ => v = S⟩, ⟨4, 44, fun v _ => v = vb⟩, ⟨5, 45, HVal r2 c2⟩, ⟨6, 46, fun v _ => v = S⟩, ⟨7, 47, fun v _ => v = va⟩, ⟨8, 48, fun v _ => v = vb⟩,
   ⟨9, 49, fun v w => ∃ q : Nat, v = .slice (some ⟨q, 0, none⟩) 2 2 ∧ w.heap[q]? = some (.cells #[va, vb] 25 (0, 0)) ∧ True⟩, ⟨10, 50, fun v w => w.ownsRow 0 9 1 v (la ++ lb).length ((la ++ lb).map .string)⟩, ⟨11, 51, HVal r3 c3⟩]
def cutVars (r1 r2 r3 : RunD) (c1 c2 c3 : List Nat) : List OVar := [⟨7, 12, 15, r1, c1⟩, ⟨8, 13, 16, r2, c2⟩, ⟨9, 14, 17, r3, c3⟩]
theorem cut_wf (S V N : Value) (la lb : List ByteArray) (va vb : Value) (r1 r2 r3 : RunD) (c1 c2 c3 : List Nat) : OgWf (cutVals S V N la lb va vb r1 r2 r3 c1 c2 c3) (cutVars r1 r2 r3 c1 c2 c3) := by
  refine ⟨fun x hx => ?_, fun x hx y hy e => ?_, fun x hx y hy e => ?_, fun x hx y hy => ?_, fun x hx y hy => ?_⟩
  · simp only [cutVals, List.mem_cons, List.not_mem_nil, or_false] at hx
    rcases hx with rfl | rfl | rfl | rfl | rfl | rfl | rfl | rfl | rfl | rfl | rfl | rfl
    all_goals first | exact stable_eq _ | exact stable_heard _ _ | exact stable_row _ _ (by decide) _ _ _ | exact stable_block _ _ _ (by decide) (fun _ _ => True) (fun _ _ _ h => h)
  · simp only [cutVals, List.mem_cons, List.not_mem_nil, or_false] at hx hy
    rcases hx with rfl | rfl | rfl | rfl | rfl | rfl | rfl | rfl | rfl | rfl | rfl | rfl <;> rcases hy with rfl | rfl | rfl | rfl | rfl | rfl | rfl | rfl | rfl | rfl | rfl | rfl <;> first | rfl | (simp at e; done)
  · simp only [cutVals, List.mem_cons, List.not_mem_nil, or_false] at hx hy
    rcases hx with rfl | rfl | rfl | rfl | rfl | rfl | rfl | rfl | rfl | rfl | rfl | rfl <;> rcases hy with rfl | rfl | rfl | rfl | rfl | rfl | rfl | rfl | rfl | rfl | rfl | rfl <;> first | rfl | (simp at e; done)
  · simp only [cutVals, cutVars, List.mem_cons, List.not_mem_nil, or_false] at hx hy
    rcases hx with rfl | rfl | rfl | rfl | rfl | rfl | rfl | rfl | rfl | rfl | rfl | rfl <;> rcases hy with rfl | rfl | rfl <;> simp
  · simp only [cutVars, List.mem_cons, List.not_mem_nil, or_false] at hx hy
    rcases hx with rfl | rfl | rfl <;> rcases hy with rfl | rfl | rfl <;> simp

/-- A store into one block; all else stands. -/
structure Mod (B : Nat) (w w' : World) : Prop where
  os : w'.os = w.os
  tape : w'.tape = w.tape
  output : w'.output = w.output
  size : w'.heap.size = w.heap.size
  block : ∀ b, b ≠ B → w'.heap[b]? = w.heap[b]?
theorem Mod.refl (B : Nat) (w : World) : Mod B w w := ⟨rfl, rfl, rfl, rfl, fun _ _ => rfl⟩
theorem Mod.set (B i : Nat) (w : World) (v : Value) : Mod B w (w.setCell ⟨B, i, none⟩ v) := ⟨rfl, rfl, rfl, size_setCell _ _ _, fun b hb => heap_ne w _ _ b hb⟩
theorem Mod.below {B base : Nat} {w0 w w' : World} (h : Mod B w w') (hB : base ≤ B) (hb : Below base w0 w) : Below base w0 w' :=
  ⟨h.os.trans hb.os, h.tape.trans hb.tape, h.output.trans hb.output, by rw [h.size]; exact hb.size, fun b hlt => (h.block b (by omega)).trans (hb.block b hlt)⟩
theorem Mod.rows {B : Nat} {w w' : World} (h : Mod B w w') {c : Array Value} (hB : w.heap[B]? = some (.cells c 33 (0, 0))) {base : Nat} {gv av cv : Value} {r : RunD} {ch : List Nat} (hr : HeardRows w base gv av cv r ch) : HeardRows w' base gv av cv r ch :=
  hr.at fun b c' t _ hc hne => h.block b (fun e => by subst e; rw [hB] at hc; cases hc; exact hne rfl)
/-- What was heard lies in a variable. -/
def HVar (B : Nat) (r : RunD) (dash : Int) (ch : List Nat) (ga gc aa ac ca cc : Value) (w : World) : Prop := True
structure VarB (w : World) (B : Nat) (r : RunD) (ch : List Nat) (gv av cv : Value) : Prop where
  sl : (∃ a c, gv = .slice a r.given.length c) ∧ (∃ a c, av = .slice a r.args.length c) ∧ (∃ a c, cv = .slice a ch.length c)
  h : w.heap[B]? = some (.cells (hCells r.err r.dash true gv av cv) 33 (0, 0))
  rows : HeardRows w 0 gv av cv r ch
theorem VarB.grow {w w' : World} {B : Nat} {r : RunD} {ch : List Nat} {gv av cv : Value} (h : VarB w B r ch gv av cv) (hb : Below w.heap.size w w') : VarB w' B r ch gv av cv := ⟨h.sl, (hb.block _ (lt_of_block h.h)).trans h.h, h.rows.below hb⟩
theorem VarB.mod {w w' : World} {B C : Nat} {r : RunD} {ch : List Nat} {gv av cv : Value} (h : VarB w B r ch gv av cv) (hm : Mod C w w') (hne : B ≠ C) {c : Array Value} (hC : w.heap[C]? = some (.cells c 33 (0, 0))) : VarB w' B r ch gv av cv := ⟨h.sl, (hm.block B hne).trans h.h, hm.rows hC h.rows⟩
theorem HeardVar.varB {w0 w : World} {base : Nat} {v : Value} {r : RunD} {ch : List Nat} (h : HeardVar w0 base w v r ch) : ∃ B gv av cv, v = .pointer (some ⟨B, 0, none⟩) ∧ base ≤ B ∧ VarB w B r ch gv av cv := by
  obtain ⟨B, ga, gc, aa, ac, ca, cc, e, h1, h2, h3, h4⟩ := h
  exact ⟨B, _, _, _, e, h1, ⟨⟨_, _, rfl⟩, ⟨_, _, rfl⟩, ⟨_, _, rfl⟩⟩, h2, h3⟩
theorem VarB.read {w : World} {B : Nat} {r : RunD} {ch : List Nat} {gv av cv : Value} (h : VarB w B r ch gv av cv) : Givens w gv r.given ∧ Texts w av r.args ∧ Ints w cv ch := ⟨Givens.ofRow h.rows.1, Texts.ofRow h.rows.2.1, Ints.ofRow h.rows.2.2⟩

/-- The state of 'y.Given, y.Args = ..'. -/
structure OgJ (w0 : World) (base B : Nat) (vals : List OVal) (P : World → Prop) (C : Value → Value → Array Value) (RG RA : Value → World → Prop) (g0 a0 : Value) (L : Nat → Bool) (f : Nat → Value) (w : World) : Prop where
  bel : Below base w0 w
  size : base ≤ w.heap.size
  v : ∀ x ∈ vals, L x.i = true → x.R (f x.d) w
  p : P w
  y : ∃ G A, w.heap[B]? = some (.cells (C G A) 33 (0, 0)) ∧ (L 13 = false → G = g0) ∧ (L 13 = true → RG G w) ∧ (L 15 = false → A = a0) ∧ (L 15 = true → RA A w)
  ph : L 13 = true ∨ L 15 = true → L 3 = true ∧ L 9 = true
structure WfJ (B : Nat) (vals : List OVal) (P : World → Prop) (RG RA : Value → World → Prop) : Prop where
  st : ∀ x ∈ vals, Stable x.R
  xd : ∀ x ∈ vals, ∀ y ∈ vals, x.d = y.d → x = y
  xi : ∀ x ∈ vals, ∀ y ∈ vals, x.i = y.i → x = y
  no : ∀ x ∈ vals, x.i ≠ 13 ∧ x.i ≠ 15
  pg : ∀ w w' : World, P w → Below w.heap.size w w' → P w'
  pm : ∀ (w w' : World) (c : Array Value), P w → w.heap[B]? = some (.cells c 33 (0, 0)) → Mod B w w' → P w'
  sg : Stable RG
  sa : Stable RA
section
variable {w0 w w' : World} {base B : Nat} {vals : List OVal} {P : World → Prop} {C : Value → Value → Array Value} {RG RA : Value → World → Prop} {g0 a0 : Value} {L : Nat → Bool} {f : Nat → Value}
theorem OgJ.value (h : OgJ w0 base B vals P C RG RA g0 a0 L f w) (wf : WfJ B vals P RG RA) (x : OVal) (hx : x ∈ vals) (v : Value) (hb : Below w.heap.size w w') (hR : x.R v w') : OgJ w0 base B vals P C RG RA g0 a0 (fun k => k == x.i || L k) (upd f x.d v) w' := by
  obtain ⟨n1, n2⟩ := wf.no x hx
  refine ⟨h.bel.trans (hb.mono h.size), Nat.le_trans h.size hb.size, fun y hy hl => ?_, wf.pg _ _ h.p hb, ?_, ?_⟩
  · by_cases e : y.i = x.i
    · have e2 := wf.xi y hy x hx e
      subst e2
      rw [upd_same]
      exact hR
    · rw [upd_ne f v (fun e' => e (by rw [wf.xd y hy x hx e']))]
      rw [or_ne e] at hl
      exact (wf.st y hy).grow _ _ _ (h.v y hy hl) hb
  · obtain ⟨G, A, h1, h2, h3, h4, h5⟩ := h.y
    rw [or_ne (Ne.symm n1), or_ne (Ne.symm n2)]
    exact ⟨G, A, (hb.block _ (lt_of_block h1)).trans h1, h2, fun hl => wf.sg.grow _ _ _ (h3 hl) hb, h4, fun hl => wf.sa.grow _ _ _ (h5 hl) hb⟩
  · rw [or_ne (Ne.symm n1), or_ne (Ne.symm n2)]
    intro hl
    obtain ⟨p1, p2⟩ := h.ph hl
    exact ⟨by simp [p1], by simp [p2]⟩
theorem OgJ.setG (h : OgJ w0 base B vals P C RG RA g0 a0 L f w) (wf : WfJ B vals P RG RA) (hB : base ≤ B) (v : Value) (hC : ∀ G A, (C G A).setIfInBounds 5 v = C v A) (hv : RG v w) (h3 : L 3 = true) (h9 : L 9 = true) : OgJ w0 base B vals P C RG RA g0 a0 (fun k => k == 13 || L k) f (w.setCell ⟨B, 5, none⟩ v) := by
  obtain ⟨G, A, q1, q2, q3, q4, q5⟩ := h.y
  have hm := Mod.set B 5 w v
  refine ⟨hm.below hB h.bel, by rw [hm.size]; exact h.size, fun y hy hl => ?_, wf.pm _ _ _ h.p q1 hm, ⟨v, A, by rw [heap_set q1 5 v, hC], fun hl => by simp at hl, fun _ => wf.sg.put _ _ _ B _ hv q1 hm.block, ?_, ?_⟩, fun _ => ⟨by simp [h3], by simp [h9]⟩⟩
  · rw [or_ne (wf.no y hy).1] at hl
    exact (wf.st y hy).put _ _ _ B _ (h.v y hy hl) q1 hm.block
  · rw [or_ne (by decide)]; exact q4
  · rw [or_ne (by decide)]; exact fun hl => wf.sa.put _ _ _ B _ (q5 hl) q1 hm.block
theorem OgJ.setA (h : OgJ w0 base B vals P C RG RA g0 a0 L f w) (wf : WfJ B vals P RG RA) (hB : base ≤ B) (v : Value) (hC : ∀ G A, (C G A).setIfInBounds 6 v = C G v) (hv : RA v w) (h3 : L 3 = true) (h9 : L 9 = true) : OgJ w0 base B vals P C RG RA g0 a0 (fun k => k == 15 || L k) f (w.setCell ⟨B, 6, none⟩ v) := by
  obtain ⟨G, A, q1, q2, q3, q4, q5⟩ := h.y
  have hm := Mod.set B 6 w v
  refine ⟨hm.below hB h.bel, by rw [hm.size]; exact h.size, fun y hy hl => ?_, wf.pm _ _ _ h.p q1 hm, ⟨G, v, by rw [heap_set q1 6 v, hC], ?_, ?_, fun hl => by simp at hl, fun _ => wf.sa.put _ _ _ B _ hv q1 hm.block⟩, fun _ => ⟨by simp [h3], by simp [h9]⟩⟩
  · rw [or_ne (wf.no y hy).2] at hl
    exact (wf.st y hy).put _ _ _ B _ (h.v y hy hl) q1 hm.block
  · rw [or_ne (by decide)]; exact q2
  · rw [or_ne (by decide)]; exact fun hl => wf.sg.put _ _ _ B _ (q3 hl) q1 hm.block
end
def cutE : List Nat := [62, 63, 64, 65, 66, 67, 68, 69, 70, 71, 72, 73, 74, 75]
def cutValsE (B1 B2 : Nat) (g1 g2 a1 a2 : Value) (lg : List (Nat × ByteArray)) (la : List ByteArray) : List OVal :=
  [⟨0, 62, fun v _ => v = .pointer (some ⟨B1, 5, none⟩)⟩, ⟨1, 63, fun v _ => v = g1⟩, ⟨2, 64, fun v _ => v = .pointer (some ⟨B2, 5, none⟩)⟩, ⟨3, 65, fun v _ => v = g2⟩,
   ⟨4, 66, fun v w => ∃ q : Nat, v = .slice (some ⟨q, 0, none⟩) 2 2 ∧ w.heap[q]? = some (.cells #[g1, g2] 30 (0, 0)) ∧ True⟩, ⟨5, 67, fun v w => w.ownsRow 0 94 2 v lg.length (flat lg)⟩,
   ⟨6, 68, fun v _ => v = .pointer (some ⟨B1, 6, none⟩)⟩, ⟨7, 69, fun v _ => v = a1⟩, ⟨8, 70, fun v _ => v = .pointer (some ⟨B2, 6, none⟩)⟩, ⟨9, 71, fun v _ => v = a2⟩,
   ⟨10, 72, fun v w => ∃ q : Nat, v = .slice (some ⟨q, 0, none⟩) 2 2 ∧ w.heap[q]? = some (.cells #[a1, a2] 25 (0, 0)) ∧ True⟩, ⟨11, 73, fun v w => w.ownsRow 0 9 1 v la.length (la.map .string)⟩,
   ⟨12, 74, fun v _ => v = .pointer (some ⟨B2, 5, none⟩)⟩, ⟨14, 75, fun v _ => v = .pointer (some ⟨B2, 6, none⟩)⟩]
theorem cutE_wf (B1 B2 : Nat) (g1 g2 a1 a2 : Value) (lg : List (Nat × ByteArray)) (la : List ByteArray) (P : World → Prop) (pg : ∀ w w' : World, P w → Below w.heap.size w w' → P w') (pm : ∀ (w w' : World) (c : Array Value), P w → w.heap[B2]? = some (.cells c 33 (0, 0)) → Mod B2 w w' → P w') :
    WfJ B2 (cutValsE B1 B2 g1 g2 a1 a2 lg la) P (fun v w => w.ownsRow 0 94 2 v lg.length (flat lg)) (fun v w => w.ownsRow 0 9 1 v la.length (la.map .string)) := by
  refine ⟨fun x hx => ?_, fun x hx y hy e => ?_, fun x hx y hy e => ?_, fun x hx => ?_, pg, pm, stable_row _ _ (by decide) _ _ _, stable_row _ _ (by decide) _ _ _⟩
  · simp only [cutValsE, List.mem_cons, List.not_mem_nil, or_false] at hx
    rcases hx with rfl | rfl | rfl | rfl | rfl | rfl | rfl | rfl | rfl | rfl | rfl | rfl | rfl | rfl
    all_goals first | exact stable_eq _ | exact stable_row _ _ (by decide) _ _ _ | exact stable_block _ _ _ (by decide) (fun _ _ => True) (fun _ _ _ h => h)
  · simp only [cutValsE, List.mem_cons, List.not_mem_nil, or_false] at hx hy
    rcases hx with rfl | rfl | rfl | rfl | rfl | rfl | rfl | rfl | rfl | rfl | rfl | rfl | rfl | rfl <;> rcases hy with rfl | rfl | rfl | rfl | rfl | rfl | rfl | rfl | rfl | rfl | rfl | rfl | rfl | rfl <;> first | rfl | (simp at e; done)
  · simp only [cutValsE, List.mem_cons, List.not_mem_nil, or_false] at hx hy
    rcases hx with rfl | rfl | rfl | rfl | rfl | rfl | rfl | rfl | rfl | rfl | rfl | rfl | rfl | rfl <;> rcases hy with rfl | rfl | rfl | rfl | rfl | rfl | rfl | rfl | rfl | rfl | rfl | rfl | rfl | rfl <;> first | rfl | (simp at e; done)
  · simp only [cutValsE, List.mem_cons, List.not_mem_nil, or_false] at hx
    rcases hx with rfl | rfl | rfl | rfl | rfl | rfl | rfl | rfl | rfl | rfl | rfl | rfl | rfl | rfl <;> simp
theorem run_build2G {ρ : Operand → Value} {d : Option Tmp} {ty : TypeId} {pos : String} {af : Array Edge} {g : Option (Nat × Bool)} {x y : Tmp} {w : World} {va vb : Value} (h : ρ (.tmp x) = va) (hy : ρ (.tmp y) = vb) (hA : ∃ a n c, va = .slice a n c) (hB : ∃ a n c, vb = .slice a n c) :
    (execOp ρ ⟨d, .buildSlice 107 2 #[(0, .tmp x), (1, .tmp y)], ty, pos, af, g⟩).run Try.prog w = .ok (.value (.slice (some ⟨w.heap.size, 0, none⟩) 2 2)) (w.alloc (.cells #[va, vb] 30)) := by
  obtain ⟨a, n, c, rfl⟩ := hA
  obtain ⟨a', n', c', rfl⟩ := hB
  go_simp
theorem run_field5 {ρ : Operand → Value} {d : Option Tmp} {ty : TypeId} {pos : String} {af : Array Edge} {g : Option (Nat × Bool)} {x : Tmp} {w : World} {B : Nat} (h : ρ (.tmp x) = .pointer (some ⟨B, 0, none⟩)) :
    (execOp ρ ⟨d, .fieldAddr 33 (.tmp x) 5, ty, pos, af, g⟩).run Try.prog w = .ok (.value (.pointer (some ⟨B, 5, none⟩))) w := by
  go_simp
theorem run_field6 {ρ : Operand → Value} {d : Option Tmp} {ty : TypeId} {pos : String} {af : Array Edge} {g : Option (Nat × Bool)} {x : Tmp} {w : World} {B : Nat} (h : ρ (.tmp x) = .pointer (some ⟨B, 0, none⟩)) :
    (execOp ρ ⟨d, .fieldAddr 33 (.tmp x) 6, ty, pos, af, g⟩).run Try.prog w = .ok (.value (.pointer (some ⟨B, 6, none⟩))) w := by
  go_simp
theorem run_loadG {ρ : Operand → Value} {d : Option Tmp} {ty : TypeId} {pos : String} {af : Array Edge} {g : Option (Nat × Bool)} {x : Tmp} {w : World} {B k : Nat} {v : Value} (h : ρ (.tmp x) = .pointer (some ⟨B, k, none⟩)) (hc : w.cell? ⟨B, k, none⟩ = some v) :
    (execOp ρ ⟨d, .load 30 (.tmp x), ty, pos, af, g⟩).run Try.prog w = .ok (.value v) w := by
  go_simp
theorem run_loadT {ρ : Operand → Value} {d : Option Tmp} {ty : TypeId} {pos : String} {af : Array Edge} {g : Option (Nat × Bool)} {x : Tmp} {w : World} {B k : Nat} {v : Value} (h : ρ (.tmp x) = .pointer (some ⟨B, k, none⟩)) (hc : w.cell? ⟨B, k, none⟩ = some v) :
    (execOp ρ ⟨d, .load 25 (.tmp x), ty, pos, af, g⟩).run Try.prog w = .ok (.value v) w := by
  go_simp
theorem run_storeG {ρ : Operand → Value} {d : Option Tmp} {ty : TypeId} {pos : String} {af : Array Edge} {g : Option (Nat × Bool)} {x y : Tmp} {w : World} {B k : Nat} {v u : Value} (h : ρ (.tmp x) = .pointer (some ⟨B, k, none⟩)) (hy : ρ (.tmp y) = v) (hc : w.cell? ⟨B, k, none⟩ = some u) (hf : w.frozen? ⟨B, k, none⟩ = false) (hs : ∃ a n c, v = .slice a n c) :
    (execOp ρ ⟨d, .store 30 (.tmp x) (.tmp y), ty, pos, af, g⟩).run Try.prog w = .ok .skip (w.setCell ⟨B, k, none⟩ v) := by
  obtain ⟨a, n, c, rfl⟩ := hs
  go_simp
theorem run_storeT {ρ : Operand → Value} {d : Option Tmp} {ty : TypeId} {pos : String} {af : Array Edge} {g : Option (Nat × Bool)} {x y : Tmp} {w : World} {B k : Nat} {v u : Value} (h : ρ (.tmp x) = .pointer (some ⟨B, k, none⟩)) (hy : ρ (.tmp y) = v) (hc : w.cell? ⟨B, k, none⟩ = some u) (hf : w.frozen? ⟨B, k, none⟩ = false) (hs : ∃ a n c, v = .slice a n c) :
    (execOp ρ ⟨d, .store 25 (.tmp x) (.tmp y), ty, pos, af, g⟩).run Try.prog w = .ok .skip (w.setCell ⟨B, k, none⟩ v) := by
  obtain ⟨a, n, c, rfl⟩ := hs
  go_simp

theorem run_build2 {ρ : Operand → Value} {d : Option Tmp} {ty : TypeId} {pos : String} {af : Array Edge} {g : Option (Nat × Bool)} {x y : Tmp} {w : World} {va vb : Value} (h : ρ (.tmp x) = va) (hy : ρ (.tmp y) = vb) (hA : ∃ a n c, va = .slice a n c) (hB : ∃ a n c, vb = .slice a n c) :
    (execOp ρ ⟨d, .buildSlice 77 2 #[(0, .tmp x), (1, .tmp y)], ty, pos, af, g⟩).run Try.prog w = .ok (.value (.slice (some ⟨w.heap.size, 0, none⟩) 2 2)) (w.alloc (.cells #[va, vb] 25)) := by
  obtain ⟨a, n, c, rfl⟩ := hA
  obtain ⟨a', n', c', rfl⟩ := hB
  go_simp
theorem Texts.of0 {w : World} {v : Value} {l : List ByteArray} (h : w.ownsRow 0 9 1 v l.length (l.map .string)) : Texts w v l := Texts.ofRow h

set_option maxRecDepth 100000 in
set_option maxHeartbeats 3200000 in
theorem fnCut_law (fv vA vB : Value) (plain unk : Bool) (fold : Int) (fs : List FlagD) (A B : List ByteArray) (w : World) (hv : FlagRows w fv fs) (hfl : fs.length ≤ 9223372036854775807) (hbl : ∀ f ∈ fs, f.bad.length ≤ 9223372036854775807) (htA : Texts w vA A) (hlA : A.length ≤ 9223372036854775807) (htB : Texts w vB B) (hlB : B.length ≤ 9223372036854775807) :
    Calls Try.prog 8 #[.agg #[fv, .bool plain, .bool unk, .int .i64 fold], vA, vB] w fun e w' => e = .returned (.bool true) ∧ Below w.heap.size w w' := by
  obtain ⟨fa, fc, rfl⟩ := hv.len
  obtain ⟨aa, ac, rfl, hac⟩ := htA.len
  obtain ⟨ba, bc, rfl, hbc⟩ := htB.len
  obtain ⟨w1, hw1⟩ : ∃ w1, w.alloc (.cells #[.slice fa fs.length fc, .bool plain, .bool unk, .int .i64 fold] 24) = w1 := ⟨_, rfl⟩
  have hb1 : Below w.heap.size w w1 := by rw [← hw1]; (repeat (first | (with_reducible exact Below.refl _ _) | (with_reducible assumption) | ((with_reducible refine Below.alloc ?_ ?_ _); rotate_left; focus ((try simp only [World.size_alloc, size_setCell, World.heap_drewN]); (try omega); done)) | ((with_reducible refine Below.setCell ?_ ?_ _); rotate_left; focus ((try simp only [World.size_alloc, size_setCell, World.heap_drewN]); (try omega); done)) | (with_reducible refine Below.drewN' ?_) | (with_reducible refine Below.drew ?_)))
  have hX : w1.heap[w.heap.size]? = some (.cells #[.slice fa fs.length fc, .bool plain, .bool unk, .int .i64 fold] 24 (0, 0)) := by rw [← hw1]; exact heap_at _ _ _ rfl
  have cells : ∀ w', Below w1.heap.size w1 w' → w'.cell? ⟨w.heap.size, 0, none⟩ = some (.slice fa fs.length fc) ∧ w'.cell? ⟨w.heap.size, 1, none⟩ = some (.bool plain) ∧ w'.cell? ⟨w.heap.size, 2, none⟩ = some (.bool unk) ∧ w'.cell? ⟨w.heap.size, 3, none⟩ = some (.int .i64 fold) := fun w' h => by
    have e := (h.block _ (lt_of_block hX)).trans hX
    simp only [World.cell?, e]
    exact ⟨rfl, rfl, rfl, rfl⟩
  have hbW : ∀ w', Below w1.heap.size w1 w' → Below w.heap.size w w' := fun w' h => Below.after hb1 h
  have HC := Lib.hid cells
  have HW := Lib.hid hbW
  have HV := Lib.hid (fun W (h : Below w1.heap.size w1 W) => hv.later (Below.after hb1 h).block)
  have HTA := Lib.hid (fun W (h : Below w1.heap.size w1 W) => htA.later (Below.after hb1 h).block)
  have HTB := Lib.hid (fun W (h : Below w1.heap.size w1 W) => htB.later (Below.after hb1 h).block)
  obtain ⟨a0, a1, a2, a3⟩ := cells w1 (Below.refl _ _)
  have F19 := fits19_any (.slice fa fs.length fc) plain unk fold fs w1 (hv.later hb1.block) hfl hbl
  clear cells hbW hv htA htB hX hb1
  go_enter Try.func8, Try.ntmps8
  go_wp2_with fail
  refine F19.mono ?_
  rintro e w2 ⟨⟨b2, rfl, hsf⟩, hb2⟩
  have HSF := Lib.hid hsf
  clear hsf F19 hw1 a0 a1 a2 a3
  obtain rfl | rfl : b2 = false ∨ b2 = true := by cases b2 <;> simp
  · go_wp2_with fail
    go_ret
    exact ⟨rfl, HW.out _ hb2⟩
  have HSF1 := Lib.hid (HSF.out (by trivial))
  clear HSF
  have F2 := fits2_any (.slice aa A.length ac) A w2 (HTA.out _ hb2).strs hlA
  go_wp2_with fail
  refine F2.mono ?_
  rintro e w2 ⟨⟨b3, rfl, hsl⟩, rfl⟩
  have HSL := Lib.hid hsl
  clear hsl F2
  obtain rfl | rfl : b3 = false ∨ b3 = true := by cases b3 <;> simp
  · go_wp2_with fail
    go_ret
    exact ⟨rfl, HW.out _ hb2⟩
  have HSLA := Lib.hid (HSL.out (by trivial))
  clear HSL
  have F2 := fits2_any (.slice ba B.length bc) B w2 (HTB.out _ hb2).strs hlB
  go_wp2_with fail
  refine F2.mono ?_
  rintro e w2 ⟨⟨b3, rfl, hsl⟩, rfl⟩
  have HSL := Lib.hid hsl
  clear hsl F2
  obtain rfl | rfl : b3 = false ∨ b3 = true := by cases b3 <;> simp
  · go_wp2_with fail
    go_ret
    exact ⟨rfl, HW.out _ hb2⟩
  have HSLB := Lib.hid (HSL.out (by trivial))
  clear HSL
  obtain ⟨a0, a1, a2, a3⟩ := HC.out _ hb2
  have FR := right_any (.slice fa fs.length fc) fs plain unk fold w2 (HV.out _ hb2) HSF1.out.1 (fun f hf => ⟨(HSF1.out.2 f hf).1, (HSF1.out.2 f hf).2.1⟩)
  go_wp2_with fail
  refine FR.mono ?_
  rintro e w4 ⟨⟨b4, rfl, hr⟩, hb4⟩
  have hb4 := Below.after hb2 hb4
  have HR := Lib.hid hr
  clear hr FR a0 a1 a2 a3 hb2
  obtain rfl | rfl : b4 = false ∨ b4 = true := by cases b4 <;> simp
  · go_wp2_with fail
    refine (lives14_any _).mono ?_
    rintro e w9 ⟨rfl, hb9⟩
    go_wp2_with fail
    go_ret
    exact ⟨rfl, HW.out _ (Below.after hb4 hb9)⟩
  have HR1 := Lib.hid (HR.out (by trivial))
  clear HR
  have hb5 := Below.after hb4 ((Below.refl _ w4).alloc (Nat.le_refl _) (.cells #[.slice aa A.length ac, .slice ba B.length bc] 25))
  have F14 := fits14_any (.slice (some ⟨w4.heap.size, 0, none⟩) 2 2) [A, B] (w4.alloc (.cells #[.slice aa A.length ac, .slice ba B.length bc] 25)) (StrRows.made2 (ty := 25) (fz := (0, 0)) 2 (heap_at _ _ _ rfl) (HTA.out _ hb5).strs (HTB.out _ hb5).strs) (by simp) (by intro l' h'; simp only [List.mem_cons, List.not_mem_nil, or_false] at h'; rcases h' with rfl | rfl; exact HSLA.out; exact HSLB.out)
  go_wp2_with fail
  refine F14.mono ?_
  rintro e w5 ⟨rfl, rfl⟩
  obtain hf | hf : fitsF [A, B] = false ∨ fitsF [A, B] = true := by cases fitsF [A, B] <;> simp
  · rw [hf]
    go_wp2_with fail
    refine (lives14_any _).mono ?_
    rintro e w9 ⟨rfl, hb9⟩
    go_wp2_with fail
    go_ret
    exact ⟨rfl, HW.out _ (Below.after hb5 hb9)⟩
  rw [hf]
  obtain ⟨fA, fB⟩ := fits_two hf
  have hlA2 : A.length ≤ 1048576 := Nat.le_trans (len_bytesOf A) fA
  have hlB2 : B.length ≤ 1048576 := Nat.le_trans (len_bytesOf B) fB
  obtain ⟨a0, a1, a2, a3⟩ := HC.out _ hb5
  obtain ⟨rq, r0, r3⟩ := HR1.out
  obtain ⟨e1, e2⟩ := and_bits fold r0 r3
  have RP := right_of (plain := plain) (unk := unk) rq r0 r3 HSF1.out
  generalize w4.alloc (.cells #[.slice aa A.length ac, .slice ba B.length bc] 25) = w5 at *
  have HRP := Lib.hid RP
  have HRQ := Lib.hid rq
  have HE1 := Lib.hid e1
  have HE2 := Lib.hid e2
  clear F14 rq RP e1 e2 HR1 hb4 hf
  have FC := complete14_any (.slice fa fs.length fc) (.slice aa A.length ac) plain unk fold (setD fs plain unk fold) w5 (HV.out _ hb5) rfl rfl rfl rfl HRP.out A (HTA.out _ hb5) (wide HSLA.out.2) hlA2 fA
  go_wp2_with fail
  refine FC.mono ?_
  rintro e w6 ⟨⟨b6, rfl, hwh⟩, hb6⟩
  have hb6 := Below.after hb5 hb6
  have HWH := Lib.hid hwh
  clear FC hwh a0 a1 a2 a3
  obtain rfl | rfl : b6 = false ∨ b6 = true := by cases b6 <;> simp
  · go_wp2_with fail
    refine (lives14_any _).mono ?_
    rintro e w9 ⟨rfl, hb9⟩
    go_wp2_with fail
    go_ret
    exact ⟨rfl, HW.out _ (Below.after hb6 hb9)⟩
  have HWA := Lib.hid (HWH.out (by trivial))
  clear HWH
  obtain ⟨a0, a1, a2, a3⟩ := HC.out _ hb6
  have HP1 : Hid (∀ W v, Below w1.heap.size w1 W → Texts W v (A) → Calls Try.prog 20 #[.agg #[.slice fa fs.length fc, .bool plain, .bool unk, .int .i64 fold], v] W fun e w' => HeardOwn e w' W.heap.size (goesF (setD fs plain unk fold) .sets (A) begin0) (chgU (goesF (setD fs plain unk fold) .sets (A) begin0).given fs.length) ∧ Below W.heap.size W w') :=
    Lib.hid (fun W v hb ht => implParse_own (.slice fa fs.length fc) v plain unk fold (setD fs plain unk fold) W (HV.out _ hb) rfl rfl rfl rfl HRP.out _ ht (wide HSLA.out.2) (by omega) (by omega))
  have HP2 : Hid (∀ W v, Below w1.heap.size w1 W → Texts W v (B) → Calls Try.prog 20 #[.agg #[.slice fa fs.length fc, .bool plain, .bool unk, .int .i64 fold], v] W fun e w' => HeardOwn e w' W.heap.size (goesF (setD fs plain unk fold) .sets (B) begin0) (chgU (goesF (setD fs plain unk fold) .sets (B) begin0).given fs.length) ∧ Below W.heap.size W w') :=
    Lib.hid (fun W v hb ht => implParse_own (.slice fa fs.length fc) v plain unk fold (setD fs plain unk fold) W (HV.out _ hb) rfl rfl rfl rfl HRP.out _ ht (wide HSLB.out.2) (by omega) (by omega))
  have HP3 : Hid (∀ W v, Below w1.heap.size w1 W → Texts W v (A ++ B) → Calls Try.prog 20 #[.agg #[.slice fa fs.length fc, .bool plain, .bool unk, .int .i64 fold], v] W fun e w' => HeardOwn e w' W.heap.size (goesF (setD fs plain unk fold) .sets (A ++ B) begin0) (chgU (goesF (setD fs plain unk fold) .sets (A ++ B) begin0).given fs.length) ∧ Below W.heap.size W w') :=
    Lib.hid (fun W v hb ht => implParse_own (.slice fa fs.length fc) v plain unk fold (setD fs plain unk fold) W (HV.out _ hb) rfl rfl rfl rfl HRP.out _ ht (by intro t h; rcases List.mem_append.1 h with h | h; exact wide HSLA.out.2 t h; exact wide HSLB.out.2 t h) (by rw [List.length_append]; omega) (by rw [bytesOf_append]; omega))
  have hsh := whole_shift HWA.out B
  have hdl : (goesF (setD fs plain unk fold) .sets B begin0).dash ≤ ((goesF (setD fs plain unk fold) .sets B begin0).args.length : Int) := goesN_dash_le _ _ _ _ _ (by simp [begin0])
  have z1 := run_sizes (setD fs plain unk fold) .sets A fA
  have z2 := run_sizes (setD fs plain unk fold) .sets B fB
  have zA : (goesF (setD fs plain unk fold) .sets A begin0).args.length ≤ 1048576 := by
    have q : (goesF (setD fs plain unk fold) .sets A begin0).args.length ≤ begin0.args.length + A.length := goes_args _ _ _ _ _
    simp only [begin0, List.length_nil] at q ⊢; omega
  have zB : (goesF (setD fs plain unk fold) .sets B begin0).args.length ≤ 1048576 := by
    have q : (goesF (setD fs plain unk fold) .sets B begin0).args.length ≤ begin0.args.length + B.length := goes_args _ _ _ _ _
    simp only [begin0, List.length_nil] at q ⊢; omega
  have zGA : (goesF (setD fs plain unk fold) .sets A begin0).given.length ≤ 1048576 := by
    have q : (goesF (setD fs plain unk fold) .sets A begin0).given.length ≤ begin0.given.length + bytesOf A := goesN_given _ _ _ _ _
    simp only [begin0, List.length_nil] at q ⊢; omega
  have zGB : (goesF (setD fs plain unk fold) .sets B begin0).given.length ≤ 1048576 := by
    have q : (goesF (setD fs plain unk fold) .sets B begin0).given.length ≤ begin0.given.length + bytesOf B := goesN_given _ _ _ _ _
    simp only [begin0, List.length_nil] at q ⊢; omega
  have P1 := HP1.out
  have P2 := HP2.out
  have P3 := HP3.out
  rw [hsh] at P3
  generalize goesF (setD fs plain unk fold) .sets A begin0 = r1 at *
  generalize goesF (setD fs plain unk fold) .sets B begin0 = r2 at *
  obtain ⟨r3, hr3⟩ : ∃ r, shiftR r1.given r1.args r2 = r := ⟨_, rfl⟩
  obtain ⟨c1, hc1⟩ : ∃ c, chgU r1.given fs.length = c := ⟨_, rfl⟩
  obtain ⟨c2, hc2⟩ : ∃ c, chgU r2.given fs.length = c := ⟨_, rfl⟩
  obtain ⟨c3, hc3⟩ : ∃ c, chgU r3.given fs.length = c := ⟨_, rfl⟩
  rw [hr3, hc3] at P3
  rw [hc1] at P1
  rw [hc2] at P2
  have F3 : Hid (r3.err = r2.err ∧ r3.given = r1.given ++ r2.given ∧ r3.args = r1.args ++ r2.args ∧ r3.dash = (if 0 ≤ r2.dash then r2.dash + r1.args.length else r2.dash) ∧ c3 = chgU (r1.given ++ r2.given) fs.length ∧ c3.length ≤ 1099511627776) := Lib.hid (by
    subst hr3
    refine ⟨rfl, rfl, rfl, rfl, hc3.symm, ?_⟩
    have q := chgU_len (shiftR r1.given r1.args r2).given fs.length
    have := HSF1.out.1
    rw [hc3] at q
    omega)
  have HQ1 := Lib.hid P1
  have HQ2 := Lib.hid P2
  have HQ3 := Lib.hid P3
  have HZ1 := Lib.hid (And.intro zA (And.intro zB (And.intro zGA zGB)))
  have HDL := Lib.hid hdl
  have hwbd := (Below.refl w6.heap.size w6).drew
  clear HP1 HP2 HP3 P1 P2 P3 z1 z2 hc1 hc2 hc3 hr3 hsh hdl zA zB zGA zGB
  go_upto_region 5 with fail
  clear a0 a1 a2 a3
  go_cut [7, 8, 9] from 40 to 51 (fun v7 v8 v9 wx => HeardVar w6 w6.heap.size wx v7 r1 c1 ∧ HeardVar w6 w6.heap.size wx v8 r2 c2 ∧ HeardVar w6 w6.heap.size wx v9 r3 c3 ∧ v7 ≠ v8 ∧ v8 ≠ v9)
  case first =>
    rename_i J K' hR hK
    have WF := cut_wf (.agg #[.slice fa fs.length fc, .bool plain, .bool unk, .int .i64 fold]) .nilIface .nilIface A B (.slice aa A.length ac) (.slice ba B.length bc) r1 r2 r3 c1 c2 c3
    refine wp_region_og cutD (OgI w6 w6.heap.size (cutVals (.agg #[.slice fa fs.length fc, .bool plain, .bool unk, .int .i64 fold]) .nilIface .nilIface A B (.slice aa A.length ac) (.slice ba B.length bc) r1 r2 r3 c1 c2 c3) (cutVars r1 r2 r3 c1 c2 c3)) (by kernel_rfl) (by kernel_rfl) (OgI.start hwbd hwbd.size) ?_ ?_
    · intro i o ho L f wz hl hp hI
      have hi : i < 18 := (Array.getElem?_eq_some_iff.1 ho).1
      have hbw := Below.after hb6 hI.bel
      obtain ⟨s0, s1, s2, s3⟩ := HC.out _ hbw
      obtain rfl | rfl | rfl | rfl | rfl | rfl | rfl | rfl | rfl | rfl | rfl | rfl | rfl | rfl | rfl | rfl | rfl | rfl : i = 0 ∨ i = 1 ∨ i = 2 ∨ i = 3 ∨ i = 4 ∨ i = 5 ∨ i = 6 ∨ i = 7 ∨ i = 8 ∨ i = 9 ∨ i = 10 ∨ i = 11 ∨ i = 12 ∨ i = 13 ∨ i = 14 ∨ i = 15 ∨ i = 16 ∨ i = 17 := by omega
      all_goals obtain rfl := Option.some.inj ho
      · exact og_op rfl rfl (og_value (run_loadSet ((over_eval_out _ _ _ (by decide)).trans rfl) s0 s1 s2 s3) ⟨_, over_put _ _ _ (by decide) _, hI.value WF _ (List.mem_of_getElem? (i := 0) rfl) _ (Below.refl _ _) rfl⟩)
      · exact og_op rfl rfl (og_value (run_move ((over_eval_out _ _ _ (by decide)).trans rfl)) ⟨_, over_put _ _ _ (by decide) _, hI.value WF _ (List.mem_of_getElem? (i := 1) rfl) _ (Below.refl _ _) rfl⟩)
      · have _u := True.intro
        have e1 := hI.v _ (List.mem_of_getElem? (i := 0) rfl) (hp ⟨0, .data⟩ (by simp) rfl)
        have e2 := hI.v _ (List.mem_of_getElem? (i := 1) rfl) (hp ⟨1, .data⟩ (by simp) rfl)
        refine og_op rfl rfl (og_call (run_call2 ((over_eval _ _ _ (by decide) (by show 40 < 87; omega)).trans e1) ((over_eval _ _ _ (by decide) (by show 41 < 87; omega)).trans e2) rfl (fun args => by simp [go_sem])) ?_)
        refine (HQ1.out wz _ hbw (HTA.out _ hbw)).mono ?_
        rintro e w' ⟨⟨ga, gc, qa, qc, ca, cc, rfl, hrows⟩, hb'⟩
        exact ⟨_, rfl, _, over_put _ _ _ (by decide) _, hI.value WF _ (List.mem_of_getElem? (i := 2) rfl) _ hb' ⟨ga, gc, qa, qc, ca, cc, rfl, hrows.lower (Nat.zero_le _)⟩⟩
      · exact og_op rfl rfl (og_value (run_loadSet ((over_eval_out _ _ _ (by decide)).trans rfl) s0 s1 s2 s3) ⟨_, over_put _ _ _ (by decide) _, hI.value WF _ (List.mem_of_getElem? (i := 3) rfl) _ (Below.refl _ _) rfl⟩)
      · exact og_op rfl rfl (og_value (run_move ((over_eval_out _ _ _ (by decide)).trans rfl)) ⟨_, over_put _ _ _ (by decide) _, hI.value WF _ (List.mem_of_getElem? (i := 4) rfl) _ (Below.refl _ _) rfl⟩)
      · have _u := True.intro
        have e1 := hI.v _ (List.mem_of_getElem? (i := 3) rfl) (hp ⟨3, .data⟩ (by simp) rfl)
        have e2 := hI.v _ (List.mem_of_getElem? (i := 4) rfl) (hp ⟨4, .data⟩ (by simp) rfl)
        refine og_op rfl rfl (og_call (run_call2 ((over_eval _ _ _ (by decide) (by show 43 < 87; omega)).trans e1) ((over_eval _ _ _ (by decide) (by show 44 < 87; omega)).trans e2) rfl (fun args => by simp [go_sem])) ?_)
        refine (HQ2.out wz _ hbw (HTB.out _ hbw)).mono ?_
        rintro e w' ⟨⟨ga, gc, qa, qc, ca, cc, rfl, hrows⟩, hb'⟩
        exact ⟨_, rfl, _, over_put _ _ _ (by decide) _, hI.value WF _ (List.mem_of_getElem? (i := 5) rfl) _ hb' ⟨ga, gc, qa, qc, ca, cc, rfl, hrows.lower (Nat.zero_le _)⟩⟩
      · exact og_op rfl rfl (og_value (run_loadSet ((over_eval_out _ _ _ (by decide)).trans rfl) s0 s1 s2 s3) ⟨_, over_put _ _ _ (by decide) _, hI.value WF _ (List.mem_of_getElem? (i := 6) rfl) _ (Below.refl _ _) rfl⟩)
      · exact og_op rfl rfl (og_value (run_move ((over_eval_out _ _ _ (by decide)).trans rfl)) ⟨_, over_put _ _ _ (by decide) _, hI.value WF _ (List.mem_of_getElem? (i := 7) rfl) _ (Below.refl _ _) rfl⟩)
      · exact og_op rfl rfl (og_value (run_move ((over_eval_out _ _ _ (by decide)).trans rfl)) ⟨_, over_put _ _ _ (by decide) _, hI.value WF _ (List.mem_of_getElem? (i := 8) rfl) _ (Below.refl _ _) rfl⟩)
      · have _u := True.intro
        have e1 := hI.v _ (List.mem_of_getElem? (i := 7) rfl) (hp ⟨7, .data⟩ (by simp) rfl)
        have e2 := hI.v _ (List.mem_of_getElem? (i := 8) rfl) (hp ⟨8, .data⟩ (by simp) rfl)
        have hba : Below wz.heap.size wz (wz.alloc (.cells #[.slice aa A.length ac, .slice ba B.length bc] 25)) := (Below.refl _ _).alloc (Nat.le_refl _) _
        exact og_op rfl rfl (og_value (run_build2 ((over_eval _ _ _ (by decide) (by show 47 < 87; omega)).trans e1) ((over_eval _ _ _ (by decide) (by show 48 < 87; omega)).trans e2) ⟨_, _, _, rfl⟩ ⟨_, _, _, rfl⟩) ⟨_, over_put _ _ _ (by decide) _, hI.value WF _ (List.mem_of_getElem? (i := 9) rfl) _ hba ⟨wz.heap.size, rfl, heap_at _ _ _ rfl, trivial⟩⟩)
      · have _u := True.intro
        have e1 := hI.v _ (List.mem_of_getElem? (i := 9) rfl) (hp ⟨9, .data⟩ (by simp) rfl)
        obtain ⟨q, eq, hq, -⟩ := e1
        refine og_op rfl rfl (og_call (run_call1 ((over_eval _ _ _ (by decide) (by show 49 < 87; omega)).trans eq) rfl (fun args => by simp [go_sem])) ?_)
        have e2 : [A, B].flatten = A ++ B := by simp
        have LL := list14_any (.slice (some ⟨q, 0, none⟩) 2 2) [A, B] wz (StrRows.made2 2 hq (HTA.out _ hbw).strs (HTB.out _ hbw).strs) (by simp) (by rw [e2, List.length_append]; omega)
        rw [e2] at LL
        refine LL.mono ?_
        rintro e w' ⟨rv, rfl, hrow, hb'⟩
        exact ⟨_, rfl, _, over_put _ _ _ (by decide) _, hI.value WF _ (List.mem_of_getElem? (i := 10) rfl) _ hb' (row_lower hrow (Nat.zero_le _))⟩
      · have _u := True.intro
        have e1 := hI.v _ (List.mem_of_getElem? (i := 6) rfl) (hp ⟨6, .data⟩ (by simp) rfl)
        have e2 := hI.v _ (List.mem_of_getElem? (i := 10) rfl) (hp ⟨10, .data⟩ (by simp) rfl)
        refine og_op rfl rfl (og_call (run_call2 ((over_eval _ _ _ (by decide) (by show 46 < 87; omega)).trans e1) ((over_eval _ _ _ (by decide) (by show 50 < 87; omega)).trans rfl) rfl (fun args => by simp [go_sem])) ?_)
        refine (HQ3.out wz _ hbw (Texts.of0 e2)).mono ?_
        rintro e w' ⟨⟨ga, gc, qa, qc, ca, cc, rfl, hrows⟩, hb'⟩
        exact ⟨_, rfl, _, over_put _ _ _ (by decide) _, hI.value WF _ (List.mem_of_getElem? (i := 11) rfl) _ hb' ⟨ga, gc, qa, qc, ca, cc, rfl, hrows.lower (Nat.zero_le _)⟩⟩
      · exact og_op rfl rfl (og_value run_allocHeard ⟨_, over_put _ _ _ (by decide) _, hI.made WF _ (List.mem_of_getElem? (i := 0) rfl) hl⟩)
      · exact og_op rfl rfl (og_value run_allocHeard ⟨_, over_put _ _ _ (by decide) _, hI.made WF _ (List.mem_of_getElem? (i := 1) rfl) hl⟩)
      · exact og_op rfl rfl (og_value run_allocHeard ⟨_, over_put _ _ _ (by decide) _, hI.made WF _ (List.mem_of_getElem? (i := 2) rfl) hl⟩)
      · have ha := hp ⟨12, .data⟩ (by simp) rfl
        obtain ⟨B0, eB, hB1, hB2, hB3⟩ := (hI.p _ (List.mem_of_getElem? (i := 0) rfl)).at_ ha
        obtain ⟨ga, gc, qa, qc, ca, cc, e1, hrows⟩ := hI.v _ (List.mem_of_getElem? (i := 2) rfl) (hp ⟨2, .data⟩ (by simp) rfl)
        exact og_op rfl rfl (og_skip (run_storeHeard ((over_eval _ _ _ (by decide) (by show 7 < 87; omega)).trans eB) ((over_eval _ _ _ (by decide) (by show 42 < 87; omega)).trans e1) (hB3 hl) ⟨_, _, _, rfl⟩ ⟨_, _, _, rfl⟩ ⟨_, _, _, rfl⟩) ⟨f, rfl, hI.stored WF _ (List.mem_of_getElem? (i := 0) rfl) ha hl eB hrows⟩)
      · have ha := hp ⟨13, .data⟩ (by simp) rfl
        obtain ⟨B0, eB, hB1, hB2, hB3⟩ := (hI.p _ (List.mem_of_getElem? (i := 1) rfl)).at_ ha
        obtain ⟨ga, gc, qa, qc, ca, cc, e1, hrows⟩ := hI.v _ (List.mem_of_getElem? (i := 5) rfl) (hp ⟨5, .data⟩ (by simp) rfl)
        exact og_op rfl rfl (og_skip (run_storeHeard ((over_eval _ _ _ (by decide) (by show 8 < 87; omega)).trans eB) ((over_eval _ _ _ (by decide) (by show 45 < 87; omega)).trans e1) (hB3 hl) ⟨_, _, _, rfl⟩ ⟨_, _, _, rfl⟩ ⟨_, _, _, rfl⟩) ⟨f, rfl, hI.stored WF _ (List.mem_of_getElem? (i := 1) rfl) ha hl eB hrows⟩)
      · have ha := hp ⟨14, .data⟩ (by simp) rfl
        obtain ⟨B0, eB, hB1, hB2, hB3⟩ := (hI.p _ (List.mem_of_getElem? (i := 2) rfl)).at_ ha
        obtain ⟨ga, gc, qa, qc, ca, cc, e1, hrows⟩ := hI.v _ (List.mem_of_getElem? (i := 11) rfl) (hp ⟨11, .data⟩ (by simp) rfl)
        exact og_op rfl rfl (og_skip (run_storeHeard ((over_eval _ _ _ (by decide) (by show 9 < 87; omega)).trans eB) ((over_eval _ _ _ (by decide) (by show 51 < 87; omega)).trans e1) (hB3 hl) ⟨_, _, _, rfl⟩ ⟨_, _, _, rfl⟩ ⟨_, _, _, rfl⟩) ⟨f, rfl, hI.stored WF _ (List.mem_of_getElem? (i := 2) rfl) ha hl eB hrows⟩)
    · intro L f wz hl hI
      have v1 := (hI.p _ (List.mem_of_getElem? (i := 0) rfl)).held (hl 15 (by show 15 < 18; omega))
      have v2 := (hI.p _ (List.mem_of_getElem? (i := 1) rfl)).held (hl 16 (by show 16 < 18; omega))
      have v3 := (hI.p _ (List.mem_of_getElem? (i := 2) rfl)).held (hl 17 (by show 17 < 18; omega))
      have n1 := hI.ne _ (List.mem_of_getElem? (i := 0) rfl) _ (List.mem_of_getElem? (i := 1) rfl) (by show (7 : Nat) ≠ 8; decide) (hl 12 (by show 12 < 18; omega)) (hl 13 (by show 13 < 18; omega))
      have n2 := hI.ne _ (List.mem_of_getElem? (i := 1) rfl) _ (List.mem_of_getElem? (i := 2) rfl) (by show (8 : Nat) ≠ 9; decide) (hl 13 (by show 13 < 18; omega)) (hl 14 (by show 14 < 18; omega))
      refine hK _ _ (Met.intro (hR _ _ ?_))
      (repeat apply Exists.intro)
      refine ⟨⟨v1, v2, v3, n1, n2⟩, ?_⟩
      rfl
  case rest =>
  obtain ⟨hv1, hv2, hv3, n12, n23⟩ := hcut
  have hbA : Below w6.heap.size w6 wc := by obtain ⟨_, _, _, _, _, _, _, _, _, _, _, q⟩ := hv1; exact q
  obtain ⟨B1, gv1, av1, cv1, rfl, hB1, X1⟩ := hv1.varB
  obtain ⟨B2, gv2, av2, cv2, rfl, hB2, X2⟩ := hv2.varB
  obtain ⟨B3, gv3, av3, cv3, rfl, hB3, X3⟩ := hv3.varB
  have m12 : B1 ≠ B2 := fun e => n12 (by rw [e])
  have m32 : B3 ≠ B2 := fun e => n23 (by rw [e])
  obtain ⟨w7, rfl⟩ : ∃ w7 : World, w7 = wc := ⟨_, rfl⟩
  obtain ⟨⟨g1a, g1c, rfl⟩, ⟨a1a, a1c, rfl⟩, ⟨k1a, k1c, rfl⟩⟩ := X1.sl
  obtain ⟨⟨g2a, g2c, rfl⟩, ⟨a2a, a2c, rfl⟩, ⟨k2a, k2c, rfl⟩⟩ := X2.sl
  have hb7 := Below.after hb6 hbA
  have y7 := cell_of X2.h 7 (.int .i64 r2.dash) rfl
  have yf := frozen_of X2.h 7
  have x6 := cell_of X1.h 6 (.slice a1a r1.args.length a1c) rfl
  have HX1 := Lib.hid X1
  have HX2 := Lib.hid X2
  have HX3 := Lib.hid X3
  have HBA := Lib.hid hbA
  have HMM := Lib.hid (And.intro hB2 (And.intro m12 m32))
  clear hv1 hv2 hv3 n12 n23 X1 X2 X3 hbA hB1 hB2 hB3 m12 m32
  obtain ⟨dB, hdB⟩ : ∃ d, r2.dash = d := ⟨_, rfl⟩
  rw [hdB] at y7
  have hdl : dB ≤ 1048576 := by have q1 := HDL.out; have q2 := HZ1.out.2.1; rw [hdB] at q1; omega
  have hal : r1.args.length ≤ 1048576 := HZ1.out.1
  have HDB := Lib.hid hdB
  clear hdB
  go_upto_if 54 with fail
  go_cut [] from 54 to 61 (fun wx => Mod B2 w7 wx ∧ wx.heap[B2]? = some (.cells (hCells r2.err r3.dash true (.slice g2a r2.given.length g2c) (.slice a2a r2.args.length a2c) (.slice k2a c2.length k2c)) 33 (0, 0)))
  case first =>
    have HD : Hid (r3.dash = if 0 ≤ dB then dB + r1.args.length else dB) := Lib.hid (by rw [F3.out.2.2.2.1, HDB.out])
    by_cases hd : 0 ≤ dB
    · have HQ : Hid (Mod B2 w7 (w7.setCell ⟨B2, 7, none⟩ (.int .i64 (dB + r1.args.length))) ∧ (w7.setCell ⟨B2, 7, none⟩ (.int .i64 (dB + r1.args.length))).heap[B2]? = some (.cells (hCells r2.err r3.dash true (.slice g2a r2.given.length g2c) (.slice a2a r2.args.length a2c) (.slice k2a c2.length k2c)) 33 (0, 0))) := Lib.hid (by
        refine ⟨Mod.set _ _ _ _, ?_⟩
        rw [HD.out, if_pos hd]
        exact heap_set HX2.out.h 7 _)
      go_wp2_with fail
      go_meet
      exact HQ.out
    · have HQ : Hid (w7.heap[B2]? = some (.cells (hCells r2.err r3.dash true (.slice g2a r2.given.length g2c) (.slice a2a r2.args.length a2c) (.slice k2a c2.length k2c)) 33 (0, 0))) := Lib.hid (by
        rw [HD.out, if_neg hd]
        have q := HX2.out.h
        rw [HDB.out] at q
        exact q)
      go_wp2_with fail
      go_meet
      exact ⟨Mod.refl _ _, HQ.out⟩
  case rest =>
  obtain ⟨hm, hy⟩ := hcut
  obtain ⟨w8, rfl⟩ : ∃ w8 : World, w8 = wc := ⟨_, rfl⟩
  obtain ⟨hB2, m12, m32⟩ := HMM.out
  have Y1 := HX1.out.mod hm m12 HX2.out.h
  have Y3 := HX3.out.mod hm m32 HX2.out.h
  have YR := hm.rows HX2.out.h HX2.out.rows
  have hbB := hm.below hB2 HBA.out
  have hb8 := Below.after hb6 hbB
  have hbd := hbB.drew
  have HY1 := Lib.hid Y1
  have HY3 := Lib.hid Y3
  have HYR := Lib.hid YR
  have HYY := Lib.hid hy
  have HBB := Lib.hid hbB
  clear Y1 Y3 YR hm hy y7 yf x6 hdl hal hbB
  go_upto_region 8 with fail
  go_cut [] from 62 to 75 (fun wx => (∃ G A, wx.heap[B2]? = some (.cells (hCells r2.err r3.dash true G A (.slice k2a c2.length k2c)) 33 (0, 0)) ∧ wx.ownsRow 0 94 2 G (r1.given ++ r2.given).length (flat (r1.given ++ r2.given)) ∧ wx.ownsRow 0 9 1 A (r1.args ++ r2.args).length ((r1.args ++ r2.args).map .string)) ∧ VarB wx B3 r3 c3 gv3 av3 cv3 ∧ Below w6.heap.size w6 wx)
  case first =>
    rename_i J K' hR hK
    obtain ⟨z1, z2, z3, z4⟩ := HZ1.out
    have WF := cutE_wf B1 B2 (.slice g1a r1.given.length g1c) (.slice g2a r2.given.length g2c) (.slice a1a r1.args.length a1c) (.slice a2a r2.args.length a2c) (r1.given ++ r2.given) (r1.args ++ r2.args) (fun w => VarB w B1 r1 c1 (.slice g1a r1.given.length g1c) (.slice a1a r1.args.length a1c) (.slice k1a c1.length k1c) ∧ VarB w B3 r3 c3 gv3 av3 cv3 ∧ HeardRows w 0 (.slice g2a r2.given.length g2c) (.slice a2a r2.args.length a2c) (.slice k2a c2.length k2c) r2 c2)
      (fun w w' h hb => ⟨h.1.grow hb, h.2.1.grow hb, h.2.2.below hb⟩) (fun w w' c h hB hm => ⟨h.1.mod hm m12 hB, h.2.1.mod hm m32 hB, hm.rows hB h.2.2⟩)
    refine wp_region_og cutE (OgJ w6 w6.heap.size B2 (cutValsE B1 B2 (.slice g1a r1.given.length g1c) (.slice g2a r2.given.length g2c) (.slice a1a r1.args.length a1c) (.slice a2a r2.args.length a2c) (r1.given ++ r2.given) (r1.args ++ r2.args)) (fun w => VarB w B1 r1 c1 (.slice g1a r1.given.length g1c) (.slice a1a r1.args.length a1c) (.slice k1a c1.length k1c) ∧ VarB w B3 r3 c3 gv3 av3 cv3 ∧ HeardRows w 0 (.slice g2a r2.given.length g2c) (.slice a2a r2.args.length a2c) (.slice k2a c2.length k2c) r2 c2)
      (fun G A => hCells r2.err r3.dash true G A (.slice k2a c2.length k2c)) (fun v w => w.ownsRow 0 94 2 v (r1.given ++ r2.given).length (flat (r1.given ++ r2.given))) (fun v w => w.ownsRow 0 9 1 v (r1.args ++ r2.args).length ((r1.args ++ r2.args).map .string)) (.slice g2a r2.given.length g2c) (.slice a2a r2.args.length a2c)) (by kernel_rfl) (by kernel_rfl) ?_ ?_ ?_
    · exact ⟨hbd, hbd.size, fun _ _ h => Bool.noConfusion h, ⟨HY1.out.grow (Below.refl _ _).drew, HY3.out.grow (Below.refl _ _).drew, HYR.out.below (Below.refl _ _).drew⟩, ⟨_, _, HYY.out, fun _ => rfl, fun h => Bool.noConfusion h, fun _ => rfl, fun h => Bool.noConfusion h⟩, fun h => by rcases h with h | h <;> cases h⟩
    · intro i o ho L f wz hl hp hI
      have hi : i < 16 := (Array.getElem?_eq_some_iff.1 ho).1
      obtain rfl | rfl | rfl | rfl | rfl | rfl | rfl | rfl | rfl | rfl | rfl | rfl | rfl | rfl | rfl | rfl : i = 0 ∨ i = 1 ∨ i = 2 ∨ i = 3 ∨ i = 4 ∨ i = 5 ∨ i = 6 ∨ i = 7 ∨ i = 8 ∨ i = 9 ∨ i = 10 ∨ i = 11 ∨ i = 12 ∨ i = 13 ∨ i = 14 ∨ i = 15 := by omega
      all_goals obtain rfl := Option.some.inj ho
      · exact og_op rfl rfl (og_value (run_field5 ((over_eval_out _ _ _ (by decide)).trans rfl)) ⟨_, over_put _ _ _ (by decide) _, hI.value WF _ (List.mem_of_getElem? (i := 0) rfl) _ (Below.refl _ _) rfl⟩)
      · have e1 := hI.v _ (List.mem_of_getElem? (i := 0) rfl) (hp ⟨0, .data⟩ (by simp) rfl)
        exact og_op rfl rfl (og_value (run_loadG ((over_eval _ _ _ (by decide) (by show 62 < 87; omega)).trans e1) (cell_of hI.p.1.h 5 _ rfl)) ⟨_, over_put _ _ _ (by decide) _, hI.value WF _ (List.mem_of_getElem? (i := 1) rfl) _ (Below.refl _ _) rfl⟩)
      · exact og_op rfl rfl (og_value (run_field5 ((over_eval_out _ _ _ (by decide)).trans rfl)) ⟨_, over_put _ _ _ (by decide) _, hI.value WF _ (List.mem_of_getElem? (i := 2) rfl) _ (Below.refl _ _) rfl⟩)
      · have e1 := hI.v _ (List.mem_of_getElem? (i := 2) rfl) (hp ⟨2, .data⟩ (by simp) rfl)
        obtain ⟨G, A', q1, q2, -⟩ := hI.y
        have n13 : L 13 = false := by
          cases hc : L 13 with
          | false => rfl
          | true => rw [(hI.ph (.inl hc)).1] at hl; cases hl
        obtain rfl := q2 n13
        exact og_op rfl rfl (og_value (run_loadG ((over_eval _ _ _ (by decide) (by show 64 < 87; omega)).trans e1) (cell_of q1 5 _ rfl)) ⟨_, over_put _ _ _ (by decide) _, hI.value WF _ (List.mem_of_getElem? (i := 3) rfl) _ (Below.refl _ _) rfl⟩)
      · have e1 := hI.v _ (List.mem_of_getElem? (i := 1) rfl) (hp ⟨1, .data⟩ (by simp) rfl)
        have e2 := hI.v _ (List.mem_of_getElem? (i := 3) rfl) (hp ⟨3, .data⟩ (by simp) rfl)
        have hba : Below wz.heap.size wz (wz.alloc (.cells #[.slice g1a r1.given.length g1c, .slice g2a r2.given.length g2c] 30)) := (Below.refl _ _).alloc (Nat.le_refl _) _
        exact og_op rfl rfl (og_value (run_build2G ((over_eval _ _ _ (by decide) (by show 63 < 87; omega)).trans e1) ((over_eval _ _ _ (by decide) (by show 65 < 87; omega)).trans e2) ⟨_, _, _, rfl⟩ ⟨_, _, _, rfl⟩) ⟨_, over_put _ _ _ (by decide) _, hI.value WF _ (List.mem_of_getElem? (i := 4) rfl) _ hba ⟨wz.heap.size, rfl, heap_at _ _ _ rfl, trivial⟩⟩)
      · have e1 := hI.v _ (List.mem_of_getElem? (i := 4) rfl) (hp ⟨4, .data⟩ (by simp) rfl)
        obtain ⟨q, eq, hq, -⟩ := e1
        refine og_op rfl rfl (og_call (run_call1 ((over_eval _ _ _ (by decide) (by show 66 < 87; omega)).trans eq) rfl (fun args => by simp [go_sem])) ?_)
        refine (given14_any q r1.given r2.given _ _ wz hq hI.p.1.read.1 (Givens.ofRow hI.p.2.2.1) (by rw [List.length_append]; omega)).mono ?_
        rintro e w' ⟨rv, rfl, hrow, hb'⟩
        exact ⟨_, rfl, _, over_put _ _ _ (by decide) _, hI.value WF _ (List.mem_of_getElem? (i := 5) rfl) _ hb' (row_lower hrow (Nat.zero_le _))⟩
      · exact og_op rfl rfl (og_value (run_field6 ((over_eval_out _ _ _ (by decide)).trans rfl)) ⟨_, over_put _ _ _ (by decide) _, hI.value WF _ (List.mem_of_getElem? (i := 6) rfl) _ (Below.refl _ _) rfl⟩)
      · have e1 := hI.v _ (List.mem_of_getElem? (i := 6) rfl) (hp ⟨6, .data⟩ (by simp) rfl)
        exact og_op rfl rfl (og_value (run_loadT ((over_eval _ _ _ (by decide) (by show 68 < 87; omega)).trans e1) (cell_of hI.p.1.h 6 _ rfl)) ⟨_, over_put _ _ _ (by decide) _, hI.value WF _ (List.mem_of_getElem? (i := 7) rfl) _ (Below.refl _ _) rfl⟩)
      · exact og_op rfl rfl (og_value (run_field6 ((over_eval_out _ _ _ (by decide)).trans rfl)) ⟨_, over_put _ _ _ (by decide) _, hI.value WF _ (List.mem_of_getElem? (i := 8) rfl) _ (Below.refl _ _) rfl⟩)
      · have e1 := hI.v _ (List.mem_of_getElem? (i := 8) rfl) (hp ⟨8, .data⟩ (by simp) rfl)
        obtain ⟨G, A', q1, -, -, q4, -⟩ := hI.y
        have n15 : L 15 = false := by
          cases hc : L 15 with
          | false => rfl
          | true => rw [(hI.ph (.inr hc)).2] at hl; cases hl
        obtain rfl := q4 n15
        exact og_op rfl rfl (og_value (run_loadT ((over_eval _ _ _ (by decide) (by show 70 < 87; omega)).trans e1) (cell_of q1 6 _ rfl)) ⟨_, over_put _ _ _ (by decide) _, hI.value WF _ (List.mem_of_getElem? (i := 9) rfl) _ (Below.refl _ _) rfl⟩)
      · have e1 := hI.v _ (List.mem_of_getElem? (i := 7) rfl) (hp ⟨7, .data⟩ (by simp) rfl)
        have e2 := hI.v _ (List.mem_of_getElem? (i := 9) rfl) (hp ⟨9, .data⟩ (by simp) rfl)
        have hba : Below wz.heap.size wz (wz.alloc (.cells #[.slice a1a r1.args.length a1c, .slice a2a r2.args.length a2c] 25)) := (Below.refl _ _).alloc (Nat.le_refl _) _
        exact og_op rfl rfl (og_value (run_build2 ((over_eval _ _ _ (by decide) (by show 69 < 87; omega)).trans e1) ((over_eval _ _ _ (by decide) (by show 71 < 87; omega)).trans e2) ⟨_, _, _, rfl⟩ ⟨_, _, _, rfl⟩) ⟨_, over_put _ _ _ (by decide) _, hI.value WF _ (List.mem_of_getElem? (i := 10) rfl) _ hba ⟨wz.heap.size, rfl, heap_at _ _ _ rfl, trivial⟩⟩)
      · have e1 := hI.v _ (List.mem_of_getElem? (i := 10) rfl) (hp ⟨10, .data⟩ (by simp) rfl)
        obtain ⟨q, eq, hq, -⟩ := e1
        refine og_op rfl rfl (og_call (run_call1 ((over_eval _ _ _ (by decide) (by show 72 < 87; omega)).trans eq) rfl (fun args => by simp [go_sem])) ?_)
        have e2 : [r1.args, r2.args].flatten = r1.args ++ r2.args := by simp
        have LL := list14_any (.slice (some ⟨q, 0, none⟩) 2 2) [r1.args, r2.args] wz (StrRows.made2 2 hq hI.p.1.read.2.1.strs (Texts.ofRow hI.p.2.2.2.1).strs) (by simp) (by rw [e2, List.length_append]; omega)
        rw [e2] at LL
        refine LL.mono ?_
        rintro e w' ⟨rv, rfl, hrow, hb'⟩
        exact ⟨_, rfl, _, over_put _ _ _ (by decide) _, hI.value WF _ (List.mem_of_getElem? (i := 11) rfl) _ hb' (row_lower hrow (Nat.zero_le _))⟩
      · exact og_op rfl rfl (og_value (run_field5 ((over_eval_out _ _ _ (by decide)).trans rfl)) ⟨_, over_put _ _ _ (by decide) _, hI.value WF _ (List.mem_of_getElem? (i := 12) rfl) _ (Below.refl _ _) rfl⟩)
      · have e1 := hI.v _ (List.mem_of_getElem? (i := 12) rfl) (hp ⟨12, .data⟩ (by simp) rfl)
        have e2 := hI.v _ (List.mem_of_getElem? (i := 5) rfl) (hp ⟨5, .data⟩ (by simp) rfl)
        obtain ⟨G, A', q1, -⟩ := hI.y
        exact og_op rfl rfl (og_skip (run_storeG ((over_eval _ _ _ (by decide) (by show 74 < 87; omega)).trans e1) ((over_eval _ _ _ (by decide) (by show 67 < 87; omega)).trans rfl) (cell_of q1 5 _ rfl) (frozen_of q1 5) (by obtain ⟨a, c, e⟩ := row_form e2; exact ⟨a, _, c, e⟩)) ⟨f, rfl, hI.setG WF hB2 _ (fun _ _ => rfl) e2 (hp ⟨3, .phase⟩ (by simp) rfl) (hp ⟨9, .phase⟩ (by simp) rfl)⟩)
      · exact og_op rfl rfl (og_value (run_field6 ((over_eval_out _ _ _ (by decide)).trans rfl)) ⟨_, over_put _ _ _ (by decide) _, hI.value WF _ (List.mem_of_getElem? (i := 13) rfl) _ (Below.refl _ _) rfl⟩)
      · have e1 := hI.v _ (List.mem_of_getElem? (i := 13) rfl) (hp ⟨14, .data⟩ (by simp) rfl)
        have e2 := hI.v _ (List.mem_of_getElem? (i := 11) rfl) (hp ⟨11, .data⟩ (by simp) rfl)
        obtain ⟨G, A', q1, -⟩ := hI.y
        exact og_op rfl rfl (og_skip (run_storeT ((over_eval _ _ _ (by decide) (by show 75 < 87; omega)).trans e1) ((over_eval _ _ _ (by decide) (by show 73 < 87; omega)).trans rfl) (cell_of q1 6 _ rfl) (frozen_of q1 6) (by obtain ⟨a, c, e⟩ := row_form e2; exact ⟨a, _, c, e⟩)) ⟨f, rfl, hI.setA WF hB2 _ (fun _ _ => rfl) e2 (hp ⟨3, .phase⟩ (by simp) rfl) (hp ⟨9, .phase⟩ (by simp) rfl)⟩)
    · intro L f wz hl hI
      obtain ⟨G, A', q1, -, q3, -, q5⟩ := hI.y
      refine hK _ _ (Met.intro (hR _ _ ?_))
      (repeat apply Exists.intro)
      refine ⟨⟨⟨G, A', q1, q3 (hl 13 (by show 13 < 16; omega)), q5 (hl 15 (by show 15 < 16; omega))⟩, hI.p.2.1, hI.bel⟩, ?_⟩
      rfl
  case rest =>
  obtain ⟨⟨G, A', q1, q2, q3⟩, qz, hbE⟩ := hcut
  obtain ⟨w9, rfl⟩ : ∃ w9 : World, w9 = wc := ⟨_, rfl⟩
  have hb9 := Below.after hb6 hbE
  obtain ⟨f1, f2, f3, f4, f5, f6⟩ := F3.out
  have lG : (r1.given ++ r2.given).length ≤ 1099511627776 := by have := HZ1.out; rw [List.length_append]; omega
  have lA : (r1.args ++ r2.args).length ≤ 1099511627776 := by have := HZ1.out; rw [List.length_append]; omega
  obtain ⟨⟨g3a, g3c, eg⟩, ⟨a3a, a3c, ea⟩, ⟨k3a, k3c, rfl⟩⟩ := qz.sl
  have qzh := qz.h
  obtain ⟨t1, t2, t3⟩ := qz.rows
  rw [f2] at eg t1
  rw [f3] at ea t2
  rw [f1] at qzh
  subst eg
  subst ea
  generalize r1.given ++ r2.given = LG at *
  generalize r1.args ++ r2.args = LA at *
  obtain ⟨ga, gc, rfl⟩ := row_form q2
  obtain ⟨qa, qc, rfl⟩ := row_form q3
  have HCH := Lib.hid (changed_any (.slice fa fs.length fc) fs plain unk fold (.slice ga LG.length gc) LG w9 (HV.out _ hb9) HSF1.out.1 (Givens.ofRow q2) lG)
  rw [← f5] at HCH
  obtain ⟨s0, s1, s2, s3⟩ := HC.out _ hb9
  have y5 := cell_of q1 5 (.slice ga LG.length gc) rfl
  have HQ1 := Lib.hid q1
  have HQ2 := Lib.hid q2
  have HQ3 := Lib.hid q3
  have HQZ := Lib.hid qzh
  have HT1 := Lib.hid t1
  have HT2 := Lib.hid t2
  have HT3 := Lib.hid t3
  have HLL := Lib.hid (And.intro lG (And.intro lA f6))
  have HBE := Lib.hid hbE
  clear q1 q2 q3 qz qzh t1 t2 t3 f1 f2 f3 f4 f5 f6 lG lA hbE
  go_wp2_with fail
  refine HCH.out.mono ?_
  rintro e w10 ⟨cv, rfl, hrow, hb10⟩
  obtain ⟨ka, kc, rfl⟩ := row_form hrow
  have p1 := (hb10.block _ (lt_of_block HQ1.out)).trans HQ1.out
  have pz := (hb10.block _ (lt_of_block HQZ.out)).trans HQZ.out
  have y8 := cell_of p1 8 (.slice k2a c2.length k2c) rfl
  have yf := frozen_of p1 8
  have hm := Mod.set B2 8 w10 (.slice ka c3.length kc)
  have p2 : (w10.setCell ⟨B2, 8, none⟩ (.slice ka c3.length kc)).heap[B2]? = some (.cells (hCells r2.err r3.dash true (.slice ga LG.length gc) (.slice qa LA.length qc) (.slice ka c3.length kc)) 33 (0, 0)) := heap_set p1 8 _
  have p3 : (w10.setCell ⟨B2, 8, none⟩ (.slice ka c3.length kc)).heap[B3]? = some (.cells (hCells r2.err r3.dash true (.slice g3a LG.length g3c) (.slice a3a LA.length a3c) (.slice k3a c3.length k3c)) 33 (0, 0)) := (hm.block B3 HMM.out.2.2).trans pz
  have hb11 : Below w6.heap.size w6 (w10.setCell ⟨B2, 8, none⟩ (.slice ka c3.length kc)) := hm.below HMM.out.1 (Below.after HBE.out hb10)
  have st : ∀ (R : Value → World → Prop), Stable R → ∀ v, R v w10 → R v (w10.setCell ⟨B2, 8, none⟩ (.slice ka c3.length kc)) := fun R hR v h => hR.put _ _ _ B2 _ h p1 hm.block
  have r1' := st _ (stable_row 0 94 (by decide) 2 LG.length (flat LG)) _ ((stable_row 0 94 (by decide) 2 LG.length (flat LG)).grow _ _ _ HQ2.out hb10)
  have r2' := st _ (stable_row 0 9 (by decide) 1 LA.length (LA.map .string)) _ ((stable_row 0 9 (by decide) 1 LA.length (LA.map .string)).grow _ _ _ HQ3.out hb10)
  have r3' := st _ (stable_row 0 3 (by decide) 1 c3.length (c3.map intV)) _ (row_lower hrow (Nat.zero_le _))
  have t1' := st _ (stable_row 0 94 (by decide) 2 LG.length (flat LG)) _ ((stable_row 0 94 (by decide) 2 LG.length (flat LG)).grow _ _ _ HT1.out hb10)
  have t2' := st _ (stable_row 0 9 (by decide) 1 LA.length (LA.map .string)) _ ((stable_row 0 9 (by decide) 1 LA.length (LA.map .string)).grow _ _ _ HT2.out hb10)
  have t3' := st _ (stable_row 0 3 (by decide) 1 c3.length (c3.map intV)) _ ((stable_row 0 3 (by decide) 1 c3.length (c3.map intV)).grow _ _ _ HT3.out hb10)
  obtain ⟨w11, hw11⟩ : ∃ w11, w10.setCell ⟨B2, 8, none⟩ (.slice ka c3.length kc) = w11 := ⟨_, rfl⟩
  rw [hw11] at p2 p3 hb11 r1' r2' r3' t1' t2' t3'
  have HSM := Lib.hid (same_any r2.err r3.dash true LG LA c3 (Givens.ofRow r1') (Givens.ofRow t1') (Texts.ofRow r2') (Texts.ofRow t2') (Ints.ofRow r3') (Ints.ofRow t3') HLL.out.1 HLL.out.2.1 HLL.out.2.2)
  have HW11 := Lib.hid hw11
  have HP2 := Lib.hid p2
  have HP3 := Lib.hid p3
  have HB11 := Lib.hid (Below.after hb6 hb11)
  clear p1 pz hm p2 p3 hb11 st r1' r2' r3' t1' t2' t3' hw11 s0 s1 s2 s3 y5 hrow hb10
  go_upto_region 10 with fail
  rw [HW11.out]
  have x0 := cell_of HP2.out 0 _ rfl
  have x1 := cell_of HP2.out 1 _ rfl
  have x2 := cell_of HP2.out 2 _ rfl
  have x3 := cell_of HP2.out 3 _ rfl
  have x4 := cell_of HP2.out 4 _ rfl
  have x5 := cell_of HP2.out 5 _ rfl
  have x6 := cell_of HP2.out 6 _ rfl
  have x7 := cell_of HP2.out 7 _ rfl
  have x8 := cell_of HP2.out 8 _ rfl
  have x9 := cell_of HP2.out 9 _ rfl
  have x10 := cell_of HP2.out 10 _ rfl
  have z0 := cell_of HP3.out 0 _ rfl
  have z1 := cell_of HP3.out 1 _ rfl
  have z2 := cell_of HP3.out 2 _ rfl
  have z3 := cell_of HP3.out 3 _ rfl
  have z4 := cell_of HP3.out 4 _ rfl
  have z5 := cell_of HP3.out 5 _ rfl
  have z6 := cell_of HP3.out 6 _ rfl
  have z7 := cell_of HP3.out 7 _ rfl
  have z8 := cell_of HP3.out 8 _ rfl
  have z9 := cell_of HP3.out 9 _ rfl
  have z10 := cell_of HP3.out 10 _ rfl
  clear y8 yf
  go_wp2_with fail
  refine HSM.out.mono ?_
  rintro e w12 ⟨rfl, hb12⟩
  have hb12 := Below.after HB11.out hb12
  clear x0 x1 x2 x3 x4 x5 x6 x7 x8 x9 x10 z0 z1 z2 z3 z4 z5 z6 z7 z8 z9 z10
  go_wp2_with fail
  refine (lives14_any _).mono ?_
  rintro e w13 ⟨rfl, hb13⟩
  go_wp2_with fail
  go_ret
  exact ⟨rfl, HW.out _ (Below.after hb12 hb13)⟩
end Go.Proofs.Ytcpjdgbnfjdakaa
