/- A region that reads, calls and appends one struct to a row of its own, in whatever order; what its slots hold is known by what holds of them, not by value. -/
import Derived.Test.YtmmkebdaijmpiaaGreatSayer
namespace Go.Proofs.YtmmkebdaijmpiaaGreat
open Go.RowKit
set_option linter.unusedVariables false
set_option linter.unusedSimpArgs false

theorem grown_refl (w : World) (R : Option Nat) : w.grownBy w R := ⟨rfl, rfl, rfl, Nat.le_refl _, fun _ _ _ => rfl⟩
theorem grown_trans {a b c : World} {R : Option Nat} (h : a.grownBy b R) (k : b.grownBy c R) : a.grownBy c R :=
  ⟨k.os.trans h.os, k.tape.trans h.tape, k.output.trans h.output, Nat.le_trans h.size k.size, fun i hi hn => (k.block i (Nat.lt_of_lt_of_le hi h.size) hn).trans (h.block i hi hn)⟩
theorem grown_of {w w' : World} (h : Below w.heap.size w w') (R : Option Nat) : w.grownBy w' R := ⟨h.os, h.tape, h.output, h.size, fun k hk _ => h.block k hk⟩

/-- What holds in each state of the region. -/
structure SJ (w0 : World) (base : Nat) (T : TypeId) (sz : Nat) (row : Value) (n : Nat) (xs : List Value) (N : SayN) (VP : Nat → Value → World → Prop) (CP : List Value → World → Prop) (L : Nat → Bool) (f : Nat → Value) (w : World) : Prop where
  bel : w0.grownBy w row.ownBlock
  v : ∀ i d, (i, d) ∈ N.ps → L i = true → VP i (f d) w
  bu : L N.B = true → L N.A = false → ∃ q cs, f N.b = .slice (some ⟨q, 0, none⟩) 1 1 ∧ w.heap[q]? = some (.cells cs.toArray T (0, 0)) ∧ row.ownBlock ≠ some q ∧ CP cs w
  r0 : L N.A = false → w.ownsRow base T sz row n xs
  r1 : L N.A = true → ∃ cs, CP cs w ∧ w.ownsRow base T sz (f N.a) (n + 1) (xs ++ cs)
  r2 : L N.C = true → L N.A = true ∧ f N.c = f N.a
  ord : L N.A = true → L N.B = true
  c0 : L N.C = false → N.C < 90 → f N.c = row
  oz : L N.A = true → L N.Z = true
  r3 : L N.A = true → ∀ g, (f N.a).ownBlock = some g → row.ownBlock = some g ∨ w0.heap.size ≤ g

section
variable {w0 : World} {base : Nat} {T : TypeId} {sz : Nat} {row : Value} {n : Nat} {xs : List Value} {N : SayN} {VP : Nat → Value → World → Prop} {CP : List Value → World → Prop} {L : Nat → Bool} {f : Nat → Value} {w w' : World}
theorem SJ.pure (h : SJ w0 base T sz row n xs N VP CP L f w) (mV : ∀ i v w w', w.grownBy w' row.ownBlock → VP i v w → VP i v w') (mC : ∀ c w w', w.grownBy w' row.ownBlock → CP c w → CP c w') (wf : N.Wf) {i d : Nat} (hx : (i, d) ∈ N.ps) (hb : Below w.heap.size w w') {v : Value} (hv : VP i v w') : SJ w0 base T sz row n xs N VP CP (fun k => k == i || L k) (upd f d v) w' := by
  obtain ⟨i1, i2, i3, d1, d2, d3⟩ := wf.mem hx
  have hg : w.grownBy w' row.ownBlock := grown_of hb _
  refine ⟨grown_trans h.bel hg, fun j e hy hl => ?_, fun hl hl' => ?_, fun hl => ?_, fun hl => ?_, fun hl => ?_, fun hl => ?_, fun hl h9 => ?_, fun hl => ?_, fun hl => ?_⟩
  · by_cases q : j = i
    · have := (wf.inj hy hx).1 q
      subst this; subst q
      rw [upd_same]; exact hv
    · rw [upd_ne _ _ (fun e' => q ((wf.inj hy hx).2 e'))]
      rw [or_ne q] at hl
      exact mV _ _ _ _ hg (h.v _ _ hy hl)
  · rw [or_ne (Ne.symm i1)] at hl
    rw [or_ne (Ne.symm i2)] at hl'
    obtain ⟨q, cs, e, hq, hr, hc⟩ := h.bu hl hl'
    exact ⟨q, cs, by rw [upd_ne _ _ (Ne.symm d1)]; exact e, (hb.block q (lt_of_block hq)).trans hq, hr, mC _ _ _ hg hc⟩
  · rw [or_ne (Ne.symm i2)] at hl
    exact row_grow (h.r0 hl) hb
  · rw [or_ne (Ne.symm i2)] at hl
    rw [upd_ne _ _ (Ne.symm d2)]
    obtain ⟨cs, hc, ho⟩ := h.r1 hl
    exact ⟨cs, mC _ _ _ hg hc, row_grow ho hb⟩
  · rw [or_ne (Ne.symm i3)] at hl
    rw [or_ne (Ne.symm i2), upd_ne _ _ (Ne.symm d2), upd_ne _ _ (Ne.symm d3)]
    exact h.r2 hl
  · rw [or_ne (Ne.symm i2)] at hl
    rw [or_ne (Ne.symm i1)]
    exact h.ord hl
  · rw [or_ne (Ne.symm i3)] at hl
    rw [upd_ne _ _ (Ne.symm d3)]
    exact h.c0 hl h9
  · rw [or_ne (Ne.symm i2)] at hl
    simp [h.oz hl]
  · rw [or_ne (Ne.symm i2)] at hl
    rw [upd_ne _ _ (Ne.symm d2)]
    exact h.r3 hl
theorem SJ.built (h : SJ w0 base T sz row n xs N VP CP L f w) (mV : ∀ i v w w', w.grownBy w' row.ownBlock → VP i v w → VP i v w') (mC : ∀ c w w', w.grownBy w' row.ownBlock → CP c w → CP c w') (wf : N.Wf) (hl : L N.B = false) (cs : List Value) (hc : CP cs w) : SJ w0 base T sz row n xs N VP CP (fun k => k == N.B || L k) (upd f N.b (.slice (some ⟨w.heap.size, 0, none⟩) 1 1)) (w.alloc (.cells cs.toArray T)) := by
  obtain ⟨i1, i2, i3, d1, d2, d3⟩ := wf.abc
  have hb : Below w.heap.size w (w.alloc (.cells cs.toArray T)) := (Below.refl _ _).alloc (Nat.le_refl _) _
  have hg := grown_of hb row.ownBlock
  have hA : L N.A = false := by
    cases hc : L N.A with
    | false => rfl
    | true => rw [h.ord hc] at hl; cases hl
  refine ⟨grown_trans h.bel hg, fun j e hy hl => ?_, fun hl hl' => ?_, fun hl => ?_, fun hl => ?_, fun hl => ?_, fun hl => ?_, fun hl h9 => ?_, fun hl => ?_, fun hl => ?_⟩
  · obtain ⟨j1, j2, j3, e1, e2, e3⟩ := wf.mem hy
    rw [or_ne j1] at hl
    rw [upd_ne _ _ e1]
    exact mV _ _ _ _ hg (h.v _ _ hy hl)
  · refine ⟨w.heap.size, cs, upd_same _ _ _, heap_at _ _ _ rfl, fun e => ?_, mC _ _ _ hg hc⟩
    obtain ⟨_, c, hc⟩ := ownsRow_cells (h.r0 hA) e
    exact Nat.lt_irrefl _ (lt_of_block hc)
  · exact row_grow (h.r0 hA) hb
  · rw [or_ne (Ne.symm i1), hA] at hl
    cases hl
  · rw [or_ne (Ne.symm i2)] at hl
    rw [(h.r2 hl).1] at hA
    cases hA
  · rw [or_ne (Ne.symm i1), hA] at hl
    cases hl
  · rw [or_ne (Ne.symm i2)] at hl
    rw [upd_ne _ _ (Ne.symm d2)]
    exact h.c0 hl h9
  · rw [or_ne (Ne.symm i1), hA] at hl
    cases hl
  · rw [or_ne (Ne.symm i1), hA] at hl
    cases hl
theorem SJ.appended (h : SJ w0 base T sz row n xs N VP CP L f w) (mV : ∀ i v w w', w.grownBy w' row.ownBlock → VP i v w → VP i v w') (wf : N.Wf) (hl : L N.A = false) (hB : L N.B = true) (hZ : L N.Z = true) {g cap : Nat} {cs : List Value} (hc : CP cs w') (ho : w'.ownsRow base T sz (.slice (some ⟨g, 0, none⟩) (n + 1) cap) (n + 1) (xs ++ cs)) (hg : w.grownBy w' row.ownBlock) (hat : row.ownBlock = some g ∨ w0.heap.size ≤ g) : SJ w0 base T sz row n xs N VP CP (fun k => k == N.A || L k) (upd f N.a (.slice (some ⟨g, 0, none⟩) (n + 1) cap)) w' := by
  obtain ⟨i1, i2, i3, d1, d2, d3⟩ := wf.abc
  refine ⟨grown_trans h.bel hg, fun j e hy hl => ?_, fun _ hl' => ?_, fun hl => ?_, fun _ => ?_, fun hc => ?_, fun _ => ?_, fun hc h9 => ?_, fun _ => ?_, fun _ => ?_⟩
  · obtain ⟨j1, j2, j3, e1, e2, e3⟩ := wf.mem hy
    rw [or_ne j2] at hl
    rw [upd_ne _ _ e2]
    exact mV _ _ _ _ hg (h.v _ _ hy hl)
  · rw [or_same] at hl'; cases hl'
  · rw [or_same] at hl; cases hl
  · rw [upd_same]; exact ⟨cs, hc, ho⟩
  · rw [or_ne (Ne.symm i3)] at hc
    have := (h.r2 hc).1
    rw [hl] at this
    cases this
  · rw [or_ne i1]; exact hB
  · rw [or_ne (Ne.symm i3)] at hc
    rw [upd_ne _ _ (Ne.symm d3)]
    exact h.c0 hc h9
  · simp [hZ]
  · rw [upd_same]
    intro g' hg'
    cases hg'
    exact hat
theorem SJ.assigned (h : SJ w0 base T sz row n xs N VP CP L f w) (wf : N.Wf) (hA : L N.A = true) : SJ w0 base T sz row n xs N VP CP (fun k => k == N.C || L k) (upd f N.c (f N.a)) w := by
  obtain ⟨i1, i2, i3, d1, d2, d3⟩ := wf.abc
  refine ⟨h.bel, fun j e hy hl => ?_, fun _ hl' => ?_, fun hl => ?_, fun _ => ?_, fun hc => ?_, fun _ => ?_, fun hc h9 => ?_, fun _ => ?_, fun _ => ?_⟩
  · obtain ⟨j1, j2, j3, e1, e2, e3⟩ := wf.mem hy
    rw [or_ne j3] at hl
    rw [upd_ne _ _ e3]
    exact h.v _ _ hy hl
  · rw [or_ne i3, hA] at hl'; cases hl'
  · rw [or_ne i3, hA] at hl; cases hl
  · rw [upd_ne _ _ d3]; exact h.r1 hA
  · exact ⟨by rw [or_ne i3]; exact hA, by rw [upd_same, upd_ne _ _ d3]⟩
  · rw [or_ne i2]; exact h.ord hA
  · rw [or_same] at hc; cases hc
  · simp [h.oz hA]
  · rw [upd_ne _ _ d3]; exact h.r3 hA
theorem SJ.start {w : World} (hd : w = w0.drew) (hr : w0.ownsRow base T sz row n xs) (f : Nat → Value) (hf : N.C < 90 → f N.c = row) : SJ w0 base T sz row n xs N VP CP (fun _ => false) f w := by
  subst hd
  exact ⟨grown_of ((Below.refl _ _).drew) _, fun _ _ _ h => Bool.noConfusion h, fun h => Bool.noConfusion h, fun _ => hr, fun h => Bool.noConfusion h, fun h => Bool.noConfusion h, fun h => Bool.noConfusion h, fun _ => hf, fun h => Bool.noConfusion h, fun h => Bool.noConfusion h⟩
end

/-- The append of one struct. -/
theorem SJ.append {w0 : World} {base : Nat} {T S : TypeId} {sz bytes : Nat} {row : Value} {n : Nat} {xs : List Value} {N : SayN} {VP : Nat → Value → World → Prop} {CP : List Value → World → Prop} {L : Nat → Bool} {f : Nat → Value} {w : World} {P : Program} {Q : Exit → Act → World → Prop} {a0 : Act} {D : List Nat} {o : Oper} {z : Value}
    (h : SJ w0 base T sz row n xs N VP CP L f w) (mV : ∀ i v w w', w.grownBy w' row.ownBlock → VP i v w → VP i v w') (mC : ∀ c w w', w.grownBy w' row.ownBlock → CP c w → CP c w') (wf : N.Wf) (hl : L N.A = false) (hB : L N.B = true) (hZ : L N.Z = true)
    (s x : Operand) (ho : o.op = .call { callee := .builtin .append, args := #[s, x], argTypes := #[S, S] }) (hd : o.dst = some N.a) (hD : D.contains N.a = true)
    (hS : P.underlying S = some (.slice T)) (hi : (P.info? T).map (fun i => (i.zero, i.size, i.bytes)) = some (some z, sz, bytes)) (hzs : z.cells.size = sz) (hsz : 0 < sz) (hs : (over D f a0).eval s = row) (hx : (over D f a0).eval x = f N.b)
    (hcs : ∀ cs w, CP cs w → cs.length = sz ∧ ∀ c ∈ cs, c.oneCell' = true) (h63 : n + 1 ≤ maxLen) (hn : (n + 1) * bytes ≤ 140737488355328) (hbs : base ≤ w.heap.size) :
    o.wp P (over D f a0) w (fun a' w' => ∃ f', a' = over D f' a0 ∧ SJ w0 base T sz row n xs N VP CP (fun k => k == N.A || L k) f' w') Q := by
  obtain ⟨q, cs, e, hq, hne, hc⟩ := h.bu hB hl
  obtain ⟨i, hi1, hz0, hz1, hz2⟩ := info_parts hi
  obtain ⟨c1, c2⟩ := hcs _ _ hc
  refine wp_append_lies w s x S ho base T i z sz bytes hS hi1 hz0 hz1 hz2 hzs hsz row n xs hs (h.r0 hl) ⟨q, 0, none⟩ 1 1 cs (hx.trans e) (by simp [c1]) (news_lies hq (by simp)) c2 (by omega) h63 hn hbs w.heap.size rfl ?_
  intro g cap w' hown hgrow hat hlt
  exact ⟨_, by rw [hd, over_put _ _ _ hD], h.appended mV wf hl hB hZ (mC _ _ _ hgrow hc) hown hgrow (hat.imp id fun e => by rw [e]; exact h.bel.size)⟩

/-- What the region comes to. -/
theorem SJ.done {w0 : World} {base : Nat} {T : TypeId} {sz : Nat} {row : Value} {n : Nat} {xs : List Value} {N : SayN} {VP : Nat → Value → World → Prop} {CP : List Value → World → Prop} {L : Nat → Bool} {f : Nat → Value} {w : World}
    (h : SJ w0 base T sz row n xs N VP CP L f w) (hl : L N.C = true) : ∃ cs, CP cs w ∧ w.ownsRow base T sz (f N.c) (n + 1) (xs ++ cs) ∧ w0.grownBy w row.ownBlock := by
  obtain ⟨hA, e⟩ := h.r2 hl
  obtain ⟨cs, hc, ho⟩ := h.r1 hA
  exact ⟨cs, hc, by rw [e]; exact ho, h.bel⟩

/-- A slice value whose elements, of one cell each, are these. -/
def Vals (w : World) (v : Value) (l : List Value) : Prop :=
  ∃ a cap, v = .slice a l.length cap ∧ (l = [] ∨ ∃ b off cs ty fz, a = some ⟨b, off, none⟩ ∧ w.heap[b]? = some (.cells cs ty fz) ∧ ∀ i (h : i < l.length), cs[off + i]? = some l[i])
theorem Vals.later {w w' : World} {v : Value} {l : List Value} (h : Vals w v l) (hk : ∀ b, b < w.heap.size → w'.heap[b]? = w.heap[b]?) : Vals w' v l := by
  obtain ⟨a, cap, e, h⟩ := h
  refine ⟨a, cap, e, ?_⟩
  rcases h with h | ⟨b, off, cs, ty, fz, ha, hb, hc⟩
  · exact .inl h
  · exact .inr ⟨b, off, cs, ty, fz, ha, (hk b (lt_of_block hb)).trans hb, hc⟩
theorem Vals.len {w : World} {v : Value} {l : List Value} (h : Vals w v l) : ∃ a cap, v = .slice a l.length cap := by
  obtain ⟨a', cap', e, h⟩ := h
  exact ⟨a', cap', e⟩
theorem Vals.cell {w : World} {a : Option Addr} {n cap : Nat} {l : List Value} (h : Vals w (.slice a n cap) l) (hl : 0 < l.length) :
    ∃ b off, a = some ⟨b, off, none⟩ ∧ ∀ i (h : i < l.length), w.cell? ⟨b, off + i, none⟩ = some l[i] := by
  obtain ⟨a', cap', e, h⟩ := h
  rcases h with h | ⟨b, off, cs, ty, fz, rfl, hb, hc⟩
  · subst h; simp at hl
  · cases e
    exact ⟨b, off, rfl, fun i hi => by simp [World.cell?, hb, hc i hi]⟩
theorem Strs.vals {w : World} {v : Value} {l : List ByteArray} (h : Strs w v l) : Vals w v (l.map .string) := by
  obtain ⟨a, cap, e, h⟩ := h
  refine ⟨a, cap, by simpa using e, ?_⟩
  rcases h with h | ⟨b, off, cs, ty, fz, ha, hb, hc⟩
  · left; rw [h]; rfl
  · right; exact ⟨b, off, cs, ty, fz, ha, hb, fun i hi => by simpa using hc i (by simpa using hi)⟩
theorem Vals.strs {w : World} {v : Value} {l : List ByteArray} (h : Vals w v (l.map .string)) : Strs w v l := by
  obtain ⟨a, cap, e, h⟩ := h
  refine ⟨a, cap, by simpa using e, ?_⟩
  rcases h with h | ⟨b, off, cs, ty, fz, ha, hb, hc⟩
  · left; simpa using h
  · right; exact ⟨b, off, cs, ty, fz, ha, hb, fun i hi => by rw [hc i (by simpa using hi), List.getElem_map]⟩
theorem Vals.owned {w : World} {base : Nat} {e : TypeId} {v : Value} {n : Nat} {xs : List Value} (h : w.ownsRow base e 1 v n xs) : Vals w v xs := by
  have hl : xs.length = n := by simpa using h.1
  rcases h.2 with ⟨e, h0⟩ | ⟨g, cap, cur, e, hb, hh, hnc, hcm, hcs, ht⟩
  · have : xs = [] := List.eq_nil_of_length_eq_zero (by omega)
    subst this
    exact ⟨none, 0, by rw [e]; rfl, .inl rfl⟩
  · refine ⟨_, cap, by rw [e, hl], ?_⟩
    by_cases h0 : xs = []
    · exact .inl h0
    · refine .inr ⟨g, 0, cur, _, _, rfl, hh, fun i hi => ?_⟩
      have : (cur.toList.take (n * 1))[i]? = some xs[i] := by rw [ht]; simp [hi]
      rw [List.getElem?_take, if_pos (by omega), Array.getElem?_toList] at this
      simpa using this

/-- A value whose block is of type e, and none of A. -/
def Snap (e : TypeId) (w : World) (A : Nat → Prop) (v : Value) (l : List Value) : Prop :=
  ∃ a cap, v = .slice a l.length cap ∧ (l = [] ∨ ∃ b cs fz, a = some ⟨b, 0, none⟩ ∧ w.heap[b]? = some (.cells cs e fz) ∧ ¬ A b ∧ ∀ i (h : i < l.length), cs[i]? = some l[i])
theorem Snap.vals {e : TypeId} {w : World} {A : Nat → Prop} {v : Value} {l : List Value} (h : Snap e w A v l) : Vals w v l := by
  obtain ⟨a, cap, q, h⟩ := h
  refine ⟨a, cap, q, ?_⟩
  rcases h with h | ⟨b, cs, fz, ha, hb, hx, hc⟩
  · exact .inl h
  · exact .inr ⟨b, 0, cs, e, fz, ha, hb, fun i hi => by rw [Nat.zero_add]; exact hc i hi⟩
theorem Snap.oneCell {e : TypeId} {w : World} {A : Nat → Prop} {v : Value} {l : List Value} (h : Snap e w A v l) : v.oneCell' = true := by
  obtain ⟨a, cap, q, h⟩ := h
  rw [q]; rfl
theorem Snap.form {e : TypeId} {w : World} {A : Nat → Prop} {v : Value} {l : List Value} (h : Snap e w A v l) : ∃ a cap, v = .slice a l.length cap := by
  obtain ⟨a, cap, q, h⟩ := h
  exact ⟨a, cap, q⟩
theorem Snap.later {e : TypeId} {w w' : World} {A A' : Nat → Prop} {v : Value} {l : List Value} (h : Snap e w A v l)
    (hk : ∀ b cs fz, w.heap[b]? = some (.cells cs e fz) → ¬ A b → w'.heap[b]? = w.heap[b]? ∧ ¬ A' b) : Snap e w' A' v l := by
  obtain ⟨a, cap, q, h⟩ := h
  refine ⟨a, cap, q, ?_⟩
  rcases h with h | ⟨b, cs, fz, ha, hb, hx, hc⟩
  · exact .inl h
  · obtain ⟨k1, k2⟩ := hk b cs fz hb hx
    exact .inr ⟨b, cs, fz, ha, k1.trans hb, k2, hc⟩
theorem Snap.weak {e : TypeId} {w : World} {A A' : Nat → Prop} {v : Value} {l : List Value} (h : Snap e w A v l) (hk : ∀ b, A' b → A b) : Snap e w A' v l :=
  h.later fun b _ _ _ hn => ⟨rfl, fun q => hn (hk b q)⟩
/-- A row grows that it does not lie in. -/
theorem Snap.grown {e : TypeId} {w w' : World} {A : Nat → Prop} {R : Option Nat} {v : Value} {l : List Value} (h : Snap e w A v l) (hg : w.grownBy w' R) (hr : ∀ b, some b = R → A b) : Snap e w' A v l :=
  h.later fun b cs fz hb hx => ⟨hg.block b (lt_of_block hb) (fun q => hx (hr b q)), hx⟩

/-- Rows of structs, sz cells each, that hold what is said of each of some data. -/
def RowsOf {α : Type} (sz : Nat) (IP : α → List Value → World → Prop) (w : World) (xs : List Value) (os : List α) : Prop :=
  xs.length = os.length * sz ∧ ∀ i (h : i < os.length), IP os[i] ((xs.drop (i * sz)).take sz) w
theorem RowsOf.nil {α : Type} (sz : Nat) (IP : α → List Value → World → Prop) (w : World) : RowsOf sz IP w [] [] := ⟨by simp, fun i h => by simp at h⟩
theorem RowsOf.later {α : Type} {sz : Nat} {IP : α → List Value → World → Prop} {w w' : World} {xs : List Value} {os : List α} (h : RowsOf sz IP w xs os) (hk : ∀ o cs, IP o cs w → IP o cs w') : RowsOf sz IP w' xs os :=
  ⟨h.1, fun i hi => hk _ _ (h.2 i hi)⟩
theorem RowsOf.change {α : Type} {sz : Nat} {IP IP' : α → List Value → World → Prop} {w w' : World} {xs : List Value} {os : List α} (h : RowsOf sz IP w xs os) (hk : ∀ o cs, IP o cs w → IP' o cs w') : RowsOf sz IP' w' xs os :=
  ⟨h.1, fun i hi => hk _ _ (h.2 i hi)⟩
theorem RowsOf.snoc {α : Type} {sz : Nat} {IP : α → List Value → World → Prop} {w : World} {xs cs : List Value} {os : List α} {o : α} (h : RowsOf sz IP w xs os) (hc : IP o cs w) (hl : cs.length = sz) : RowsOf sz IP w (xs ++ cs) (os ++ [o]) := by
  refine ⟨by simp [h.1, hl, Nat.add_mul], fun i hi => ?_⟩
  simp only [List.length_append, List.length_cons, List.length_nil] at hi
  by_cases hlt : i < os.length
  · have e1 : (os ++ [o])[i]'(by simp; omega) = os[i] := by rw [List.getElem_append_left hlt]
    rw [e1]
    have hm : i * sz + sz ≤ os.length * sz := by
      have : (i + 1) * sz ≤ os.length * sz := Nat.mul_le_mul_right _ hlt
      rw [Nat.add_mul, Nat.one_mul] at this; exact this
    have e2 : ((xs ++ cs).drop (i * sz)).take sz = (xs.drop (i * sz)).take sz := by
      rw [List.drop_append_of_le_length (by rw [h.1]; omega), List.take_append_of_le_length (by rw [List.length_drop, h.1]; omega)]
    rw [e2]
    exact h.2 i hlt
  · have : i = os.length := by omega
    subst this
    have e1 : (os ++ [o])[os.length]'(by simp) = o := by simp
    rw [e1]
    have e2 : ((xs ++ cs).drop (os.length * sz)).take sz = cs := by
      rw [← h.1, List.drop_left, ← hl, List.take_length]
    rw [e2]
    exact hc
end Go.Proofs.YtmmkebdaijmpiaaGreat
