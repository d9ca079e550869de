/- A region that reads, calls and appends one struct to a row of its own, in whatever order. -/
import Derived.Test.YtmmkebdaijmpiaaGreatH
namespace Go.Proofs.YtmmkebdaijmpiaaGreat
open Go.RowKit
set_option linter.unusedVariables false
set_option linter.unusedSimpArgs false

/-- The numbers and slots of a region's operations: those whose value is known (number, slot), the one that lays the new struct in a block of its own (B, b), the append (A, a), the assignment of what it answers (C, c), the reading of the row (Z). -/
structure SayN where
  ps : List (Nat × Nat)
  B : Nat
  b : Nat
  A : Nat
  a : Nat
  C : Nat
  c : Nat
  Z : Nat
structure SayN.Wf (N : SayN) : Prop where
  i : (N.B :: N.A :: N.C :: N.ps.map (·.1)).Nodup
  d : (N.b :: N.a :: N.c :: N.ps.map (·.2)).Nodup
theorem SayN.Wf.mem {N : SayN} (h : N.Wf) {i d : Nat} (hx : (i, d) ∈ N.ps) : i ≠ N.B ∧ i ≠ N.A ∧ i ≠ N.C ∧ d ≠ N.b ∧ d ≠ N.a ∧ d ≠ N.c := by
  have h1 := h.i
  have h2 := h.d
  simp only [List.nodup_cons, List.mem_cons, List.mem_map, not_or, not_exists, not_and] at h1 h2
  refine ⟨?_, ?_, ?_, ?_, ?_, ?_⟩
  · exact h1.1.2.2 (i, d) hx
  · exact h1.2.1.2 (i, d) hx
  · exact h1.2.2.1 (i, d) hx
  · exact h2.1.2.2 (i, d) hx
  · exact h2.2.1.2 (i, d) hx
  · exact h2.2.2.1 (i, d) hx
theorem nodup_inj {α β : Type} {f : α → β} : ∀ {l : List α}, (l.map f).Nodup → ∀ x ∈ l, ∀ y ∈ l, f x = f y → x = y
  | a :: l, h, x, hx, y, hy, e => by
    rw [List.map_cons, List.nodup_cons] at h
    rcases List.mem_cons.1 hx with ex | hx <;> rcases List.mem_cons.1 hy with ey | hy
    · rw [ex, ey]
    · rw [ex] at e; exact absurd (List.mem_map.2 ⟨y, hy, e.symm⟩) h.1
    · rw [ey] at e; exact absurd (List.mem_map.2 ⟨x, hx, e⟩) h.1
    · exact nodup_inj h.2 x hx y hy e
theorem SayN.Wf.inj {N : SayN} (h : N.Wf) {i d j e : Nat} (hx : (i, d) ∈ N.ps) (hy : (j, e) ∈ N.ps) : (i = j → d = e) ∧ (d = e → i = j) := by
  have h1 := h.i
  have h2 := h.d
  simp only [List.nodup_cons] at h1 h2
  constructor
  · intro q
    have := nodup_inj h1.2.2.2 _ hx _ hy q
    cases this; rfl
  · intro q
    have := nodup_inj h2.2.2.2 _ hx _ hy q
    cases this; rfl
theorem SayN.Wf.abc {N : SayN} (h : N.Wf) : N.B ≠ N.A ∧ N.B ≠ N.C ∧ N.A ≠ N.C ∧ N.b ≠ N.a ∧ N.b ≠ N.c ∧ N.a ≠ N.c := by
  have h1 := h.i
  have h2 := h.d
  simp only [List.nodup_cons, List.mem_cons, not_or] at h1 h2
  exact ⟨h1.1.1, h1.1.2.1, h1.2.1.1, h2.1.1, h2.1.2.1, h2.2.1.1⟩

/-- What holds in each state of the region. -/
structure SI (w0 : World) (base : Nat) (T : TypeId) (sz : Nat) (row : Value) (n : Nat) (xs cs : List Value) (N : SayN) (V : Nat → Value) (L : Nat → Bool) (f : Nat → Value) (w : World) : Prop where
  bel : Below base w0 w
  size : base ≤ w.heap.size
  v : ∀ i d, (i, d) ∈ N.ps → L i = true → f d = V i
  bu : L N.B = true → L N.A = false → ∃ q, f N.b = .slice (some ⟨q, 0, none⟩) 1 1 ∧ w.heap[q]? = some (.cells cs.toArray T (0, 0)) ∧ row.ownBlock ≠ some q
  r0 : L N.A = false → w.ownsRow base T sz row n xs
  r1 : L N.A = true → w.ownsRow base T sz (f N.a) (n + 1) (xs ++ cs)
  r2 : L N.C = true → L N.A = true ∧ f N.c = f N.a
  ord : L N.A = true → L N.B = true
  c0 : L N.C = false → f N.c = row
  oz : L N.A = true → L N.Z = true

section
variable {w0 : World} {base : Nat} {T : TypeId} {sz : Nat} {row : Value} {n : Nat} {xs cs : List Value} {N : SayN} {V : Nat → Value} {L : Nat → Bool} {f : Nat → Value} {w w' : World}
theorem row_grow {w w' : World} {base : Nat} {e : TypeId} {size : Nat} {v : Value} {n : Nat} {xs : List Value} (h : w.ownsRow base e size v n xs) (hb : Below w.heap.size w w') : w'.ownsRow base e size v n xs :=
  ownsRow_at h fun g hg => by obtain ⟨_, c, hc⟩ := ownsRow_cells h hg; exact hb.block g (lt_of_block hc)
theorem SI.pure (h : SI w0 base T sz row n xs cs N V L f w) (wf : N.Wf) {i d : Nat} (hx : (i, d) ∈ N.ps) (hb : Below w.heap.size w w') {v : Value} (hv : v = V i) : SI w0 base T sz row n xs cs N V (fun k => k == i || L k) (upd f d v) w' := by
  subst hv
  obtain ⟨i1, i2, i3, d1, d2, d3⟩ := wf.mem hx
  refine ⟨h.bel.trans (hb.mono h.size), Nat.le_trans h.size hb.size, fun j e hy hl => ?_, fun hl hl' => ?_, fun hl => ?_, fun hl => ?_, fun hl => ?_, fun hl => ?_, fun hl => ?_, fun hl => ?_⟩
  · by_cases q : j = i
    · have := (wf.inj hy hx).1 q
      subst this; subst q
      exact upd_same _ _ _
    · rw [upd_ne _ _ (fun e' => q ((wf.inj hy hx).2 e'))]
      rw [or_ne q] at hl
      exact h.v _ _ hy hl
  · rw [or_ne (Ne.symm i1)] at hl
    rw [or_ne (Ne.symm i2)] at hl'
    obtain ⟨q, e, hq, hr⟩ := h.bu hl hl'
    exact ⟨q, by rw [upd_ne _ _ (Ne.symm d1)]; exact e, (hb.block q (lt_of_block hq)).trans hq, hr⟩
  · rw [or_ne (Ne.symm i2)] at hl
    exact row_grow (h.r0 hl) hb
  · rw [or_ne (Ne.symm i2)] at hl
    rw [upd_ne _ _ (Ne.symm d2)]
    exact row_grow (h.r1 hl) hb
  · rw [or_ne (Ne.symm i3)] at hl
    rw [or_ne (Ne.symm i2), upd_ne _ _ (Ne.symm d2), upd_ne _ _ (Ne.symm d3)]
    exact h.r2 hl
  · rw [or_ne (Ne.symm i2)] at hl
    rw [or_ne (Ne.symm i1)]
    exact h.ord hl
  · rw [or_ne (Ne.symm i3)] at hl
    rw [upd_ne _ _ (Ne.symm d3)]
    exact h.c0 hl
  · rw [or_ne (Ne.symm i2)] at hl
    simp [h.oz hl]
theorem SI.built (h : SI w0 base T sz row n xs cs N V L f w) (wf : N.Wf) (hl : L N.B = false) : SI w0 base T sz row n xs cs N V (fun k => k == N.B || L k) (upd f N.b (.slice (some ⟨w.heap.size, 0, none⟩) 1 1)) (w.alloc (.cells cs.toArray T)) := by
  obtain ⟨i1, i2, i3, d1, d2, d3⟩ := wf.abc
  have hb : Below w.heap.size w (w.alloc (.cells cs.toArray T)) := (Below.refl _ _).alloc (Nat.le_refl _) _
  have hA : L N.A = false := by
    cases hc : L N.A with
    | false => rfl
    | true => rw [h.ord hc] at hl; cases hl
  refine ⟨h.bel.trans (hb.mono h.size), Nat.le_trans h.size hb.size, fun j e hy hl => ?_, fun hl hl' => ?_, fun hl => ?_, fun hl => ?_, fun hl => ?_, fun hl => ?_, fun hl => ?_, fun hl => ?_⟩
  · obtain ⟨j1, j2, j3, e1, e2, e3⟩ := wf.mem hy
    rw [or_ne j1] at hl
    rw [upd_ne _ _ e1]
    exact h.v _ _ hy hl
  · refine ⟨w.heap.size, upd_same _ _ _, heap_at _ _ _ rfl, fun e => ?_⟩
    obtain ⟨_, c, hc⟩ := ownsRow_cells (h.r0 hA) e
    exact Nat.lt_irrefl _ (lt_of_block hc)
  · exact row_grow (h.r0 hA) hb
  · rw [or_ne (Ne.symm i1), hA] at hl
    cases hl
  · rw [or_ne (Ne.symm i2)] at hl
    rw [(h.r2 hl).1] at hA
    cases hA
  · rw [or_ne (Ne.symm i1), hA] at hl
    cases hl
  · rw [or_ne (Ne.symm i2)] at hl
    rw [upd_ne _ _ (Ne.symm d2)]
    exact h.c0 hl
  · rw [or_ne (Ne.symm i1), hA] at hl
    cases hl
theorem SI.appended (h : SI w0 base T sz row n xs cs N V L f w) (wf : N.Wf) (hl : L N.A = false) (hB : L N.B = true) (hZ : L N.Z = true) {g cap : Nat} (ho : w'.ownsRow base T sz (.slice (some ⟨g, 0, none⟩) (n + 1) cap) (n + 1) (xs ++ cs)) (hg : w.grownBy w' row.ownBlock) : SI w0 base T sz row n xs cs N V (fun k => k == N.A || L k) (upd f N.a (.slice (some ⟨g, 0, none⟩) (n + 1) cap)) w' := by
  obtain ⟨i1, i2, i3, d1, d2, d3⟩ := wf.abc
  have hb : Below base w w' := grownBy_below hg (fun k hk => (ownsRow_cells (h.r0 hl) hk).1) h.size
  refine ⟨h.bel.trans hb, Nat.le_trans h.size hb.size, fun j e hy hl => ?_, fun _ hl' => ?_, fun hl => ?_, fun _ => ?_, fun hc => ?_, fun _ => ?_, fun hc => ?_, fun _ => ?_⟩
  · obtain ⟨j1, j2, j3, e1, e2, e3⟩ := wf.mem hy
    rw [or_ne j2] at hl
    rw [upd_ne _ _ e2]
    exact h.v _ _ hy hl
  · rw [or_same] at hl'; cases hl'
  · rw [or_same] at hl; cases hl
  · rw [upd_same]; exact ho
  · rw [or_ne (Ne.symm i3)] at hc
    have := (h.r2 hc).1
    rw [hl] at this
    cases this
  · rw [or_ne i1]; exact hB
  · rw [or_ne (Ne.symm i3)] at hc
    rw [upd_ne _ _ (Ne.symm d3)]
    exact h.c0 hc
  · simp [hZ]
theorem SI.assigned (h : SI w0 base T sz row n xs cs N V L f w) (wf : N.Wf) (hA : L N.A = true) : SI w0 base T sz row n xs cs N V (fun k => k == N.C || L k) (upd f N.c (f N.a)) w := by
  obtain ⟨i1, i2, i3, d1, d2, d3⟩ := wf.abc
  refine ⟨h.bel, h.size, fun j e hy hl => ?_, fun _ hl' => ?_, fun hl => ?_, fun _ => ?_, fun hc => ?_, fun _ => ?_, fun hc => ?_, fun _ => ?_⟩
  · obtain ⟨j1, j2, j3, e1, e2, e3⟩ := wf.mem hy
    rw [or_ne j3] at hl
    rw [upd_ne _ _ e3]
    exact h.v _ _ hy hl
  · rw [or_ne i3, hA] at hl'; cases hl'
  · rw [or_ne i3, hA] at hl; cases hl
  · rw [upd_ne _ _ d3]; exact h.r1 hA
  · exact ⟨by rw [or_ne i3]; exact hA, by rw [upd_same, upd_ne _ _ d3]⟩
  · rw [or_ne i2]; exact h.ord hA
  · rw [or_same] at hc; cases hc
  · simp [h.oz hA]
theorem SI.start (hb : base ≤ w0.heap.size) {w : World} (hd : w = w0.drew) (hr : w0.ownsRow base T sz row n xs) (f : Nat → Value) (hf : f N.c = row) : SI w0 base T sz row n xs cs N V (fun _ => false) f w := by
  subst hd
  exact ⟨(Below.refl _ _).drew, hb, fun _ _ _ h => Bool.noConfusion h, fun h => Bool.noConfusion h, fun _ => hr, fun h => Bool.noConfusion h, fun h => Bool.noConfusion h, fun h => Bool.noConfusion h, fun _ => hf, fun h => Bool.noConfusion h⟩
end

/-- The append of one struct. -/
theorem SI.append {w0 : World} {base : Nat} {T S : TypeId} {sz bytes : Nat} {row : Value} {n : Nat} {xs cs : List Value} {N : SayN} {V : Nat → Value} {L : Nat → Bool} {f : Nat → Value} {w : World} {P : Program} {Q : Exit → Act → World → Prop} {a0 : Act} {D : List Nat} {o : Oper} {z : Value}
    (h : SI w0 base T sz row n xs cs N V L f w) (wf : N.Wf) (hl : L N.A = false) (hB : L N.B = true) (hZ : L N.Z = true)
    (s x : Operand) (ho : o.op = .call { callee := .builtin .append, args := #[s, x], argTypes := #[S, S] }) (hd : o.dst = some N.a) (hD : D.contains N.a = true)
    (hS : P.underlying S = some (.slice T)) (hi : (P.info? T).map (fun i => (i.zero, i.size, i.bytes)) = some (some z, sz, bytes)) (hzs : z.cells.size = sz) (hsz : 0 < sz) (hs : (over D f a0).eval s = row) (hx : (over D f a0).eval x = f N.b)
    (hcs : cs.length = sz) (hc1 : ∀ c ∈ cs, c.oneCell' = true) (h63 : n + 1 ≤ maxLen) (hn : (n + 1) * bytes ≤ 140737488355328) :
    o.wp P (over D f a0) w (fun a' w' => ∃ f', a' = over D f' a0 ∧ SI w0 base T sz row n xs cs N V (fun k => k == N.A || L k) f' w') Q := by
  obtain ⟨q, e, hq, hne⟩ := h.bu hB hl
  obtain ⟨i, hi1, hz0, hz1, hz2⟩ := info_parts hi
  refine wp_append_lies w s x S ho base T i z sz bytes hS hi1 hz0 hz1 hz2 hzs hsz row n xs hs (h.r0 hl) ⟨q, 0, none⟩ 1 1 cs (hx.trans e) (by simp [hcs]) (news_lies hq (by simp)) hc1 (by omega) h63 hn h.size w.heap.size rfl ?_
  intro g cap w' hown hgrow hat hlt
  exact ⟨_, by rw [hd, over_put _ _ _ hD], h.appended wf hl hB hZ hown hgrow⟩
end Go.Proofs.YtmmkebdaijmpiaaGreat
