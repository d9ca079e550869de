/- Variables that hold what was heard. -/
import Derived.Test.YtcpjdgbnfjdakaaLives
import Derived.Deep.RegionHeld3
namespace Go.Proofs.Ytcpjdgbnfjdakaa
open Go.RowKit
set_option linter.unusedVariables false
set_option linter.unusedSimpArgs false

theorem frozen_of {w : World} {b : Nat} {cells : Array Value} {ty : TypeId} (h : w.heap[b]? = some (.cells cells ty (0, 0))) (i : Nat) : w.frozen? ⟨b, i, none⟩ = false := by simp [World.frozen?, h]
theorem kind_none {x : ErrD} : x.kind = 0 ↔ x.isNone = true := by cases x <;> simp [ErrD.kind, ErrD.isNone]

/-- A fact is laid. -/
theorem lay {T G : Prop} (h : T) (k : T → G) : G := k h
theorem size_drew (w : World) : w.drew.heap.size = w.heap.size := rfl
theorem heap_drew1' {w : World} {n : Nat} {r : Option Obj} (k : w.heap[n]? = r) : w.drew.heap[n]? = r := k
theorem HeardRows.below {w w' : World} {base : Nat} {gv av cv : Value} {r : RunD} {ch : List Nat} (h : HeardRows w base gv av cv r ch) (hb : Below w.heap.size w w') : HeardRows w' base gv av cv r ch :=
  h.at fun b c e _ hc _ => hb.block b (lt_of_block hc)
theorem HeardRows.lower {w : World} {base base' : Nat} {gv av cv : Value} {r : RunD} {ch : List Nat} (h : HeardRows w base gv av cv r ch) (hb : base' ≤ base) : HeardRows w base' gv av cv r ch :=
  ⟨row_lower h.1 hb, row_lower h.2.1 hb, row_lower h.2.2 hb⟩

/-- A variable that holds what was heard. -/
def HeardVar (w0 : World) (base : Nat) (w : World) (v : Value) (r : RunD) (ch : List Nat) : Prop :=
  ∃ B ga gc aa ac ca cc, v = .pointer (some ⟨B, 0, none⟩) ∧ base ≤ B ∧ w.heap[B]? = some (.cells (hCells r.err r.dash true (.slice ga r.given.length gc) (.slice aa r.args.length ac) (.slice ca ch.length cc)) 33 (0, 0)) ∧ HeardRows w 0 (.slice ga r.given.length gc) (.slice aa r.args.length ac) (.slice ca ch.length cc) r ch ∧ Below base w0 w

theorem HeardVar.later {w0 w w' : World} {base : Nat} {v : Value} {r : RunD} {ch : List Nat} (h : HeardVar w0 base w v r ch) (hs : base ≤ w.heap.size) (hb : Below w.heap.size w w') : HeardVar w0 base w' v r ch := by
  obtain ⟨B, ga, gc, aa, ac, ca, cc, e, h1, h2, h3, h4⟩ := h
  exact ⟨B, ga, gc, aa, ac, ca, cc, e, h1, (hb.block _ (lt_of_block h2)).trans h2, h3.below hb, h4.trans (hb.mono hs)⟩

theorem heardVar_new {w0 w' : World} {base b0 : Nat} {r : RunD} {ch : List Nat} {ga aa ca : Option Addr} {gc ac cc : Nat} (hb : Below base w0 w') (hs : base ≤ w'.heap.size) (hr : HeardRows w' b0 (.slice ga r.given.length gc) (.slice aa r.args.length ac) (.slice ca ch.length cc) r ch) :
    HeardVar w0 base (w'.alloc (.cells #[.int .i64 r.err.kind, .string r.err.name, .string r.err.shorts, .string r.err.value, .int .i64 r.err.place, .slice ga r.given.length gc, .slice aa r.args.length ac, .int .i64 r.dash, .slice ca ch.length cc, .bool true, .bool false] 33)) (.pointer (some ⟨w'.heap.size, 0, none⟩)) r ch :=
  ⟨_, ga, gc, aa, ac, ca, cc, rfl, hs, heap_at _ _ _ rfl, (hr.below ((Below.refl _ _).alloc (Nat.le_refl _) _)).lower (Nat.zero_le _), hb.alloc hs _⟩

theorem heardVar_put {w0 w' : World} {base b0 B : Nat} {r : RunD} {ch : List Nat} {ga aa ca : Option Addr} {gc ac cc : Nat} (hb : Below base w0 w') (hB : base ≤ B) (hX : w'.heap[B]? = some (.cells zeroH 33 (0, 0))) (hr : HeardRows w' b0 (.slice ga r.given.length gc) (.slice aa r.args.length ac) (.slice ca ch.length cc) r ch) :
    HeardVar w0 base (((((((((((w'.setCell ⟨B, 0, none⟩ (.int .i64 r.err.kind)).setCell ⟨B, 1, none⟩ (.string r.err.name)).setCell ⟨B, 2, none⟩ (.string r.err.shorts)).setCell ⟨B, 3, none⟩ (.string r.err.value)).setCell ⟨B, 4, none⟩ (.int .i64 r.err.place)).setCell ⟨B, 5, none⟩ (.slice ga r.given.length gc)).setCell ⟨B, 6, none⟩ (.slice aa r.args.length ac)).setCell ⟨B, 7, none⟩ (.int .i64 r.dash)).setCell ⟨B, 8, none⟩ (.slice ca ch.length cc)).setCell ⟨B, 9, none⟩ (.bool true)).setCell ⟨B, 10, none⟩ (.bool false)) (.pointer (some ⟨B, 0, none⟩)) r ch := by
  obtain ⟨hZ, hW, hBW⟩ := put11 hX (.int .i64 r.err.kind) (.string r.err.name) (.string r.err.shorts) (.string r.err.value) (.int .i64 r.err.place) (.slice ga r.given.length gc) (.slice aa r.args.length ac) (.int .i64 r.dash) (.slice ca ch.length cc) (.bool true) (.bool false)
  refine ⟨B, ga, gc, aa, ac, ca, cc, rfl, hB, hZ, (hr.at fun b c e _ hc hne => hW b ?_).lower (Nat.zero_le _), hb.trans (hBW base hB)⟩
  intro e'
  subst e'
  rw [hX] at hc
  cases hc
  exact hne rfl

/-- What a variable that holds what was heard reads as, in later worlds. -/
theorem HeardVar.cells {w0 w : World} {base : Nat} {v : Value} {r : RunD} {ch : List Nat} (h : HeardVar w0 base w v r ch) : ∃ B ga gc aa ac ca cc, v = .pointer (some ⟨B, 0, none⟩) ∧ base ≤ B ∧ (∀ w', Below w.heap.size w w' → w'.cell? ⟨B, 0, none⟩ = some (.int .i64 r.err.kind) ∧ w'.cell? ⟨B, 1, none⟩ = some (.string r.err.name) ∧ w'.cell? ⟨B, 2, none⟩ = some (.string r.err.shorts) ∧ w'.cell? ⟨B, 3, none⟩ = some (.string r.err.value) ∧ w'.cell? ⟨B, 4, none⟩ = some (.int .i64 r.err.place) ∧ w'.cell? ⟨B, 5, none⟩ = some (.slice ga r.given.length gc) ∧ w'.cell? ⟨B, 6, none⟩ = some (.slice aa r.args.length ac) ∧ w'.cell? ⟨B, 7, none⟩ = some (.int .i64 r.dash) ∧ w'.cell? ⟨B, 8, none⟩ = some (.slice ca ch.length cc) ∧ w'.cell? ⟨B, 9, none⟩ = some (.bool true) ∧ w'.cell? ⟨B, 10, none⟩ = some (.bool false)) ∧
    (∀ w', Below w.heap.size w w' → Givens w' (.slice ga r.given.length gc) r.given ∧ Texts w' (.slice aa r.args.length ac) r.args ∧ Ints w' (.slice ca ch.length cc) ch) ∧ Below base w0 w := by
  obtain ⟨B, ga, gc, aa, ac, ca, cc, e, h1, h2, h3, h4⟩ := h
  refine ⟨B, ga, gc, aa, ac, ca, cc, e, h1, fun w' hb => ?_, fun w' hb => ?_, h4⟩
  · have q := (hb.block _ (lt_of_block h2)).trans h2
    exact ⟨cell_of q 0 _ rfl, cell_of q 1 _ rfl, cell_of q 2 _ rfl, cell_of q 3 _ rfl, cell_of q 4 _ rfl, cell_of q 5 _ rfl, cell_of q 6 _ rfl, cell_of q 7 _ rfl, cell_of q 8 _ rfl, cell_of q 9 _ rfl, cell_of q 10 _ rfl⟩
  · obtain ⟨q1, q2, q3⟩ := h3.below hb
    exact ⟨Givens.ofRow q1, Texts.ofRow q2, Ints.ofRow q3⟩

theorem StrRows.made2 {w : World} {b : Nat} {ty : TypeId} {fz : Nat × Nat} {v v' : Value} {l l' : List ByteArray} (cap : Nat) (h : w.heap[b]? = some (.cells #[v, v'] ty fz)) (hr : Strs w v l) (hr' : Strs w v' l') : StrRows w (.slice (some ⟨b, 0, none⟩) 2 cap) [l, l'] :=
  StrRows.made [v, v'] [l, l'] cap h rfl fun i h1 h2 => by
    match i, h1, h2 with
    | 0, _, _ => exact hr
    | 1, _, _ => exact hr'
theorem StrRows.made3 {w : World} {b : Nat} {ty : TypeId} {fz : Nat × Nat} {v v' v'' : Value} {l l' l'' : List ByteArray} (cap : Nat) (h : w.heap[b]? = some (.cells #[v, v', v''] ty fz)) (hr : Strs w v l) (hr' : Strs w v' l') (hr'' : Strs w v'' l'') : StrRows w (.slice (some ⟨b, 0, none⟩) 3 cap) [l, l', l''] :=
  StrRows.made [v, v', v''] [l, l', l''] cap h rfl fun i h1 h2 => by
    match i, h1, h2 with
    | 0, _, _ => exact hr
    | 1, _, _ => exact hr'
    | 2, _, _ => exact hr''
/-- list14 of two rows that lie at a block. -/
theorem list2h_any {A B : List ByteArray} (va vb : Value) (W : World) (p : Nat) {ty : TypeId} {fz : Nat × Nat} (hp : W.heap[p]? = some (.cells #[va, vb] ty fz)) (hA : Strs W va A) (hB : Strs W vb B) (hl : (A ++ B).length ≤ 1099511627776) :
    Calls Try.prog 33 #[.slice (some ⟨p, 0, none⟩) 2 2] W fun e w' => (∃ rv, e = .returned rv ∧ Texts w' rv (A ++ B)) ∧ Below W.heap.size W w' := by
  have e : [A, B].flatten = A ++ B := by simp
  refine (list14_any (.slice (some ⟨p, 0, none⟩) 2 2) [A, B] W (StrRows.made2 2 hp hA hB) (by simp) (by rw [e]; exact hl)).mono ?_
  rintro e' w' ⟨rv, rfl, h1, h2⟩
  rw [e] at h1
  exact ⟨⟨rv, rfl, Texts.ofRow h1⟩, h2⟩
theorem list3h_any {A B C : List ByteArray} (va vb vc : Value) (W : World) (p : Nat) {ty : TypeId} {fz : Nat × Nat} (hp : W.heap[p]? = some (.cells #[va, vb, vc] ty fz)) (hA : Strs W va A) (hB : Strs W vb B) (hC : Strs W vc C) (hl : (A ++ (B ++ C)).length ≤ 1099511627776) :
    Calls Try.prog 33 #[.slice (some ⟨p, 0, none⟩) 3 3] W fun e w' => (∃ rv, e = .returned rv ∧ Texts w' rv (A ++ (B ++ C))) ∧ Below W.heap.size W w' := by
  have e : [A, B, C].flatten = A ++ (B ++ C) := by simp
  refine (list14_any (.slice (some ⟨p, 0, none⟩) 3 3) [A, B, C] W (StrRows.made3 3 hp hA hB hC) (by simp) (by rw [e]; exact hl)).mono ?_
  rintro e' w' ⟨rv, rfl, h1, h2⟩
  rw [e] at h1
  exact ⟨⟨rv, rfl, Texts.ofRow h1⟩, h2⟩
theorem below_alloc1 {w1 w2 : World} (h : Below w1.heap.size w1 w2) (o : Obj) : Below w1.heap.size w1 (w2.alloc o) := h.alloc h.size o
theorem fits_two {l m : List ByteArray} (h : fitsF [l, m] = true) : bytesOf l ≤ 1048576 ∧ bytesOf m ≤ 1048576 := by
  have : bytesOf l + bytesOf m ≤ 1048576 := by simpa [fitsF, bytesOfAll] using h
  omega
theorem bytesOf_append (a b : List ByteArray) : bytesOf (a ++ b) = bytesOf a + bytesOf b := by simp [bytesOf]
end Go.Proofs.Ytcpjdgbnfjdakaa
