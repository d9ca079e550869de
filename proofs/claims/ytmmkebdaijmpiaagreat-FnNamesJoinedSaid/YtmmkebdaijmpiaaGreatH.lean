/- Blocks, rows and readings of texts in memory; regions that draw their order, by what holds of each operation. -/
import Derived.Test.YtmmkebdaijmpiaaGreatProg
import Derived.WalkKit
import Derived.KernelRfl
import Derived.RowKit3
import Derived.Deep.QuietTactic
import Derived.BigQuiet
import Derived.Deep.Draws
import Derived.Lib.Hide
import Derived.Deep.DeepFit
import Derived.WalkSpells
import Derived.WalkLawsBesides
import Derived.Deep.RegionHeld3
import Derived.Deep.AppendLies
import Derived.Deep.CutRange
import Derived.Deep.CutBlock
import Derived.OneCell
namespace Go.Proofs.YtmmkebdaijmpiaaGreat
open Go.RowKit
set_option linter.unusedVariables false
set_option linter.unusedSimpArgs false
/-- The world but for draws. -/
def Drawn (w w' : World) : Prop := ∃ n, w' = w.drewN n
theorem Drawn.refl (w : World) : Drawn w w := ⟨0, rfl⟩
theorem Drawn.n {w w' : World} (h : Drawn w w') {n : Nat} : Drawn w (w'.drewN n) := by
  obtain ⟨m, rfl⟩ := h
  exact ⟨m + n, World.drewN_drewN _ _ _⟩
theorem Drawn.one {w w' : World} (h : Drawn w w') : Drawn w w'.drew := h.n (n := 1)
theorem Drawn.trans {a b c : World} (h : Drawn a b) (k : Drawn b c) : Drawn a c := by
  obtain ⟨m, rfl⟩ := k
  exact h.n
theorem Drawn.heap {w w' : World} (h : Drawn w w') : w'.heap = w.heap := by obtain ⟨n, rfl⟩ := h; rfl
theorem setCell_same {w : World} {b : Nat} {v : Value} {t : TypeId} (h : w.heap[b]? = some (.cells #[v] t (0, 0))) : w.setCell ⟨b, 0, none⟩ v = w := by
  have hb : (w.setCell ⟨b, 0, none⟩ v).heap = w.heap := by
    simp only [World.setCell]
    apply Array.ext
    · simp
    · intro i h1 h2
      rw [Array.getElem_modify]
      split
      · rename_i e
        subst e
        have h' : w.heap[b] = .cells #[v] t (0, 0) := by simpa [Array.getElem?_eq_getElem h2] using h
        rw [h']
        simp
      · rfl
  have : w.setCell ⟨b, 0, none⟩ v = { w with heap := (w.setCell ⟨b, 0, none⟩ v).heap } := rfl
  rw [this, hb]
theorem heap_at (w : World) (o : Obj) (n : Nat) (h : n = w.heap.size) : (w.alloc o).heap[n]? = some o := by
  subst h
  show (w.heap.push o)[w.heap.size]? = _
  simp
theorem heap_past (w : World) (o : Obj) (n : Nat) (h : n < w.heap.size) : (w.alloc o).heap[n]? = w.heap[n]? := Below.heap_alloc w o n h
theorem heap_ne (w : World) (a : Addr) (v : Value) (n : Nat) (h : n ≠ a.block) : (w.setCell a v).heap[n]? = w.heap[n]? := Below.heap_setCell w a v n h
theorem heap_set {w : World} {b : Nat} {c : Array Value} {t : TypeId} {z : Nat × Nat} (h : w.heap[b]? = some (.cells c t z)) (i : Nat) (v : Value) : (w.setCell ⟨b, i, none⟩ v).heap[b]? = some (.cells (c.setIfInBounds i v) t z) := by
  have hlt := lt_of_block h
  have h' : w.heap[b] = .cells c t z := by simpa [Array.getElem?_eq_getElem hlt] using h
  show (w.heap.modify b _)[b]? = _
  rw [Array.getElem?_eq_getElem (by simpa using hlt), Array.getElem_modify_self, h']
  rfl
theorem size_setCell (w : World) (a : Addr) (v : Value) : (w.setCell a v).heap.size = w.heap.size := by simp [World.setCell]
theorem heap_past' {w : World} {o : Obj} {n : Nat} {r : Option Obj} (h : n < w.heap.size) (k : w.heap[n]? = r) : (w.alloc o).heap[n]? = r := (heap_past w o n h).trans k
theorem heap_ne' {w : World} {a : Addr} {v : Value} {n : Nat} {r : Option Obj} (h : n ≠ a.block) (k : w.heap[n]? = r) : (w.setCell a v).heap[n]? = r := (heap_ne w a v n h).trans k
theorem heap_drew' {w : World} {m n : Nat} {r : Option Obj} (k : w.heap[n]? = r) : (w.drewN m).heap[n]? = r := k
theorem Below.drewN' {B : Nat} {a w : World} (h : Below B a w) {n : Nat} : Below B a (w.drewN n) := ⟨h.os, h.tape, h.output, h.size, h.block⟩
theorem Below.after {a b c : World} (h : Below a.heap.size a b) (k : Below b.heap.size b c) : Below a.heap.size a c := h.trans (k.mono h.size)
theorem cells_ne {w : World} {a b : Nat} {c c' : Array Value} {t t' : TypeId} {z z' : Nat × Nat} (ha : w.heap[a]? = some (.cells c t z)) (hb : w.heap[b]? = some (.cells c' t' z')) (h : t ≠ t') : a ≠ b := by
  intro e
  subst e
  rw [ha] at hb
  cases hb
  exact h rfl
theorem ownsRow_cells {w : World} {base : Nat} {e : TypeId} {size : Nat} {v : Value} {n : Nat} {xs : List Value} (h : w.ownsRow base e size v n xs) {g : Nat} (hg : v.ownBlock = some g) : base ≤ g ∧ ∃ c, w.heap[g]? = some (.cells c e (0, 0)) := by
  rcases h.2 with ⟨rfl, _⟩ | ⟨g', cap, cur, rfl, hb, hh, _⟩
  · simp [Value.ownBlock] at hg
  · simp [Value.ownBlock] at hg
    subst hg
    exact ⟨hb, cur, hh⟩
theorem ownsRow_at {w w' : World} {base : Nat} {e : TypeId} {size : Nat} {v : Value} {n : Nat} {xs : List Value} (h : w.ownsRow base e size v n xs) (hk : ∀ g, v.ownBlock = some g → w'.heap[g]? = w.heap[g]?) : w'.ownsRow base e size v n xs := by
  refine ⟨h.1, ?_⟩
  rcases h.2 with h2 | ⟨g', cap, cur, rfl, hb, hh, r⟩
  · exact .inl h2
  · exact .inr ⟨g', cap, cur, rfl, hb, (hk g' rfl).trans hh, r⟩
theorem row_ne {w : World} {b : Nat} {c : Array Value} {t : TypeId} {z : Nat × Nat} (hb : w.heap[b]? = some (.cells c t z)) {base : Nat} {e : TypeId} {size : Nat} {v : Value} {n : Nat} {xs : List Value}
    (hr : w.ownsRow base e size v n xs) (hne : t ≠ e) : v.ownBlock ≠ some b := by
  intro h
  obtain ⟨_, c', hc⟩ := ownsRow_cells hr h
  rw [hb] at hc
  cases hc
  exact hne rfl
theorem grownBy_below {B : Nat} {w w1 : World} {row : Option Nat} (hg : w.grownBy w1 row) (hr : ∀ k, row = some k → B ≤ k) (hB : B ≤ w.heap.size) : Below B w w1 :=
  ⟨hg.os, hg.tape, hg.output, hg.size, fun k hk => hg.block k (by omega) (fun e => by have := hr k e.symm; omega)⟩
theorem row_form {w : World} {base : Nat} {e : TypeId} {size : Nat} {v : Value} {n : Nat} {xs : List Value} (h : w.ownsRow base e size v n xs) : ∃ a c, v = .slice a n c := by
  rcases h.2 with ⟨e, n⟩ | ⟨g, cap, cur, e, _⟩
  · exact ⟨none, 0, by rw [e, n]⟩
  · exact ⟨_, _, e⟩
theorem cell_of {w : World} {b : Nat} {cells : Array Value} {ty : TypeId} {fz : Nat × Nat} (h : w.heap[b]? = some (.cells cells ty fz)) (i : Nat) (v : Value) (hv : cells[i]? = some v) : w.cell? ⟨b, i, none⟩ = some v := by
  simp [World.cell?, h, hv]
theorem grown_below {base : Nat} {w w1 w2 : World} {e : TypeId} {size n : Nat} {v : Value} {xs : List Value} (hb : Below base w w1) (hs : base ≤ w1.heap.size) (hrow : w1.ownsRow base e size v n xs) (hg : w1.grownBy w2 v.ownBlock) : Below base w w2 :=
  hb.trans (grownBy_below hg (fun b hb => (ownsRow_cells hrow hb).1) hs)
theorem frozen_of {w : World} {b : Nat} {cells : Array Value} {ty : TypeId} (h : w.heap[b]? = some (.cells cells ty (0, 0))) (i : Nat) : w.frozen? ⟨b, i, none⟩ = false := by simp [World.frozen?, h]
/-- A fact is laid. -/
theorem lay {T G : Prop} (h : T) (k : T → G) : G := k h
theorem row_lower {w : World} {b b' : Nat} {e : TypeId} {size : Nat} {v : Value} {n : Nat} {xs : List Value} (h : w.ownsRow b e size v n xs) (hb : b' ≤ b) : w.ownsRow b' e size v n xs := by
  refine ⟨h.1, ?_⟩
  rcases h.2 with h2 | ⟨g, cap, cur, e, hg, r⟩
  · exact .inl h2
  · exact .inr ⟨g, cap, cur, e, Nat.le_trans hb hg, r⟩
theorem own_some (g n c : Nat) : (Value.slice (some ⟨g, 0, none⟩) n c).ownBlock = some g := rfl
/-- A block of another type behind an append. -/
theorem grown_other {w0 w w' : World} {e : TypeId} {size n : Nat} {v : Value} {xs : List Value} (ho : w.ownsRow w0.heap.size e size v n xs) (hg : w.grownBy w' v.ownBlock) {b : Nat} {c : Array Value} {t : TypeId} {z : Nat × Nat} (hb : w.heap[b]? = some (.cells c t z)) (hne : t ≠ e) : w'.heap[b]? = some (.cells c t z) :=
  (hg.block b (lt_of_block hb) (fun q => row_ne hb ho hne q.symm)).trans hb
theorem news_lies {w : World} {xb : Nat} {cs : Array Value} {ty : TypeId} {z : Nat × Nat} {news : List Value} (h : w.heap[xb]? = some (.cells cs ty z)) (hc : cs.toList = news) : ∀ j u, news[j]? = some u → w.cell? ((⟨xb, 0, none⟩ : Addr).add j) = some u := by
  intro j u hj
  have : (⟨xb, 0, none⟩ : Addr).add j = ⟨xb, j, none⟩ := by unfold Addr.add; split <;> simp_all
  rw [this]
  rw [← hc, Array.getElem?_toList] at hj
  simp [World.cell?, h, hj]
theorem grown_new {w0 w1 w w' : World} {e : TypeId} {size n : Nat} {v : Value} {xs : List Value} (ho : w1.ownsRow w0.heap.size e size v n xs) (hg : w.grownBy w' v.ownBlock) {b : Nat} {c : Array Value} {t : TypeId} {z : Nat × Nat} (hb : w.heap[b]? = some (.cells c t z)) (hle : w1.heap.size ≤ b) : w'.heap[b]? = some (.cells c t z) :=
  (hg.block b (lt_of_block hb) (fun q => by
    obtain ⟨_, c, hc⟩ := ownsRow_cells ho q.symm
    have := lt_of_block hc
    omega)).trans hb
theorem step_of {P : Program} {ops : Array Oper} {o : Oper} {a : Act} {w : World} {K : Act → World → Prop} {Q : Exit → Act → World → Prop} {E : Prop} (hgd : o.guard = none) (h : Oper.wp P o a w K Q) : if Region.wanted o (yielded ops a.tmps) = true then Oper.wp P o a w K Q else E := by
  have hw : Region.wanted o (yielded ops a.tmps) = true := by simp [Region.wanted, hgd]
  rw [if_pos hw]
  exact h
theorem list_of {P : Program} {ops : Array Oper} {rest : List Oper} {o : Oper} {a : Act} {w : World} {Q : Exit → Act → World → Prop} (hgd : o.guard = none) (h : Oper.wp P o a w (fun a' w' => wpList P ops Q rest a' w') Q) : wpList P ops Q (o :: rest) a w :=
  wpList_plain hgd fun _ hK => Oper.wp_mono hK h
/-- A slice value reads as these texts. -/
def Strs (w : World) (v : Value) (l : List ByteArray) : Prop :=
  ∃ a cap, v = .slice a l.length cap ∧ (l = [] ∨ ∃ b off cs ty fz, a = some ⟨b, off, none⟩ ∧ w.heap[b]? = some (.cells cs ty fz) ∧ ∀ i (h : i < l.length), cs[off + i]? = some (.string l[i]))
theorem Strs.cell {w : World} {a : Option Addr} {n cap : Nat} {l : List ByteArray} (h : Strs w (.slice a n cap) l) (hl : 0 < l.length) :
    ∃ b off, a = some ⟨b, off, none⟩ ∧ ∀ i (h : i < l.length), w.cell? ⟨b, off + i, none⟩ = some (.string l[i]) := by
  obtain ⟨a', cap', e, h⟩ := h
  rcases h with h | ⟨b, off, cs, ty, fz, rfl, hb, hc⟩
  · subst h; simp at hl
  · cases e
    exact ⟨b, off, rfl, fun i hi => by simp [World.cell?, hb, hc i hi]⟩
theorem Strs.len {w : World} {v : Value} {l : List ByteArray} (h : Strs w v l) : ∃ a cap, v = .slice a l.length cap := by
  obtain ⟨a', cap', e, h⟩ := h
  exact ⟨a', cap', e⟩
theorem Strs.nil (w : World) (a : Option Addr) (cap : Nat) : Strs w (.slice a 0 cap) [] := ⟨a, cap, rfl, .inl rfl⟩
/-- It reads so in every world whose old blocks are what they were. -/
theorem Strs.later {w w' : World} {v : Value} {l : List ByteArray} (h : Strs w v l) (hk : ∀ b, b < w.heap.size → w'.heap[b]? = w.heap[b]?) : Strs w' v l := by
  obtain ⟨a, cap, e, h⟩ := h
  refine ⟨a, cap, e, ?_⟩
  rcases h with h | ⟨b, off, cs, ty, fz, ha, hb, hc⟩
  · exact .inl h
  · exact .inr ⟨b, off, cs, ty, fz, ha, (hk b (lt_of_block hb)).trans hb, hc⟩
theorem Strs.below {w w' : World} {v : Value} {l : List ByteArray} (h : Strs w v l) (hb : Below w.heap.size w w') : Strs w' v l := h.later hb.block
theorem Strs.drewN {w : World} {v : Value} {l : List ByteArray} (h : Strs w v l) (n : Nat) : Strs (w.drewN n) v l := h
theorem Strs.alloc {w : World} {v : Value} {l : List ByteArray} (h : Strs w v l) (o : Obj) : Strs (w.alloc o) v l := h.later fun b hb => heap_past w o b hb
theorem Strs.made {w : World} {b : Nat} {ty : TypeId} {fz : Nat × Nat} (l : List ByteArray) (cap : Nat) (h : w.heap[b]? = some (.cells (l.map Value.string).toArray ty fz)) : Strs w (.slice (some ⟨b, 0, none⟩) l.length cap) l :=
  ⟨_, _, rfl, .inr ⟨b, 0, _, ty, fz, rfl, h, fun i hi => by simp [hi]⟩⟩
/-- The slots D of a frame hold f's values. -/
def ovl (D : List Nat) (f : Nat → Value) : Nat → List Value → List Value
  | _, [] => []
  | k, x :: l => (if D.contains k then f k else x) :: ovl D f (k + 1) l
def over (D : List Nat) (f : Nat → Value) (a : Act) : Act := ⟨(ovl D f 0 a.tmps.toList).toArray, a.defers⟩
/-- A value is put. -/
def upd (f : Nat → Value) (d : Nat) (v : Value) : Nat → Value := fun k => if k = d then v else f k

theorem ovl_length (D : List Nat) (f : Nat → Value) : ∀ (k : Nat) (l : List Value), (ovl D f k l).length = l.length
  | _, [] => rfl
  | k, x :: l => by simp [ovl, ovl_length D f (k + 1) l]
theorem ovl_get (D : List Nat) (f : Nat → Value) : ∀ (k : Nat) (l : List Value) (i : Nat), (ovl D f k l)[i]? = (l[i]?).map fun x => if D.contains (k + i) then f (k + i) else x
  | _, [], i => by simp [ovl]
  | k, x :: l, 0 => by simp [ovl]
  | k, x :: l, i + 1 => by
    rw [ovl, List.getElem?_cons_succ, List.getElem?_cons_succ, ovl_get D f (k + 1) l i]
    rw [show k + 1 + i = k + (i + 1) by omega]
theorem over_get (D : List Nat) (f : Nat → Value) (a : Act) (i : Nat) : (over D f a).tmps[i]? = (a.tmps[i]?).map fun x => if D.contains i then f i else x := by
  have := ovl_get D f 0 a.tmps.toList i
  rw [Nat.zero_add] at this
  simpa [over] using this
theorem act_ext {a b : Act} (h : ∀ i : Nat, a.tmps[i]? = b.tmps[i]?) (hd : a.defers = b.defers) : a = b := by
  obtain ⟨t, d⟩ := a
  obtain ⟨t', d'⟩ := b
  simp only at h hd
  subst hd
  have : t = t' := Array.ext_getElem? h
  rw [this]
theorem over_start (D : List Nat) (a : Act) : over D (fun k => a.tmps.getD k undef) a = a := by
  refine act_ext (fun i => ?_) rfl
  rw [over_get]
  cases h : a.tmps[i]? with
  | none => rfl
  | some x => simp [h]
theorem over_put (D : List Nat) (f : Nat → Value) (a : Act) {d : Nat} (hd : D.contains d = true) (v : Value) : (over D f a).put (some d) v = over D (upd f d v) a := by
  refine act_ext (fun i => ?_) rfl
  rw [over_get]
  show ((over D f a).tmps.setIfInBounds d v)[i]? = _
  rw [Array.getElem?_setIfInBounds]
  have hs : (over D f a).tmps.size = a.tmps.size := by simp [over, ovl_length]
  by_cases h : d = i
  · subst h
    rw [if_pos rfl, hs]
    by_cases hlt : d < a.tmps.size
    · rw [if_pos hlt, Array.getElem?_eq_getElem hlt]
      simp only [Option.map_some, upd, hd, if_true]
    · rw [if_neg hlt, Array.getElem?_eq_none (by omega)]
      rfl
  · rw [if_neg h, over_get]
    have : upd f d v i = f i := by simp only [upd]; rw [if_neg (fun e => h e.symm)]
    rw [this]
theorem over_eval (D : List Nat) (f : Nat → Value) (a : Act) {d : Nat} (hd : D.contains d = true) (hs : d < a.tmps.size) : (over D f a).eval (.tmp d) = f d := by
  show (over D f a).tmps.getD d undef = _
  rw [Array.getD_eq_getD_getElem?, over_get, Array.getElem?_eq_getElem hs]
  simp only [Option.map_some, hd, if_true, Option.getD_some]
theorem over_eval_out (D : List Nat) (f : Nat → Value) (a : Act) {d : Nat} (hd : D.contains d = false) : (over D f a).eval (.tmp d) = a.eval (.tmp d) := by
  show (over D f a).tmps.getD d undef = a.tmps.getD d undef
  rw [Array.getD_eq_getD_getElem?, Array.getD_eq_getD_getElem?, over_get]
  cases h : a.tmps[d]? with
  | none => rfl
  | some x => simp only [Option.map_some, hd, Bool.false_eq_true, if_false, Option.getD_some]

section
variable {P : Program} {ops : Array Oper} {Q : Exit → Act → World → Prop}

/-- What holds in each state of a region holds at its end. -/
theorem wpAny_inv {md : Region.Mode} (I : (Nat → Bool) → Act → World → Prop)
    (hstep : ∀ (L : Nat → Bool) (a : Act) (w : World) (i : Nat) (o : Oper), ops[i]? = some o → L i = false → (∀ e ∈ o.after, Region.binds md e = true → L e.on = true) → I L a w → wpOp P ops Q i (fun a' w' => I (fun k => k == i || L k) a' w') a w)
    (hfin : ∀ (L : Nat → Bool) (a : Act) (w : World), (∀ i, i < ops.size → L i = true) → I L a w → Q .normal a w)
    (hwf : ∀ listed : Array Bool, listed.size = ops.size → Region.ready md ops listed = [] → ∀ i, i < ops.size → listed.getD i false = true) :
    ∀ (fuel : Nat) (listed : Array Bool) (a : Act) (w : World), listed.size = ops.size → listed.count false ≤ fuel → I (fun k => listed.getD k false) a w → wpAny P md ops Q fuel listed a w := by
  intro fuel
  induction fuel with
  | zero =>
    intro listed a w hsz hc hI
    have all : ∀ i, i < ops.size → listed.getD i false = true := by
      intro i hi
      have h0 : listed.count false = 0 := by omega
      rw [Array.count_eq_zero] at h0
      have hi' : i < listed.size := by omega
      have : listed[i] ≠ false := fun e => h0 (e ▸ Array.getElem_mem hi')
      simp only [Array.getD_eq_getD_getElem?, Array.getElem?_eq_getElem hi', Option.getD_some]
      cases hh : listed[i] with
      | true => rfl
      | false => exact absurd hh this
    refine ⟨?_, hfin _ a w all hI⟩
    rw [List.eq_nil_iff_forall_not_mem]
    intro j hj
    obtain ⟨h1, o, ho, _⟩ := mem_ready.1 hj
    have hlt : j < ops.size := (Array.getElem?_eq_some_iff.1 ho).1
    have := all j hlt
    have hj' : j < listed.size := by omega
    simp [Array.getElem?_eq_getElem hj'] at h1 this
    rw [h1] at this
    cases this
  | succ fuel ih =>
    intro listed a w hsz hc hI
    refine ⟨fun h0 => hfin _ a w (hwf listed hsz h0) hI, fun i hi => ?_⟩
    obtain ⟨h1, o, ho, hall⟩ := mem_ready.1 hi
    have hlt : i < ops.size := (Array.getElem?_eq_some_iff.1 ho).1
    have hlt' : i < listed.size := by omega
    have hf : listed[i] = false := by simpa [Array.getElem?_eq_getElem hlt'] using h1
    refine wpOp_mono (fun a' w' h => ih (listed.setIfInBounds i true) a' w' (by simpa using hsz) ?_ ?_) (hstep (fun k => listed.getD k false) a w i o ho (by simp [Array.getElem?_eq_getElem hlt', hf]) hall hI)
    · have hset : listed.setIfInBounds i true = listed.set i true hlt' := by simp [Array.setIfInBounds, hlt']
      rw [hset, Array.count_set, hf]
      simp
      omega
    · have e : (fun k => (listed.setIfInBounds i true).getD k false) = fun k => k == i || listed.getD k false := by
        funext k
        simp only [Array.getD_eq_getD_getElem?, Array.getElem?_setIfInBounds]
        by_cases hk : i = k
        · subst hk
          simp [hlt']
        · rw [if_neg hk]
          have : (k == i) = false := by rw [beq_eq_false_iff_ne]; exact fun e => hk e.symm
          rw [this, Bool.false_or]
      rw [e]
      exact h

/-- Operations wait for earlier ones alone. -/
def backward (ops : Array Oper) : Bool := (List.range ops.size).all fun i => ((ops[i]?).map fun o => o.after.all fun e => decide (e.on < i)).getD true
theorem backward_spec (h : backward ops = true) {i : Nat} {o : Oper} (ho : ops[i]? = some o) : ∀ e ∈ o.after, e.on < i := by
  intro e he
  have hlt : i < ops.size := (Array.getElem?_eq_some_iff.1 ho).1
  have := List.all_eq_true.1 h i (List.mem_range.2 hlt)
  rw [ho, Option.map_some, Option.getD_some, Array.all_eq_true_iff_forall_mem] at this
  exact of_decide_eq_true (this e he)
theorem all_listed {md : Region.Mode} (hb : backward ops = true) (listed : Array Bool) (hsz : listed.size = ops.size) (h0 : Region.ready md ops listed = []) : ∀ i, i < ops.size → listed.getD i false = true := by
  intro i
  induction i using Nat.strongRecOn with
  | ind i ih =>
    intro hi
    cases hc : listed.getD i false with
    | true => rfl
    | false =>
      have hi' : i < listed.size := by omega
      have : i ∈ Region.ready md ops listed := by
        refine mem_ready.2 ⟨?_, ops[i], Array.getElem?_eq_getElem hi, fun e he _ => ?_⟩
        · simp [Array.getElem?_eq_getElem hi'] at hc ⊢
          exact hc
        · have hlt := backward_spec hb (Array.getElem?_eq_getElem hi) e he
          exact ih e.on hlt (by omega)
      rw [h0] at this
      cases this

theorem wp_region_og {id : Nat} {a0 : Act} {w0 : World} (D : List Nat) (I : (Nat → Bool) → (Nat → Value) → World → Prop) (hm : P.follows .mixedOrders = true) (hb : backward ops = true)
    (h0 : I (fun _ => false) (fun k => a0.tmps.getD k undef) w0.drew)
    (hstep : ∀ (i : Nat) (o : Oper), ops[i]? = some o → ∀ (L : Nat → Bool) (f : Nat → Value) (w : World), L i = false → (∀ e ∈ o.after, Region.binds .any e = true → L e.on = true) → I L f w → wpOp P ops Q i (fun a' w' => ∃ f', a' = over D f' a0 ∧ I (fun k => k == i || L k) f' w') (over D f a0) w)
    (hfin : ∀ (L : Nat → Bool) (f : Nat → Value) (w : World), (∀ i, i < ops.size → L i = true) → I L f w → Q .normal (over D f a0) w) : (Code.region id ops true).wp P Q a0 w0 := by
  refine wp_region_any hm (wpAny_inv (fun L a w => ∃ f, a = over D f a0 ∧ I L f w) ?_ ?_ (fun l hs h => all_listed hb l hs h) ops.size _ a0 _ (by simp) ?_ ?_)
  · rintro L a w i o ho hl hp ⟨f, rfl, hI⟩
    exact hstep i o ho L f w hl hp hI
  · rintro L a w hl ⟨f, rfl, hI⟩
    exact hfin L f w hl hI
  · rw [Array.count_replicate]; simp
  · refine ⟨_, (over_start D a0).symm, ?_⟩
    have e : (fun k => (Array.replicate ops.size false).getD k false) = fun _ => false := by
      funext k
      simp [Array.getElem?_replicate]
      split <;> rfl
    rw [e]
    exact h0

/-- An operation that no guard keeps back. -/
theorem og_op {i : Nat} {o : Oper} {K : Act → World → Prop} {a : Act} {w : World} (ho : ops[i]? = some o) (hg : o.guard = none) (h : o.wp P a w K Q) : wpOp P ops Q i K a w := by
  unfold wpOp
  simp only [ho]
  have hw : Region.wanted o (yielded ops a.tmps) = true := by simp [Region.wanted, hg]
  rw [if_pos hw]
  exact .inl h
theorem og_value {o : Oper} {K : Act → World → Prop} {a : Act} {w w' : World} {v : Value} (h : (execOp a.eval o).run P w = .ok (.value v) w') (hk : K (a.put o.dst v) w') : o.wp P a w K Q := by
  unfold Oper.wp
  rw [h]
  exact hk
theorem og_skip {o : Oper} {K : Act → World → Prop} {a : Act} {w w' : World} (h : (execOp a.eval o).run P w = .ok .skip w') (hk : K (a.put o.dst undef) w') : o.wp P a w K Q := by
  unfold Oper.wp
  rw [h]
  exact hk
theorem og_call {o : Oper} {K : Act → World → Prop} {a : Act} {w : World} {g : FuncId} {args : Array Value} (h : (execOp a.eval o).run P w = .ok (.enter g args) w) (hk : Calls P g args w fun e w' => ∃ v, e = .returned v ∧ K (a.put o.dst v) w') : o.wp P a w K Q := by
  unfold Oper.wp
  rw [h]
  refine Calls.mono hk ?_
  rintro e w' ⟨v, rfl, hv⟩
  exact hv

end

theorem upd_same (f : Nat → Value) (d : Nat) (v : Value) : upd f d v d = v := by simp [upd]
theorem upd_ne (f : Nat → Value) {d k : Nat} (v : Value) (h : k ≠ d) : upd f d v k = f k := by simp [upd, h]
theorem or_ne {L : Nat → Bool} {i k : Nat} (h : k ≠ i) : (k == i || L k) = L k := by
  have : (k == i) = false := by rw [beq_eq_false_iff_ne]; exact h
  rw [this, Bool.false_or]
theorem or_same {L : Nat → Bool} {i : Nat} : (i == i || L i) = true := by simp
theorem run_move {P : Program} {ρ : Operand → Value} {d : Option Tmp} {ty : TypeId} {pos : String} {af : Array Edge} {g : Option (Nat × Bool)} {x : Operand} {w : World} {v : Value} (h : ρ x = v) :
    (execOp ρ ⟨d, .move x, ty, pos, af, g⟩).run P w = .ok (.value v) w := by
  subst h; rfl
theorem run_call1 {P : Program} {ρ : Operand → Value} {d : Option Tmp} {ty : TypeId} {pos : String} {af : Array Edge} {g : Option (Nat × Bool)} {x : Operand} {w : World} {v : Value} {f : FuncId} {ts : Array TypeId} (h : ρ x = v) (hf : ρ (.func f) = .func (.func f) #[] #[]) (hc : ∀ args, (callFunc f args).run P w = .ok (.enter f args) w) :
    (execOp ρ ⟨d, .call { callee := .value (.func f), args := #[x], argTypes := ts }, ty, pos, af, g⟩).run P w = .ok (.enter f #[v]) w := by
  subst h
  simp [execOp, resolve, hf, go_sem, hc]
theorem run_call2 {P : Program} {ρ : Operand → Value} {d : Option Tmp} {ty : TypeId} {pos : String} {af : Array Edge} {g : Option (Nat × Bool)} {x y : Operand} {w : World} {v u : Value} {f : FuncId} {ts : Array TypeId} (h : ρ x = v) (h' : ρ y = u) (hf : ρ (.func f) = .func (.func f) #[] #[]) (hc : ∀ args, (callFunc f args).run P w = .ok (.enter f args) w) :
    (execOp ρ ⟨d, .call { callee := .value (.func f), args := #[x, y], argTypes := ts }, ty, pos, af, g⟩).run P w = .ok (.enter f #[v, u]) w := by
  subst h; subst h'
  simp [execOp, resolve, hf, go_sem, hc]
end Go.Proofs.YtmmkebdaijmpiaaGreat
