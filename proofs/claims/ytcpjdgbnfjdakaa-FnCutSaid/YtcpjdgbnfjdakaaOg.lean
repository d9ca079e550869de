/- Regions that draw their order, by what holds of each operation once it has come up. -/
import Derived.Test.YtcpjdgbnfjdakaaLives
namespace Go.Proofs.Ytcpjdgbnfjdakaa
open Go.RowKit
set_option linter.unusedVariables false
set_option linter.unusedSimpArgs false

/-- The slots D of a frame hold f's values. -/
def ovl (D : List Nat) (f : Nat → Value) : Nat → List Value → List Value
  | _, [] => []
  | k, x :: l => (if D.contains k then f k else x) :: ovl D f (k + 1) l
def over (D : List Nat) (f : Nat → Value) (a : Act) : Act := ⟨(ovl D f 0 a.tmps.toList).toArray, a.defers⟩
/-- A value is put. -/
def upd (f : Nat → Value) (d : Nat) (v : Value) : Nat → Value := fun k => if k = d then v else f k

theorem ovl_length (D : List Nat) (f : Nat → Value) : ∀ (k : Nat) (l : List Value), (ovl D f k l).length = l.length
  | _, [] => rfl
  | k, x :: l => by simp [ovl, ovl_length D f (k + 1) l]
theorem ovl_get (D : List Nat) (f : Nat → Value) : ∀ (k : Nat) (l : List Value) (i : Nat), (ovl D f k l)[i]? = (l[i]?).map fun x => if D.contains (k + i) then f (k + i) else x
  | _, [], i => by simp [ovl]
  | k, x :: l, 0 => by simp [ovl]
  | k, x :: l, i + 1 => by
    rw [ovl, List.getElem?_cons_succ, List.getElem?_cons_succ, ovl_get D f (k + 1) l i]
    rw [show k + 1 + i = k + (i + 1) by omega]
theorem over_get (D : List Nat) (f : Nat → Value) (a : Act) (i : Nat) : (over D f a).tmps[i]? = (a.tmps[i]?).map fun x => if D.contains i then f i else x := by
  have := ovl_get D f 0 a.tmps.toList i
  rw [Nat.zero_add] at this
  simpa [over] using this
theorem act_ext {a b : Act} (h : ∀ i : Nat, a.tmps[i]? = b.tmps[i]?) (hd : a.defers = b.defers) : a = b := by
  obtain ⟨t, d⟩ := a
  obtain ⟨t', d'⟩ := b
  simp only at h hd
  subst hd
  have : t = t' := Array.ext_getElem? h
  rw [this]
theorem over_start (D : List Nat) (a : Act) : over D (fun k => a.tmps.getD k undef) a = a := by
  refine act_ext (fun i => ?_) rfl
  rw [over_get]
  cases h : a.tmps[i]? with
  | none => rfl
  | some x => simp [h]
theorem over_put (D : List Nat) (f : Nat → Value) (a : Act) {d : Nat} (hd : D.contains d = true) (v : Value) : (over D f a).put (some d) v = over D (upd f d v) a := by
  refine act_ext (fun i => ?_) rfl
  rw [over_get]
  show ((over D f a).tmps.setIfInBounds d v)[i]? = _
  rw [Array.getElem?_setIfInBounds]
  have hs : (over D f a).tmps.size = a.tmps.size := by simp [over, ovl_length]
  by_cases h : d = i
  · subst h
    rw [if_pos rfl, hs]
    by_cases hlt : d < a.tmps.size
    · rw [if_pos hlt, Array.getElem?_eq_getElem hlt]
      simp only [Option.map_some, upd, hd, if_true]
    · rw [if_neg hlt, Array.getElem?_eq_none (by omega)]
      rfl
  · rw [if_neg h, over_get]
    have : upd f d v i = f i := by simp only [upd]; rw [if_neg (fun e => h e.symm)]
    rw [this]
theorem over_eval (D : List Nat) (f : Nat → Value) (a : Act) {d : Nat} (hd : D.contains d = true) (hs : d < a.tmps.size) : (over D f a).eval (.tmp d) = f d := by
  show (over D f a).tmps.getD d undef = _
  rw [Array.getD_eq_getD_getElem?, over_get, Array.getElem?_eq_getElem hs]
  simp only [Option.map_some, hd, if_true, Option.getD_some]
theorem over_eval_out (D : List Nat) (f : Nat → Value) (a : Act) {d : Nat} (hd : D.contains d = false) : (over D f a).eval (.tmp d) = a.eval (.tmp d) := by
  show (over D f a).tmps.getD d undef = a.tmps.getD d undef
  rw [Array.getD_eq_getD_getElem?, Array.getD_eq_getD_getElem?, over_get]
  cases h : a.tmps[d]? with
  | none => rfl
  | some x => simp only [Option.map_some, hd, Bool.false_eq_true, if_false, Option.getD_some]

section
variable {P : Program} {ops : Array Oper} {Q : Exit → Act → World → Prop}

/-- What holds in each state of a region holds at its end. -/
theorem wpAny_inv {md : Region.Mode} (I : (Nat → Bool) → Act → World → Prop)
    (hstep : ∀ (L : Nat → Bool) (a : Act) (w : World) (i : Nat) (o : Oper), ops[i]? = some o → L i = false → (∀ e ∈ o.after, Region.binds md e = true → L e.on = true) → I L a w → wpOp P ops Q i (fun a' w' => I (fun k => k == i || L k) a' w') a w)
    (hfin : ∀ (L : Nat → Bool) (a : Act) (w : World), (∀ i, i < ops.size → L i = true) → I L a w → Q .normal a w)
    (hwf : ∀ listed : Array Bool, listed.size = ops.size → Region.ready md ops listed = [] → ∀ i, i < ops.size → listed.getD i false = true) :
    ∀ (fuel : Nat) (listed : Array Bool) (a : Act) (w : World), listed.size = ops.size → listed.count false ≤ fuel → I (fun k => listed.getD k false) a w → wpAny P md ops Q fuel listed a w := by
  intro fuel
  induction fuel with
  | zero =>
    intro listed a w hsz hc hI
    have all : ∀ i, i < ops.size → listed.getD i false = true := by
      intro i hi
      have h0 : listed.count false = 0 := by omega
      rw [Array.count_eq_zero] at h0
      have hi' : i < listed.size := by omega
      have : listed[i] ≠ false := fun e => h0 (e ▸ Array.getElem_mem hi')
      simp only [Array.getD_eq_getD_getElem?, Array.getElem?_eq_getElem hi', Option.getD_some]
      cases hh : listed[i] with
      | true => rfl
      | false => exact absurd hh this
    refine ⟨?_, hfin _ a w all hI⟩
    rw [List.eq_nil_iff_forall_not_mem]
    intro j hj
    obtain ⟨h1, o, ho, _⟩ := mem_ready.1 hj
    have hlt : j < ops.size := (Array.getElem?_eq_some_iff.1 ho).1
    have := all j hlt
    have hj' : j < listed.size := by omega
    simp [Array.getElem?_eq_getElem hj'] at h1 this
    rw [h1] at this
    cases this
  | succ fuel ih =>
    intro listed a w hsz hc hI
    refine ⟨fun h0 => hfin _ a w (hwf listed hsz h0) hI, fun i hi => ?_⟩
    obtain ⟨h1, o, ho, hall⟩ := mem_ready.1 hi
    have hlt : i < ops.size := (Array.getElem?_eq_some_iff.1 ho).1
    have hlt' : i < listed.size := by omega
    have hf : listed[i] = false := by simpa [Array.getElem?_eq_getElem hlt'] using h1
    refine wpOp_mono (fun a' w' h => ih (listed.setIfInBounds i true) a' w' (by simpa using hsz) ?_ ?_) (hstep (fun k => listed.getD k false) a w i o ho (by simp [Array.getElem?_eq_getElem hlt', hf]) hall hI)
    · have hset : listed.setIfInBounds i true = listed.set i true hlt' := by simp [Array.setIfInBounds, hlt']
      rw [hset, Array.count_set, hf]
      simp
      omega
    · have e : (fun k => (listed.setIfInBounds i true).getD k false) = fun k => k == i || listed.getD k false := by
        funext k
        simp only [Array.getD_eq_getD_getElem?, Array.getElem?_setIfInBounds]
        by_cases hk : i = k
        · subst hk
          simp [hlt']
        · rw [if_neg hk]
          have : (k == i) = false := by rw [beq_eq_false_iff_ne]; exact fun e => hk e.symm
          rw [this, Bool.false_or]
      rw [e]
      exact h

/-- Operations wait for earlier ones alone. -/
def backward (ops : Array Oper) : Bool := (List.range ops.size).all fun i => ((ops[i]?).map fun o => o.after.all fun e => decide (e.on < i)).getD true
theorem backward_spec (h : backward ops = true) {i : Nat} {o : Oper} (ho : ops[i]? = some o) : ∀ e ∈ o.after, e.on < i := by
  intro e he
  have hlt : i < ops.size := (Array.getElem?_eq_some_iff.1 ho).1
  have := List.all_eq_true.1 h i (List.mem_range.2 hlt)
  rw [ho, Option.map_some, Option.getD_some, Array.all_eq_true_iff_forall_mem] at this
  exact of_decide_eq_true (this e he)
theorem all_listed {md : Region.Mode} (hb : backward ops = true) (listed : Array Bool) (hsz : listed.size = ops.size) (h0 : Region.ready md ops listed = []) : ∀ i, i < ops.size → listed.getD i false = true := by
  intro i
  induction i using Nat.strongRecOn with
  | ind i ih =>
    intro hi
    cases hc : listed.getD i false with
    | true => rfl
    | false =>
      have hi' : i < listed.size := by omega
      have : i ∈ Region.ready md ops listed := by
        refine mem_ready.2 ⟨?_, ops[i], Array.getElem?_eq_getElem hi, fun e he _ => ?_⟩
        · simp [Array.getElem?_eq_getElem hi'] at hc ⊢
          exact hc
        · have hlt := backward_spec hb (Array.getElem?_eq_getElem hi) e he
          exact ih e.on hlt (by omega)
      rw [h0] at this
      cases this

theorem wp_region_og {id : Nat} {a0 : Act} {w0 : World} (D : List Nat) (I : (Nat → Bool) → (Nat → Value) → World → Prop) (hm : P.follows .mixedOrders = true) (hb : backward ops = true)
    (h0 : I (fun _ => false) (fun k => a0.tmps.getD k undef) w0.drew)
    (hstep : ∀ (i : Nat) (o : Oper), ops[i]? = some o → ∀ (L : Nat → Bool) (f : Nat → Value) (w : World), L i = false → (∀ e ∈ o.after, Region.binds .any e = true → L e.on = true) → I L f w → wpOp P ops Q i (fun a' w' => ∃ f', a' = over D f' a0 ∧ I (fun k => k == i || L k) f' w') (over D f a0) w)
    (hfin : ∀ (L : Nat → Bool) (f : Nat → Value) (w : World), (∀ i, i < ops.size → L i = true) → I L f w → Q .normal (over D f a0) w) : (Code.region id ops true).wp P Q a0 w0 := by
  refine wp_region_any hm (wpAny_inv (fun L a w => ∃ f, a = over D f a0 ∧ I L f w) ?_ ?_ (fun l hs h => all_listed hb l hs h) ops.size _ a0 _ (by simp) ?_ ?_)
  · rintro L a w i o ho hl hp ⟨f, rfl, hI⟩
    exact hstep i o ho L f w hl hp hI
  · rintro L a w hl ⟨f, rfl, hI⟩
    exact hfin L f w hl hI
  · rw [Array.count_replicate]; simp
  · refine ⟨_, (over_start D a0).symm, ?_⟩
    have e : (fun k => (Array.replicate ops.size false).getD k false) = fun _ => false := by
      funext k
      simp [Array.getElem?_replicate]
      split <;> rfl
    rw [e]
    exact h0

/-- An operation that no guard keeps back. -/
theorem og_op {i : Nat} {o : Oper} {K : Act → World → Prop} {a : Act} {w : World} (ho : ops[i]? = some o) (hg : o.guard = none) (h : o.wp P a w K Q) : wpOp P ops Q i K a w := by
  unfold wpOp
  simp only [ho]
  have hw : Region.wanted o (yielded ops a.tmps) = true := by simp [Region.wanted, hg]
  rw [if_pos hw]
  exact .inl h
theorem og_value {o : Oper} {K : Act → World → Prop} {a : Act} {w w' : World} {v : Value} (h : (execOp a.eval o).run P w = .ok (.value v) w') (hk : K (a.put o.dst v) w') : o.wp P a w K Q := by
  unfold Oper.wp
  rw [h]
  exact hk
theorem og_skip {o : Oper} {K : Act → World → Prop} {a : Act} {w w' : World} (h : (execOp a.eval o).run P w = .ok .skip w') (hk : K (a.put o.dst undef) w') : o.wp P a w K Q := by
  unfold Oper.wp
  rw [h]
  exact hk
theorem og_call {o : Oper} {K : Act → World → Prop} {a : Act} {w : World} {g : FuncId} {args : Array Value} (h : (execOp a.eval o).run P w = .ok (.enter g args) w) (hk : Calls P g args w fun e w' => ∃ v, e = .returned v ∧ K (a.put o.dst v) w') : o.wp P a w K Q := by
  unfold Oper.wp
  rw [h]
  refine Calls.mono hk ?_
  rintro e w' ⟨v, rfl, hv⟩
  exact hv

end

/-- What was heard, as a value. -/
def HVal (r : RunD) (ch : List Nat) (v : Value) (w : World) : Prop :=
  ∃ ga gc aa ac ca cc, v = .agg (hCells r.err r.dash true (.slice ga r.given.length gc) (.slice aa r.args.length ac) (.slice ca ch.length cc)) ∧ HeardRows w 0 (.slice ga r.given.length gc) (.slice aa r.args.length ac) (.slice ca ch.length cc) r ch

/-- It holds in later worlds, and behind a store into a variable that holds what was heard. -/
structure Stable (R : Value → World → Prop) : Prop where
  grow : ∀ (v : Value) (w w' : World), R v w → Below w.heap.size w w' → R v w'
  put : ∀ (v : Value) (w w' : World) (B : Nat) (c : Array Value), R v w → w.heap[B]? = some (.cells c 33 (0, 0)) → (∀ b, b ≠ B → w'.heap[b]? = w.heap[b]?) → R v w'

theorem stable_eq (u : Value) : Stable fun v _ => v = u := ⟨fun _ _ _ h _ => h, fun _ _ _ _ _ h _ _ => h⟩
theorem stable_heard (r : RunD) (ch : List Nat) : Stable (HVal r ch) :=
  ⟨fun v w w' ⟨ga, gc, aa, ac, ca, cc, e, h⟩ hb => ⟨ga, gc, aa, ac, ca, cc, e, h.below hb⟩, fun v w w' B c ⟨ga, gc, aa, ac, ca, cc, e, h⟩ hB hk => ⟨ga, gc, aa, ac, ca, cc, e, h.at fun b c' t _ hc hne => hk b (fun e' => by subst e'; rw [hB] at hc; cases hc; exact hne rfl)⟩⟩
/-- A block of another type lies at what is pointed to. -/
theorem stable_block (V : Nat → Value) (cs : Nat → Array Value) (t : TypeId) (ht : t ≠ 33) (p : Nat → World → Prop) (hp : ∀ q w w', p q w → p q w') : Stable fun v w => ∃ q, v = V q ∧ w.heap[q]? = some (.cells (cs q) t (0, 0)) ∧ p q w :=
  ⟨fun v w w' ⟨q, e, h, k⟩ hb => ⟨q, e, (hb.block _ (lt_of_block h)).trans h, hp _ _ _ k⟩, fun v w w' B c ⟨q, e, h, k⟩ hB hk => ⟨q, e, (hk q (fun e' => by subst e'; rw [hB] at h; cases h; exact ht rfl)).trans h, hp _ _ _ k⟩⟩
theorem stable_row (base : Nat) (t : TypeId) (ht : t ≠ 33) (size n : Nat) (xs : List Value) : Stable fun v w => w.ownsRow base t size v n xs :=
  ⟨fun v w w' h hb => ownsRow_at h fun g hg => by obtain ⟨_, c, hc⟩ := ownsRow_cells h hg; exact hb.block g (lt_of_block hc), fun v w w' B c h hB hk => ownsRow_at h fun g hg => by
    obtain ⟨_, c', hc⟩ := ownsRow_cells h hg
    exact hk g (fun e => by subst e; rw [hB] at hc; cases hc; exact ht rfl)⟩

/-- An operation's value: its number, its slot, what holds of it. -/
structure OVal where
  i : Nat
  d : Nat
  R : Value → World → Prop
/-- A variable: its slot, the numbers of the operations that make it and that store into it, what is stored. -/
structure OVar where
  s : Nat
  a : Nat
  t : Nat
  r : RunD
  c : List Nat

structure OgWf (vals : List OVal) (vars : List OVar) : Prop where
  st : ∀ x ∈ vals, Stable x.R
  xd : ∀ x ∈ vals, ∀ y ∈ vals, x.d = y.d → x = y
  xi : ∀ x ∈ vals, ∀ y ∈ vals, x.i = y.i → x = y
  xv : ∀ x ∈ vals, ∀ y ∈ vars, x.d ≠ y.s ∧ x.i ≠ y.a ∧ x.i ≠ y.t
  vv : ∀ x ∈ vars, ∀ y ∈ vars, (x.s = y.s ∨ x.a = y.a ∨ x.t = y.t → x = y) ∧ x.a ≠ y.t

/-- What holds of a variable. -/
structure OgVar (w0 : World) (base : Nat) (y : OVar) (L : Nat → Bool) (f : Nat → Value) (w : World) : Prop where
  ahead : L y.t = true → L y.a = true
  at_ : L y.a = true → ∃ B, f y.s = .pointer (some ⟨B, 0, none⟩) ∧ base ≤ B ∧ B < w.heap.size ∧ (L y.t = false → w.heap[B]? = some (.cells zeroH 33 (0, 0)))
  held : L y.t = true → HeardVar w0 base w (f y.s) y.r y.c

structure OgI (w0 : World) (base : Nat) (vals : List OVal) (vars : List OVar) (L : Nat → Bool) (f : Nat → Value) (w : World) : Prop where
  bel : Below base w0 w
  size : base ≤ w.heap.size
  v : ∀ x ∈ vals, L x.i = true → x.R (f x.d) w
  p : ∀ y ∈ vars, OgVar w0 base y L f w
  ne : ∀ x ∈ vars, ∀ y ∈ vars, x.s ≠ y.s → L x.a = true → L y.a = true → f x.s ≠ f y.s

theorem upd_same (f : Nat → Value) (d : Nat) (v : Value) : upd f d v d = v := by simp [upd]
theorem upd_ne (f : Nat → Value) {d k : Nat} (v : Value) (h : k ≠ d) : upd f d v k = f k := by simp [upd, h]
theorem or_ne {L : Nat → Bool} {i k : Nat} (h : k ≠ i) : (k == i || L k) = L k := by
  have : (k == i) = false := by rw [beq_eq_false_iff_ne]; exact h
  rw [this, Bool.false_or]
theorem or_same {L : Nat → Bool} {i : Nat} : (i == i || L i) = true := by simp

theorem OgI.value {w0 w w' : World} {base : Nat} {vals : List OVal} {vars : List OVar} {L : Nat → Bool} {f : Nat → Value} (h : OgI w0 base vals vars L f w) (wf : OgWf vals vars) (x : OVal) (hx : x ∈ vals) (v : Value) (hb : Below w.heap.size w w') (hR : x.R v w') : OgI w0 base vals vars (fun k => k == x.i || L k) (upd f x.d v) w' where
  bel := h.bel.trans (hb.mono h.size)
  size := Nat.le_trans h.size hb.size
  v := fun y hy hl => by
    by_cases e : y.i = x.i
    · have e2 := wf.xi y hy x hx e
      subst e2
      rw [upd_same]
      exact hR
    · rw [upd_ne f v (fun e' => e (by rw [wf.xd y hy x hx e']))]
      rw [or_ne e] at hl
      exact (wf.st y hy).grow _ _ _ (h.v y hy hl) hb
  p := fun y hy => by
    obtain ⟨n1, n2, n3⟩ := wf.xv x hx y hy
    obtain ⟨q1, q2, q3⟩ := h.p y hy
    refine ⟨fun hl => ?_, fun hl => ?_, fun hl => ?_⟩
    · rw [or_ne (Ne.symm n3)] at hl; rw [or_ne (Ne.symm n2)]; exact q1 hl
    · rw [or_ne (Ne.symm n2)] at hl
      rw [upd_ne f v (Ne.symm n1)]
      obtain ⟨B, e, h1, h2, h3⟩ := q2 hl
      refine ⟨B, e, h1, Nat.lt_of_lt_of_le h2 hb.size, fun hl => ?_⟩
      rw [or_ne (Ne.symm n3)] at hl
      exact (hb.block _ h2).trans (h3 hl)
    · rw [or_ne (Ne.symm n3)] at hl
      rw [upd_ne f v (Ne.symm n1)]
      exact (q3 hl).later h.size hb
  ne := fun y hy z hz hn hl hl' => by
    obtain ⟨n1, n2, n3⟩ := wf.xv x hx y hy
    obtain ⟨m1, m2, m3⟩ := wf.xv x hx z hz
    rw [or_ne (Ne.symm n2)] at hl
    rw [or_ne (Ne.symm m2)] at hl'
    rw [upd_ne f v (Ne.symm n1), upd_ne f v (Ne.symm m1)]
    exact h.ne y hy z hz hn hl hl'

theorem OgI.made {w0 w : World} {base : Nat} {vals : List OVal} {vars : List OVar} {L : Nat → Bool} {f : Nat → Value} (h : OgI w0 base vals vars L f w) (wf : OgWf vals vars) (x : OVar) (hx : x ∈ vars) (hL : L x.a = false) : OgI w0 base vals vars (fun k => k == x.a || L k) (upd f x.s (.pointer (some ⟨w.heap.size, 0, none⟩))) (w.alloc (.cells zeroH 33)) := by
  have hb : Below w.heap.size w (w.alloc (.cells zeroH 33)) := (Below.refl _ _).alloc (Nat.le_refl _) _
  refine ⟨h.bel.alloc h.size _, Nat.le_trans h.size hb.size, fun y hy hl => ?_, fun y hy => ?_, fun y hy z hz hn hl hl' => ?_⟩
  · obtain ⟨n1, n2, n3⟩ := wf.xv y hy x hx
    rw [or_ne n2] at hl
    rw [upd_ne f _ n1]
    exact (wf.st y hy).grow _ _ _ (h.v y hy hl) hb
  · obtain ⟨q1, q2, q3⟩ := h.p y hy
    have nt : y.t ≠ x.a := Ne.symm (wf.vv x hx y hy).2
    by_cases e : y.a = x.a
    · have e2 := (wf.vv y hy x hx).1 (.inr (.inl e))
      subst e2
      have hLt : L y.t = false := by
        cases hc : L y.t with
        | false => rfl
        | true => rw [q1 hc] at hL; cases hL
      refine ⟨fun _ => or_same, fun _ => ⟨w.heap.size, upd_same _ _ _, h.size, by rw [World.size_alloc]; omega, fun _ => heap_at _ _ _ rfl⟩, fun hl => ?_⟩
      rw [or_ne nt, hLt] at hl
      cases hl
    · have ns : y.s ≠ x.s := fun e' => e (by rw [(wf.vv y hy x hx).1 (.inl e')])
      refine ⟨fun hl => ?_, fun hl => ?_, fun hl => ?_⟩
      · rw [or_ne nt] at hl; rw [or_ne e]; exact q1 hl
      · rw [or_ne e] at hl
        rw [upd_ne f _ ns]
        obtain ⟨B, e', h1, h2, h3⟩ := q2 hl
        refine ⟨B, e', h1, by rw [World.size_alloc]; omega, fun hl => ?_⟩
        rw [or_ne nt] at hl
        exact (hb.block _ h2).trans (h3 hl)
      · rw [or_ne nt] at hl
        rw [upd_ne f _ ns]
        exact (q3 hl).later h.size hb
  · by_cases e : y.s = x.s
    · have ez : z.s ≠ x.s := fun e' => hn (by rw [e, e'])
      have ea : z.a ≠ x.a := fun e' => ez (by rw [(wf.vv z hz x hx).1 (.inr (.inl e'))])
      rw [or_ne ea] at hl'
      rw [e, upd_same, upd_ne f _ ez]
      obtain ⟨B, e', h1, h2, h3⟩ := (h.p z hz).at_ hl'
      rw [e']
      intro q
      have : w.heap.size = B := by injection q with q; injection q with q; injection q
      omega
    · have ea : y.a ≠ x.a := fun e' => e (by rw [(wf.vv y hy x hx).1 (.inr (.inl e'))])
      rw [or_ne ea] at hl
      rw [upd_ne f _ e]
      by_cases e2 : z.s = x.s
      · rw [e2, upd_same]
        obtain ⟨B, e', h1, h2, h3⟩ := (h.p y hy).at_ hl
        rw [e']
        intro q
        have : B = w.heap.size := by injection q with q; injection q with q; injection q
        omega
      · have eb : z.a ≠ x.a := fun e' => e2 (by rw [(wf.vv z hz x hx).1 (.inr (.inl e'))])
        rw [or_ne eb] at hl'
        rw [upd_ne f _ e2]
        exact h.ne y hy z hz hn hl hl'

/-- A store of what was heard. -/
def putHeard (w : World) (B : Nat) (r : RunD) (gv av cv : Value) : World := (((((((((((w.setCell ⟨B, 0, none⟩ (.int .i64 r.err.kind)).setCell ⟨B, 1, none⟩ (.string r.err.name)).setCell ⟨B, 2, none⟩ (.string r.err.shorts)).setCell ⟨B, 3, none⟩ (.string r.err.value)).setCell ⟨B, 4, none⟩ (.int .i64 r.err.place)).setCell ⟨B, 5, none⟩ gv).setCell ⟨B, 6, none⟩ av).setCell ⟨B, 7, none⟩ (.int .i64 r.dash)).setCell ⟨B, 8, none⟩ cv).setCell ⟨B, 9, none⟩ (.bool true)).setCell ⟨B, 10, none⟩ (.bool false))

theorem OgI.stored {w0 w : World} {base : Nat} {vals : List OVal} {vars : List OVar} {L : Nat → Bool} {f : Nat → Value} (h : OgI w0 base vals vars L f w) (wf : OgWf vals vars) (x : OVar) (hx : x ∈ vars) (ha : L x.a = true) (ht : L x.t = false) {B : Nat} (hB : f x.s = .pointer (some ⟨B, 0, none⟩)) {ga aa ca : Option Addr} {gc ac cc : Nat} (hr : HeardRows w 0 (.slice ga x.r.given.length gc) (.slice aa x.r.args.length ac) (.slice ca x.c.length cc) x.r x.c) :
    OgI w0 base vals vars (fun k => k == x.t || L k) f (putHeard w B x.r (.slice ga x.r.given.length gc) (.slice aa x.r.args.length ac) (.slice ca x.c.length cc)) := by
  obtain ⟨B', e, hB1, hB2, hB3⟩ := (h.p x hx).at_ ha
  have eB : B' = B := by rw [hB] at e; injection e with e; injection e with e; injection e with e; exact e.symm
  subst eB
  have hX := hB3 ht
  obtain ⟨hZ, hW, hBW⟩ := put11 hX (.int .i64 x.r.err.kind) (.string x.r.err.name) (.string x.r.err.shorts) (.string x.r.err.value) (.int .i64 x.r.err.place) (.slice ga x.r.given.length gc) (.slice aa x.r.args.length ac) (.int .i64 x.r.dash) (.slice ca x.c.length cc) (.bool true) (.bool false)
  have hV : HeardVar w0 base (putHeard w B' x.r (.slice ga x.r.given.length gc) (.slice aa x.r.args.length ac) (.slice ca x.c.length cc)) (.pointer (some ⟨B', 0, none⟩)) x.r x.c := heardVar_put h.bel hB1 hX hr
  have hsz : (putHeard w B' x.r (.slice ga x.r.given.length gc) (.slice aa x.r.args.length ac) (.slice ca x.c.length cc)).heap.size = w.heap.size := by simp only [putHeard, size_setCell]
  have hBW' := hBW base hB1
  have hW' : ∀ b, b ≠ B' → (putHeard w B' x.r (.slice ga x.r.given.length gc) (.slice aa x.r.args.length ac) (.slice ca x.c.length cc)).heap[b]? = w.heap[b]? := hW
  refine ⟨h.bel.trans hBW', by rw [hsz]; exact h.size, fun y hy hl => ?_, fun y hy => ?_, fun y hy z hz hn hl hl' => ?_⟩
  · obtain ⟨n1, n2, n3⟩ := wf.xv y hy x hx
    rw [or_ne n3] at hl
    exact (wf.st y hy).put _ _ _ B' _ (h.v y hy hl) hX hW'
  · obtain ⟨q1, q2, q3⟩ := h.p y hy
    have na : y.a ≠ x.t := (wf.vv y hy x hx).2
    by_cases e2 : y.t = x.t
    · have e3 := (wf.vv y hy x hx).1 (.inr (.inr e2))
      subst e3
      refine ⟨fun _ => by rw [or_ne na]; exact ha, fun _ => ⟨B', hB, hB1, by rw [hsz]; exact hB2, fun hl => ?_⟩, fun _ => by rw [hB]; exact hV⟩
      rw [or_same] at hl
      cases hl
    · have ns : x.s ≠ y.s := fun e' => e2 (by rw [(wf.vv x hx y hy).1 (.inl e')])
      refine ⟨fun hl => ?_, fun hl => ?_, fun hl => ?_⟩
      · rw [or_ne e2] at hl; rw [or_ne na]; exact q1 hl
      · rw [or_ne na] at hl
        obtain ⟨C, e', h1, h2, h3⟩ := q2 hl
        have hne := h.ne x hx y hy ns ha hl
        rw [hB, e'] at hne
        have hCB : C ≠ B' := fun e'' => hne (by rw [e''])
        refine ⟨C, e', h1, by rw [hsz]; exact h2, fun hl => ?_⟩
        rw [or_ne e2] at hl
        exact (hW' C hCB).trans (h3 hl)
      · rw [or_ne e2] at hl
        have hya := q1 hl
        obtain ⟨C, ga', gc', aa', ac', ca', cc', e', h1, h2, h3, h4⟩ := q3 hl
        have hne := h.ne x hx y hy ns ha hya
        rw [hB, e'] at hne
        have hCB : C ≠ B' := fun e'' => hne (by rw [e''])
        exact ⟨C, ga', gc', aa', ac', ca', cc', e', h1, (hW' C hCB).trans h2, h3.at fun b c t _ hc hnt => hW' b (fun e'' => by subst e''; rw [hX] at hc; cases hc; exact hnt rfl), h4.trans hBW'⟩
  · rw [or_ne (wf.vv y hy x hx).2] at hl
    rw [or_ne (wf.vv z hz x hx).2] at hl'
    exact h.ne y hy z hz hn hl hl'

/-- The beginning. -/
theorem OgI.start {w0 : World} {base : Nat} {vals : List OVal} {vars : List OVar} {f : Nat → Value} {w : World} (hb : Below base w0 w) (hs : base ≤ w.heap.size) : OgI w0 base vals vars (fun _ => false) f w :=
  ⟨hb, hs, fun _ _ h => Bool.noConfusion h, fun _ _ => ⟨fun h => h, fun h => Bool.noConfusion h, fun h => Bool.noConfusion h⟩, fun _ _ _ _ _ h => Bool.noConfusion h⟩

theorem run_loadSet {ρ : Operand → Value} {d : Option Tmp} {ty : TypeId} {pos : String} {af : Array Edge} {g : Option (Nat × Bool)} {t : Tmp} {B : Nat} {w : World} {x0 x1 x2 x3 : Value} (h : ρ (.tmp t) = .pointer (some ⟨B, 0, none⟩)) (c0 : w.cell? ⟨B, 0, none⟩ = some x0) (c1 : w.cell? ⟨B, 1, none⟩ = some x1) (c2 : w.cell? ⟨B, 2, none⟩ = some x2) (c3 : w.cell? ⟨B, 3, none⟩ = some x3) :
    (execOp ρ ⟨d, .load 24 (.tmp t), ty, pos, af, g⟩).run Try.prog w = .ok (.value (.agg #[x0, x1, x2, x3])) w := by
  go_simp
theorem run_move {P : Program} {ρ : Operand → Value} {d : Option Tmp} {ty : TypeId} {pos : String} {af : Array Edge} {g : Option (Nat × Bool)} {x : Operand} {w : World} {v : Value} (h : ρ x = v) :
    (execOp ρ ⟨d, .move x, ty, pos, af, g⟩).run P w = .ok (.value v) w := by
  subst h; rfl
theorem run_sliceHi {ρ : Operand → Value} {d : Option Tmp} {ty : TypeId} {pos : String} {af : Array Edge} {g : Option (Nat × Bool)} {x y : Tmp} {w : World} {a : Option Addr} {n cap k : Nat} (h : ρ (.tmp x) = .slice a n cap) (hy : ρ (.tmp y) = .int .i64 k) (h0 : (0 : Int) ≤ (k : Int)) (hk : (k : Int) ≤ (cap : Int)) :
    (execOp ρ ⟨d, .slice 25 (.tmp x) none (some (.tmp y)) none, ty, pos, af, g⟩).run Try.prog w = .ok (.value (.slice a k cap)) w := by
  go_simp
theorem run_call1 {P : Program} {ρ : Operand → Value} {d : Option Tmp} {ty : TypeId} {pos : String} {af : Array Edge} {g : Option (Nat × Bool)} {x : Operand} {w : World} {v : Value} {f : FuncId} {ts : Array TypeId} (h : ρ x = v) (hf : ρ (.func f) = .func (.func f) #[] #[]) (hc : ∀ args, (callFunc f args).run P w = .ok (.enter f args) w) :
    (execOp ρ ⟨d, .call { callee := .value (.func f), args := #[x], argTypes := ts }, ty, pos, af, g⟩).run P w = .ok (.enter f #[v]) w := by
  subst h
  simp [execOp, resolve, hf, go_sem, hc]
theorem run_call2 {P : Program} {ρ : Operand → Value} {d : Option Tmp} {ty : TypeId} {pos : String} {af : Array Edge} {g : Option (Nat × Bool)} {x y : Operand} {w : World} {v u : Value} {f : FuncId} {ts : Array TypeId} (h : ρ x = v) (h' : ρ y = u) (hf : ρ (.func f) = .func (.func f) #[] #[]) (hc : ∀ args, (callFunc f args).run P w = .ok (.enter f args) w) :
    (execOp ρ ⟨d, .call { callee := .value (.func f), args := #[x, y], argTypes := ts }, ty, pos, af, g⟩).run P w = .ok (.enter f #[v, u]) w := by
  subst h; subst h'
  simp [execOp, resolve, hf, go_sem, hc]
theorem run_allocHeard {ρ : Operand → Value} {d : Option Tmp} {ty : TypeId} {pos : String} {af : Array Edge} {g : Option (Nat × Bool)} {w : World} :
    (execOp ρ ⟨d, .alloc 33, ty, pos, af, g⟩).run Try.prog w = .ok (.value (.pointer (some ⟨w.heap.size, 0, none⟩))) (w.alloc (.cells zeroH 33)) := by
  unfold zeroH
  go_simp
theorem run_storeHeard {ρ : Operand → Value} {d : Option Tmp} {ty : TypeId} {pos : String} {af : Array Edge} {g : Option (Nat × Bool)} {x y : Tmp} {w : World} {B : Nat} {r : RunD} {gv av cv : Value} (h : ρ (.tmp x) = .pointer (some ⟨B, 0, none⟩)) (hy : ρ (.tmp y) = .agg (hCells r.err r.dash true gv av cv)) (hB : w.heap[B]? = some (.cells zeroH 33 (0, 0))) (hg : ∃ a n c, gv = .slice a n c) (ha : ∃ a n c, av = .slice a n c) (hc : ∃ a n c, cv = .slice a n c) :
    (execOp ρ ⟨d, .store 33 (.tmp x) (.tmp y), ty, pos, af, g⟩).run Try.prog w = .ok .skip (putHeard w B r gv av cv) := by
  obtain ⟨a1, n1, k1, rfl⟩ := hg
  obtain ⟨a2, n2, k2, rfl⟩ := ha
  obtain ⟨a3, n3, k3, rfl⟩ := hc
  have x0 := cell_of hB 0 (.int .i64 0) rfl
  have x1 := cell_of hB 1 (.string ⟨#[]⟩) rfl
  have x2 := cell_of hB 2 (.string ⟨#[]⟩) rfl
  have x3 := cell_of hB 3 (.string ⟨#[]⟩) rfl
  have x4 := cell_of hB 4 (.int .i64 0) rfl
  have x5 := cell_of hB 5 (.slice none 0 0) rfl
  have x6 := cell_of hB 6 (.slice none 0 0) rfl
  have x7 := cell_of hB 7 (.int .i64 0) rfl
  have x8 := cell_of hB 8 (.slice none 0 0) rfl
  have x9 := cell_of hB 9 (.bool false) rfl
  have x10 := cell_of hB 10 (.bool false) rfl
  have xf := fun i => frozen_of hB i
  unfold putHeard
  simp only [hCells] at hy
  clear hB
  go_simp
end Go.Proofs.Ytcpjdgbnfjdakaa
