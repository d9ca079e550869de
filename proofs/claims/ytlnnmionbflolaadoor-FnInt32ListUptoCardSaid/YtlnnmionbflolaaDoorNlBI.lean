/- What pub-ensign/impl.Int32List tells: a row of what is said behind each step. (Printed by gen_nl2.py.) -/
import Derived.Test.YtlnnmionbflolaaDoorNlAI
namespace Go.Proofs.YtlnnmionbflolaaDoor
open Go.RowKit
set_option linter.unusedVariables false
set_option linter.unusedSimpArgs false

theorem infoStrS : (Tryd.prog.info? 9).map (fun i => (i.zero, i.size, i.bytes)) = some (some (.string ⟨#[]⟩), 1, 16) := by kernel_rfl
theorem infoT : (Tryd.prog.info? 53).map (fun i => (i.zero, i.size, i.bytes)) = some (some (.agg #[.bool false, .slice none 0 0, .slice none 0 0]), 3, 56) := by kernel_rfl
theorem Snap.own_ge {w : World} {base : Nat} {e : TypeId} {v : Value} {n : Nat} {xs : List Value} {A : Nat → Prop} (h : w.ownsRow base e 1 v n xs) (hA : ∀ b, A b → b < base) : Snap e w A v xs := by
  have hl : xs.length = n := by simpa using h.1
  rcases h.2 with ⟨e, h0⟩ | ⟨g, cap, cur, e, hb, hh, hnc, hcm, hcs, ht⟩
  · have : xs = [] := List.eq_nil_of_length_eq_zero (by omega)
    subst this
    exact ⟨none, 0, by rw [e]; rfl, .inl rfl⟩
  · refine ⟨_, cap, by rw [e, hl], ?_⟩
    by_cases h0 : xs = []
    · exact .inl h0
    · refine .inr ⟨g, cur, _, rfl, hh, fun q => by have := hA g q; omega, fun i hi => ?_⟩
      have : (cur.toList.take (n * 1))[i]? = some xs[i] := by rw [ht]; simp [hi]
      rw [List.getElem?_take, if_pos (by omega), Array.getElem?_toList] at this
      exact this
/-- What is said behind a step. -/
def IPs (A : Nat → Prop) (o : Bool × List Int) (cs : List Value) (w : World) : Prop :=
  ∃ v1, cs = [.bool o.1, v1, .slice none 0 0] ∧ Snap 2 w A v1 (o.2.map (Value.int .i64))
theorem IPs.later {A A' : Nat → Prop} {o : Bool × List Int} {cs : List Value} {w w' : World} (h : IPs A o cs w)
    (hk : ∀ b cs fz, w.heap[b]? = some (.cells cs 2 fz) → ¬ A b → w'.heap[b]? = w.heap[b]? ∧ ¬ A' b) : IPs A' o cs w' := by
  obtain ⟨v1, e, h1⟩ := h
  exact ⟨v1, e, h1.later hk⟩
theorem IPs.good {A : Nat → Prop} {o : Bool × List Int} {cs : List Value} {w : World} (h : IPs A o cs w) : cs.length = 3 ∧ ∀ c ∈ cs, c.oneCell' = true := by
  obtain ⟨v1, rfl, h1⟩ := h
  refine ⟨rfl, fun c hc => ?_⟩
  simp only [List.mem_cons, List.not_mem_nil, or_false] at hc
  rcases hc with rfl | rfl | rfl
  · rfl
  · exact h1.oneCell
  · rfl

/-- The slots' values of the region that tells. -/
def aV (R : Option Nat) (row er pv : Value) (P : Nat) (o : Bool × List Int) (i : Nat) (v : Value) (w : World) : Prop :=
  match i with
  | 0 => v = row
  | 1 => v = er
  | 2 => v = .bool o.1
  | 3 => v = .pointer (some ⟨P, 0, none⟩)
  | 4 => v = .pointer (some ⟨P, 0, none⟩)
  | 5 => v = pv
  | 6 => Snap 2 w (fun b => some b = pv.ownBlock ∨ some b = R) v (o.2.map (Value.int .i64))
  | 7 => ∃ v1, v = .agg #[.bool o.1, v1, .slice none 0 0] ∧ Snap 2 w (fun b => some b = pv.ownBlock ∨ some b = R) v1 (o.2.map (Value.int .i64))
  | _ => True
theorem aV_mono {R : Option Nat} {row er pv : Value} {P : Nat} {o : Bool × List Int} (i : Nat) (v : Value) (w w' : World) (hg : w.grownBy w' R) (h : aV R row er pv P o i v w) : aV R row er pv P o i v w' := by
  unfold aV at h ⊢
  split at h
  case h_7 => exact h.grown hg fun b hb => .inr hb
  case h_8 =>
    obtain ⟨v1, e, h1⟩ := h
    exact ⟨v1, e, h1.grown hg fun b hb => .inr hb⟩
  all_goals exact h
theorem IPs_mono {R : Option Nat} {X : Nat → Prop} {o : Bool × List Int} (cs : List Value) (w w' : World) (hg : w.grownBy w' R) (h : IPs (fun b => X b ∨ some b = R) o cs w) : IPs (fun b => X b ∨ some b = R) o cs w' := by
  obtain ⟨v1, e, h1⟩ := h
  exact ⟨v1, e, h1.grown hg fun b hb => .inr hb⟩
def aN : SayN := ⟨[(0, 44), (1, 45), (2, 46), (3, 47), (4, 48), (5, 49), (6, 50), (7, 51)], 8, 52, 9, 53, 10, 7, 0⟩
theorem aN_wf : aN.Wf := ⟨by decide, by decide⟩
def aD : List Nat := [44, 45, 46, 47, 48, 49, 50, 51, 52, 53, 7]

theorem run_neqErr {ρ : Operand → Value} {d : Option Tmp} {ty : TypeId} {pos : String} {af : Array Edge} {g : Option (Nat × Bool)} {x : Tmp} {w : World} {t : TypeId} {p : Value} (h : ρ (.tmp x) = .iface t p) (hn : ρ (.const .nilIface) = .nilIface) :
    (execOp ρ ⟨d, .binOp .neq 67 (.tmp x) (.const .nilIface) 67, ty, pos, af, g⟩).run Tryd.prog w = .ok (.value (.bool true)) w := by
  go_simp
theorem run_neqNil {ρ : Operand → Value} {d : Option Tmp} {ty : TypeId} {pos : String} {af : Array Edge} {g : Option (Nat × Bool)} {x : Tmp} {w : World} (h : ρ (.tmp x) = .nilIface) (hn : ρ (.const .nilIface) = .nilIface) :
    (execOp ρ ⟨d, .binOp .neq 67 (.tmp x) (.const .nilIface) 67, ty, pos, af, g⟩).run Tryd.prog w = .ok (.value (.bool false)) w := by
  go_simp
theorem run_assign {P : Program} {ρ : Operand → Value} {d : Option Tmp} {ty : TypeId} {pos : String} {af : Array Edge} {g : Option (Nat × Bool)} {x : Operand} {w : World} {v : Value} (h : ρ x = v) :
    (execOp ρ ⟨d, .assign x, ty, pos, af, g⟩).run P w = .ok (.value v) w := by
  subst h; rfl
theorem run_buildT {ρ : Operand → Value} {d : Option Tmp} {ty : TypeId} {pos : String} {af : Array Edge} {g : Option (Nat × Bool)} {x y : Tmp} {w : World} {b : Bool} {a1 : Option Addr} {n1 c1 : Nat} (h : ρ (.tmp x) = .bool b) (h1 : ρ (.tmp y) = .slice a1 n1 c1) :
    (execOp ρ ⟨d, .build 53 #[(0, .tmp x), (1, .tmp y)], ty, pos, af, g⟩).run Tryd.prog w = .ok (.value (.agg #[.bool b, .slice a1 n1 c1, .slice none 0 0])) w := by
  go_simp
theorem run_buildSliceT {ρ : Operand → Value} {d : Option Tmp} {ty : TypeId} {pos : String} {af : Array Edge} {g : Option (Nat × Bool)} {x : Tmp} {w : World} {b : Bool} {a1 : Option Addr} {n1 c1 : Nat} (h : ρ (.tmp x) = .agg #[.bool b, .slice a1 n1 c1, .slice none 0 0]) :
    (execOp ρ ⟨d, .buildSlice 41 1 #[(0, .tmp x)], ty, pos, af, g⟩).run Tryd.prog w = .ok (.value (.slice (some ⟨w.heap.size, 0, none⟩) 1 1)) (w.alloc (.cells [Value.bool b, .slice a1 n1 c1, .slice none 0 0].toArray 53)) := by
  go_simp

/-- The list's value and the row of what was said. -/
structure AIn (w0 : World) (P vb : Nat) (st : Bool × List Int) (outs : List (Bool × List Int)) (vo pv : Value) (wr : World) : Prop where
  bel : Below w0.heap.size w0 wr
  lv : AV w0.heap.size vb P st.1 pv (st.2.map (Value.int .i32)) wr
  row : ∃ xs, wr.ownsRow w0.heap.size 53 3 vo outs.length xs ∧ RowsOf 3 (IPs (fun b => some b = pv.ownBlock)) wr xs outs
theorem AIn.later {w0 : World} {P vb : Nat} {st : Bool × List Int} {outs : List (Bool × List Int)} {vo pv : Value} {wr w' : World} (h : AIn w0 P vb st outs vo pv wr) (hb : Below wr.heap.size wr w') : AIn w0 P vb st outs vo pv w' := by
  obtain ⟨xs, h1, h2⟩ := h.row
  exact ⟨h.bel.trans (hb.mono h.bel.size), h.lv.later hb, xs, row_grow h1 hb, h2.later fun o cs hi => hi.later fun b _ _ hb' hn => ⟨hb.block b (lt_of_block hb'), hn⟩⟩
/-- Behind a method. -/
theorem AIn.moved {w0 : World} {P vb : Nat} {st st' : Bool × List Int} {outs : List (Bool × List Int)} {vo pv pv' : Value} {wr w' : World} (h : AIn w0 P vb st outs vo pv wr) (hm : Moved vb P pv pv' wr w') (hl : AV w0.heap.size vb P st'.1 pv' (st'.2.map (Value.int .i32)) w') (hP : w0.heap.size ≤ P) (hvb : w0.heap.size ≤ vb) : AIn w0 P vb st' outs vo pv' w' := by
  obtain ⟨xs, h1, h2⟩ := h.row
  refine ⟨h.bel.trans (hm.below hvb hP (fun b hb => (ownsRow_cells h.lv.row hb).1) h.bel.size), hl, xs, hm.row h.lv.v h.lv.p h.lv.row h1 (by decide) (by decide) (by decide), h2.change fun o cs hi => ?_⟩
  obtain ⟨v1, e, s1⟩ := hi
  exact ⟨v1, e, hm.snap h.lv.v h.lv.p (by decide) (by decide) s1⟩
/-- Behind what is told. -/
theorem AIn.told {w0 : World} {P vb : Nat} {st : Bool × List Int} {outs : List (Bool × List Int)} {vo vo' pv : Value} {wr w' : World} {xs : List Value} (h : AIn w0 P vb st outs vo pv wr) (hr : wr.ownsRow w0.heap.size 53 3 vo outs.length xs) (h2 : RowsOf 3 (IPs (fun b => some b = pv.ownBlock)) wr xs outs) (hg : wr.grownBy w' vo.ownBlock) {bad : Bool} {cs : List Value} (hc : IPs (fun b => some b = pv.ownBlock ∨ some b = vo.ownBlock) (bad, st.2) cs w') (ho : w'.ownsRow w0.heap.size 53 3 vo' (outs.length + 1) (xs ++ cs)) : AIn w0 P vb st (outs ++ [(bad, st.2)]) vo' pv w' := by
  refine ⟨grown_below h.bel h.bel.size hr hg, h.lv.grown hg hr (by decide) (by decide) (by decide), xs ++ cs, by simpa using ho, ?_⟩
  refine RowsOf.snoc (h2.later fun o cs hi => hi.later fun b c z hb hn => ⟨hg.block b (lt_of_block hb) (fun q => row_ne hb hr (by decide) q.symm), hn⟩) (hc.later fun b c z hb hn => ⟨rfl, fun q => hn (.inl q)⟩) (hc.good).1
/-- At the start. -/
theorem AIn.start {w w1 w2 : World} {df : List Int} {va : Option Addr} {vn vc : Nat} (hn : vn = df.length) (hb0 : Below (w.alloc (.cells #[.slice none 0 0] 82)).heap.size (w.alloc (.cells #[.slice none 0 0] 82)) w1) (ho : w1.ownsRow (w.heap.size + 1) 21 1 (.slice va vn vc) vn (df.map (Value.int .i32)))
    (hv : w2.heap[w1.heap.size]? = some (.cells #[.pointer (some ⟨w.heap.size, 0, none⟩), .bool false] 108 (0, 0))) (hp : w2.heap[w.heap.size]? = some (.cells #[.slice va vn vc] 82 (0, 0))) (hg : w1.grownBy w2 (some w.heap.size)) :
    AIn w w.heap.size w1.heap.size (false, df) [] (.slice none 0 0) (.slice va vn vc) w2 := by
  subst hn
  have hb1 : Below w.heap.size w w1 := by
    have h0 : Below w.heap.size w (w.alloc (.cells #[.slice none 0 0] 82)) := by (repeat (first | (with_reducible exact Below.refl _ _) | (with_reducible assumption) | ((with_reducible refine Below.alloc ?_ ?_ _); rotate_left; focus ((try simp only [World.size_alloc, size_setCell, World.heap_drewN]); (try omega); done)) | ((with_reducible refine Below.setCell ?_ ?_ _); rotate_left; focus ((try simp only [World.size_alloc, size_setCell, World.heap_drewN]); (try omega); done)) | (with_reducible refine Below.drewN' ?_) | (with_reducible refine Below.drew ?_)))
    exact h0.trans (hb0.mono h0.size)
  refine ⟨hb1.trans (grownBy_below hg (fun k hk => by cases hk; exact Nat.le_refl _) hb1.size), ⟨hv, hp, ?_⟩, [], World.ownsRow_nil _ _ _ _, RowsOf.nil _ _ _⟩
  have ho2 : w1.ownsRow (w.heap.size + 1) 21 1 (.slice va df.length vc) (df.map (Value.int .i32)).length (df.map (Value.int .i32)) := by simpa using ho
  refine ownsRow_at (row_lower ho2 (Nat.le_succ _)) fun g hg' => ?_
  obtain ⟨hge, c, hc⟩ := ownsRow_cells ho2 hg'
  exact hg.block g (lt_of_block hc) (fun q => by cases q; omega)

theorem run_callF {P : Program} {ρ : Operand → Value} {d : Option Tmp} {ty : TypeId} {pos : String} {af : Array Edge} {g : Option (Nat × Bool)} {x : Operand} {w : World} {v : Value} {f h : FuncId} {ts : Array TypeId} (hx : ρ x = v) (hf : ρ (.func f) = .func (.func f) #[] #[]) (hh : ρ (.func h) = .func (.func h) #[] #[]) (hc : ∀ args, (callFunc f args).run P w = .ok (.enter f args) w) :
    (execOp ρ ⟨d, .call { callee := .value (.func f), args := #[x, .func h], argTypes := ts }, ty, pos, af, g⟩).run P w = .ok (.enter f #[v, .func (.func h) #[] #[]]) w := by
  subst hx
  simp [execOp, resolve, hf, hh, go_sem, hc]
/-- So many items at the most. -/
theorem step_len (st : Bool × List Int) (x : StepD) (hs : x.s.size ≤ 1048576) (hl : x.l.length ≤ 1048576) : (stepG cutN oneN st x).2.2.length ≤ st.2.length + 1048577 := by
  unfold stepG cutN
  split
  · cases h : eachG oneN (partsF x.s) with
    | none => simp
    | some xs =>
      have h1 := each_len h
      have h2 := partsF_len x.s
      simp only
      split <;> simp <;> omega
  · split
    · cases h : oneN x.s with
      | none => simp
      | some v => simp
    · cases h : eachG oneN x.l with
      | none => simp
      | some xs =>
        have h1 := each_len h
        simp only
        omega
theorem step_rg (st : Bool × List Int) (x : StepD) (h : ∀ n ∈ st.2, Rg n) : ∀ n ∈ (stepG cutN oneN st x).2.2, Rg n := by
  unfold stepG cutN
  split
  · cases e : eachG oneN (partsF x.s) with
    | none => exact h
    | some xs =>
      have h1 := each_rg e
      simp only
      split
      · intro n hn
        rcases List.mem_append.1 hn with q | q
        · exact h n q
        · exact h1 n q
      · exact h1
  · split
    · cases e : oneN x.s with
      | none => exact h
      | some v =>
        intro n hn
        rcases List.mem_append.1 hn with q | q
        · exact h n q
        · simp only [List.mem_singleton] at q
          subst q
          exact oneN_rg e
    · cases e : eachG oneN x.l with
      | none => exact h
      | some xs => exact each_rg e
/-- A step of a size that the bound leaves. -/
def SmallN (x : StepD) : Prop := x.s.size ≤ 1048576 ∧ x.l.length ≤ 1048576 ∧ ∀ t ∈ x.l, t.size ≤ 1048576

set_option maxRecDepth 100000 in
set_option maxHeartbeats 1600000 in
theorem listN_any (dv : Value) (df : List Int) (sv : Value) (l : List StepD) (w : World) (hd : Vals w dv (df.map (Value.int .i64))) (hrg : ∀ n ∈ df, Rg n) (hs : Steps w sv l) (hdl : df.length ≤ 1048576) (hll : l.length ≤ 1048576) (hx : ∀ x ∈ l, SmallN x) (hE : ErrsAt w) :
    Calls Tryd.prog 14 #[dv, sv] w fun e w' => ∃ rv xs, e = .returned rv ∧ w'.ownsRow w.heap.size 53 3 rv (runsG cutN oneN df l).2.length xs ∧ RowsOf 3 (IPs (fun _ => False)) w' xs (runsG cutN oneN df l).2 ∧ Below w.heap.size w w' := by
  obtain ⟨sa, sc, rfl⟩ := hs.len
  have HS := Lib.hid (fun W (h : Below w.heap.size w W) => hs.later h)
  have HE := Lib.hid (fun W (h : Below w.heap.size w W) => hE.later h.block)
  have HX := Lib.hid hx
  have HRD := Lib.hid hrg
  have hbl : Below w.heap.size w (w.alloc (.cells #[.slice none 0 0] 82)) := by (repeat (first | (with_reducible exact Below.refl _ _) | (with_reducible assumption) | ((with_reducible refine Below.alloc ?_ ?_ _); rotate_left; focus ((try simp only [World.size_alloc, size_setCell, World.heap_drewN]); (try omega); done)) | ((with_reducible refine Below.setCell ?_ ?_ _); rotate_left; focus ((try simp only [World.size_alloc, size_setCell, World.heap_drewN]); (try omega); done)) | (with_reducible refine Below.drewN' ?_) | (with_reducible refine Below.drew ?_)))
  have hd8 : df.length ≤ 8796093022208 := by omega
  have C := Lib.hid (inA_any dv df _ (hd.later hbl.block) hrg hd8)
  clear hbl hd8
  obtain ⟨da, dc, rfl⟩ := hd.len
  rw [List.length_map] at C ⊢
  clear hd hs hx hE hrg
  go_enter Tryd.func14, Tryd.ntmps14
  go_wp2_with fail
  refine C.out.mono ?_
  rintro e w1 ⟨rv, rfl, ho1, hb1⟩
  obtain ⟨va, vc, rfl⟩ := row_form ho1
  have hP1 : w1.heap[w.heap.size]? = some (.cells #[.slice none 0 0] 82 (0, 0)) := (hb1.block w.heap.size (by rw [World.size_alloc]; exact Nat.lt_succ_self _)).trans (heap_at _ _ _ rfl)
  have CZ := Lib.hid (zzArr_any va df.length vc w.heap.size w1 hP1)
  have HO1 := Lib.hid ho1
  have HB1 := Lib.hid hb1
  clear hP1 ho1 hb1 C
  go_wp2_with fail
  refine CZ.out.mono ?_
  rintro e w2 ⟨rfl, hv2, hp2, hg2⟩
  have hA := AIn.start (df := df) rfl HB1.out (by simpa using HO1.out) hv2 hp2 hg2
  have HP2 : Hid (w.heap.size ≤ w1.heap.size) := Lib.hid (Nat.le_trans (by simp only [World.size_alloc]; omega) HB1.out.size)
  clear HB1 HO1 CZ hv2 hp2 hg2
  have HP1 : Hid (w.heap.size ≤ w.heap.size) := Lib.hid (Nat.le_refl _)
  obtain ⟨vb, hvb⟩ : ∃ vb, w1.heap.size = vb := ⟨_, rfl⟩
  obtain ⟨P, hP⟩ : ∃ P, w.heap.size = P := ⟨_, rfl⟩
  have HA : Hid (AIn w P vb (false, df) [] (.slice none 0 0) (.slice va df.length vc) w2) := Lib.hid (by subst hvb; subst hP; exact hA)
  have HP1 : Hid (w.heap.size ≤ P) := Lib.hid (by subst hP; exact Nat.le_refl _)
  have HP2 : Hid (w.heap.size ≤ vb) := Lib.hid (by subst hvb; exact HP2.out)
  clear hA
  rw [hvb, hP]
  clear hvb hP
  go_wp2_with fail
  go_loopw [7, 10, 18] (fun vo _ vi wr => ∃ k : Nat, k ≤ l.length ∧ vi = .int .i64 k ∧ (runsG cutN oneN df (l.take k)).1.2.length ≤ 1048577 * (k + 1) ∧ (∀ n ∈ (runsG cutN oneN df (l.take k)).1.2, Rg n) ∧ ∃ pv, AIn w P vb (runsG cutN oneN df (l.take k)).1 (runsG cutN oneN df (l.take k)).2 vo pv wr) (fun _ _ vi _ => l.length - (intOf vi).toNat)
  case atStart => exact ⟨0, Nat.zero_le _, rfl, Nat.le_trans hdl (by omega), HRD.out, _, HA.out⟩
  case round =>
    obtain ⟨k, hk, rfl, hlen, hrgk, pv, hr⟩ := hrel
    have HOL : Hid ((runsG cutN oneN df (l.take k)).2.length ≤ k) := Lib.hid (by rw [runsG_len]; exact Nat.le_trans (List.length_filter_le _ _) (by simp; omega))
    by_cases hlt : k < l.length
    case neg =>
      obtain ⟨xs, hrow, hrows⟩ := hr.row
      obtain ⟨ra, rc, rfl⟩ := row_form hrow
      have ek : k = l.length := by omega
      have HF : Hid (∃ xs, wr.ownsRow w.heap.size 53 3 (.slice ra (runsG cutN oneN df (l.take k)).2.length rc) (runsG cutN oneN df l).2.length xs ∧ RowsOf 3 (IPs (fun _ => False)) wr xs (runsG cutN oneN df l).2 ∧ Below w.heap.size w wr) := Lib.hid (by
        subst ek
        rw [List.take_length] at hrow hrows ⊢
        exact ⟨xs, hrow, hrows.change fun o cs h => h.later fun b _ _ _ _ => ⟨rfl, fun q => q⟩, hr.bel⟩)
      clear ek hr hrow hrows hlen HOL hrgk
      go_wp2_with fail
      go_ret
      obtain ⟨xs, h⟩ := HF.out
      exact ⟨_, xs, rfl, h⟩
    obtain ⟨sb, so, rfl, hst⟩ := (HS.out wr hr.bel).at k hlt
    obtain ⟨s0, s1, ta, tn, tc, s2, s3⟩ := hst
    have slt := lt_of_cell s0
    have hsm := HX.out l[k] (List.getElem_mem hlt)
    have hnx := runsG_next cutN oneN df l k hlt
    obtain ⟨⟨xd, xs', xl⟩, hxe⟩ : ∃ x, l[k] = x := ⟨_, rfl⟩
    rw [hxe] at s0 s1 s3 hsm hnx
    simp only at s0 s1 s3
    clear hxe
    obtain ⟨⟨⟨bs, si⟩, outs⟩, hrun⟩ : ∃ r, runsG cutN oneN df (l.take k) = r := ⟨_, rfl⟩
    rw [hrun] at hlen hr hnx HOL hrgk
    simp only at hlen hr HOL hrgk
    clear hrun
    obtain ⟨xs0, hrow0, -⟩ := hr.row
    obtain ⟨ra, rc, rfl⟩ := row_form hrow0
    clear hrow0
    have HR := Lib.hid hr
    have HLE := Lib.hid hlen
    have HRG := Lib.hid hrgk
    have HN := Lib.hid hnx
    have H3 := Lib.hid s3
    have HSM := Lib.hid hsm
    clear hnx s3 hr hlen hrgk
    by_cases d0 : xd = 0
    · subst d0
      have HW : Hid (AIn w P vb (bs, si) outs (.slice ra outs.length rc) pv (wr.alloc (.cells #[.int .i64 0, .string xs', .slice ta tn tc] 57))) := Lib.hid (HR.out.later (by (repeat (first | (with_reducible exact Below.refl _ _) | (with_reducible assumption) | ((with_reducible refine Below.alloc ?_ ?_ _); rotate_left; focus ((try simp only [World.size_alloc, size_setCell, World.heap_drewN]); (try omega); done)) | ((with_reducible refine Below.setCell ?_ ?_ _); rotate_left; focus ((try simp only [World.size_alloc, size_setCell, World.heap_drewN]); (try omega); done)) | (with_reducible refine Below.drewN' ?_) | (with_reducible refine Below.drew ?_)))))
      have C := Lib.hid (setN_any vb P _ _ _ _ xs' xl _ HW.out.lv (by have := HLE.out; simp only; omega) (by have := hsm.1; simp only at this; omega) HW.out.bel.size (HE.out _ HW.out.bel))
      go_wp2_with fail
      refine C.out.mono ?_
      rintro e w4 ⟨er, pv', rfl, her, hlv, hmv⟩
      have HER := Lib.hid her
      have HA4 := Lib.hid (HW.out.moved (st' := (stepG cutN oneN (bs, si) ⟨0, xs', xl⟩).2) hmv hlv HP1.out HP2.out)
      have HNX : Hid (runsG cutN oneN df (l.take (k + 1)) = ((stepG cutN oneN (bs, si) ⟨0, xs', xl⟩).2, outs ++ [((stepG cutN oneN (bs, si) ⟨0, xs', xl⟩).1, (stepG cutN oneN (bs, si) ⟨0, xs', xl⟩).2.2)])) := Lib.hid (by rw [HN.out, runG_yes (.inl rfl)])
      have HLN : Hid ((stepG cutN oneN (bs, si) ⟨0, xs', xl⟩).2.2.length ≤ 1048577 * (k + 2)) := Lib.hid (by have h1 := step_len (bs, si) ⟨0, xs', xl⟩ (by exact hsm.1) (by exact hsm.2.1); have h2 := HLE.out; simp only at h1; omega)
      have HRN : Hid (∀ n ∈ (stepG cutN oneN (bs, si) ⟨0, xs', xl⟩).2.2, Rg n) := Lib.hid (step_rg (bs, si) ⟨0, xs', xl⟩ HRG.out)
      clear her hlv hmv C HW
      generalize stepG cutN oneN (bs, si) ⟨0, xs', xl⟩ = sg at *
      obtain ⟨bad, st⟩ := sg
      simp only at HER HA4 HNX HLN HRN
      obtain ⟨pa, pc, rfl⟩ := row_form HA4.out.lv.row
      obtain ⟨xs, hrow, hrows⟩ := HA4.out.row
      have HROWS := Lib.hid hrows
      have HROW0 := Lib.hid hrow
      clear hrow hrows
      go_upto_region 15 with fail
      all_goals
        have HROW := HROW0.out
        have WF := aN_wf
        have hsl := HLN.out
        have hol := HOL.out
        have hrg := HRN.out
        refine wp_region_og aD (SJ w4 w.heap.size 53 3 (.slice ra outs.length rc) outs.length xs aN (aV (Value.slice ra outs.length rc).ownBlock (.slice ra outs.length rc) er (.slice pa (st.2.map (Value.int .i32)).length pc) P (bad, st.2)) (IPs (fun b => some b = (Value.slice pa (st.2.map (Value.int .i32)).length pc).ownBlock ∨ some b = (Value.slice ra outs.length rc).ownBlock) (bad, st.2))) (by kernel_rfl) (by kernel_rfl) (SJ.start rfl HROW _ (fun _ => rfl)) ?_ ?_
        · intro i o ho L f wz hl hp hI
          have hi : i < 11 := (Array.getElem?_eq_some_iff.1 ho).1
          have HLV : AV w.heap.size vb P st.1 (.slice pa (st.2.map (Value.int .i32)).length pc) (st.2.map (Value.int .i32)) wz := HA4.out.lv.grown hI.bel HROW (by decide) (by decide) (by decide)
          have hX : ∀ b, (some b = (Value.slice pa (st.2.map (Value.int .i32)).length pc).ownBlock ∨ some b = (Value.slice ra outs.length rc).ownBlock) → b < wz.heap.size := fun b hb => Nat.lt_of_lt_of_le (hb.elim (fun q => HA4.out.lv.own_lt q) (fun q => row_lt HROW q)) hI.bel.size
          obtain rfl | rfl | rfl | rfl | rfl | rfl | rfl | rfl | rfl | rfl | rfl : i = 0 ∨ i = 1 ∨ i = 2 ∨ i = 3 ∨ i = 4 ∨ i = 5 ∨ i = 6 ∨ i = 7 ∨ i = 8 ∨ i = 9 ∨ i = 10 := by omega
          all_goals obtain rfl := Option.some.inj ho
          · have hLC : L 10 = false := by
              cases hc : L 10 with
              | false => rfl
              | true => exact absurd ((hI.oz (hI.r2 hc).1).symm.trans hl) (by decide)
            exact og_op rfl rfl (og_value (run_move ((over_eval _ _ _ (by decide) (by show 7 < 56; omega)).trans (hI.c0 hLC (by decide)))) ⟨_, over_put _ _ _ (by decide) _, hI.pure aV_mono IPs_mono WF (i := 0) (by decide) (Below.refl _ _) rfl⟩)
          · exact og_op rfl rfl (og_value (run_move ((over_eval_out _ _ _ (by decide)).trans rfl)) ⟨_, over_put _ _ _ (by decide) _, hI.pure aV_mono IPs_mono WF (i := 1) (by decide) (Below.refl _ _) rfl⟩)
          · have e1 := hI.v 1 45 (by decide) (hp ⟨1, .data⟩ (by simp) rfl)
            cases bad with
            | true =>
              obtain ⟨t, q, rfl⟩ := HER.out
              exact og_op rfl rfl (og_value (run_neqErr ((over_eval _ _ _ (by decide) (by show 45 < 56; omega)).trans e1) rfl) ⟨_, over_put _ _ _ (by decide) _, hI.pure aV_mono IPs_mono WF (i := 2) (by decide) (Below.refl _ _) rfl⟩)
            | false =>
              have h := HER.out
              simp only [Bool.false_eq_true, if_false] at h
              subst h
              exact og_op rfl rfl (og_value (run_neqNil ((over_eval _ _ _ (by decide) (by show 45 < 56; omega)).trans e1) rfl) ⟨_, over_put _ _ _ (by decide) _, hI.pure aV_mono IPs_mono WF (i := 2) (by decide) (Below.refl _ _) rfl⟩)
          · exact og_op rfl rfl (og_value (run_move ((over_eval_out _ _ _ (by decide)).trans rfl)) ⟨_, over_put _ _ _ (by decide) _, hI.pure aV_mono IPs_mono WF (i := 3) (by decide) (Below.refl _ _) rfl⟩)
          · have e3 := hI.v 3 47 (by decide) (hp ⟨3, .data⟩ (by simp) rfl)
            exact og_op rfl rfl (og_value (run_nilCheck ((over_eval _ _ _ (by decide) (by show 47 < 56; omega)).trans e3)) ⟨_, over_put _ _ _ (by decide) _, hI.pure aV_mono IPs_mono WF (i := 4) (by decide) (Below.refl _ _) rfl⟩)
          · have e4 := hI.v 4 48 (by decide) (hp ⟨4, .data⟩ (by simp) rfl)
            exact og_op rfl rfl (og_value (run_loadL ((over_eval _ _ _ (by decide) (by show 48 < 56; omega)).trans e4) (cell_of_one HLV.p)) ⟨_, over_put _ _ _ (by decide) _, hI.pure aV_mono IPs_mono WF (i := 5) (by decide) (Below.refl _ _) rfl⟩)
          · have e5 := hI.v 5 49 (by decide) (hp ⟨5, .data⟩ (by simp) rfl)
            refine og_op rfl rfl (og_call (run_callF ((over_eval _ _ _ (by decide) (by show 49 < 56; omega)).trans e5) rfl rfl (fun args => by simp [go_sem])) ?_)
            refine (outA_any _ st.2 wz (by have := Vals.owned HLV.row; simpa using this) hrg (by omega)).mono ?_
            rintro e w' ⟨rv, rfl, hown, hb2⟩
            refine ⟨_, rfl, ⟨_, over_put _ _ _ (by decide) _, hI.pure aV_mono IPs_mono WF (i := 6) (by decide) hb2 (Snap.own_ge hown hX)⟩⟩
          · have e2 := hI.v 2 46 (by decide) (hp ⟨2, .data⟩ (by simp) rfl)
            have e6 := hI.v 6 50 (by decide) (hp ⟨6, .data⟩ (by simp) rfl)
            obtain ⟨a1, k1, f1⟩ := Snap.form e6
            exact og_op rfl rfl (og_value (run_buildT ((over_eval _ _ _ (by decide) (by show 46 < 56; omega)).trans e2) ((over_eval _ _ _ (by decide) (by show 50 < 56; omega)).trans f1)) ⟨_, over_put _ _ _ (by decide) _, hI.pure aV_mono IPs_mono WF (i := 7) (by decide) (Below.refl _ _) ⟨_, rfl, f1 ▸ e6⟩⟩)
          · have e7 := hI.v 7 51 (by decide) (hp ⟨7, .data⟩ (by simp) rfl)
            obtain ⟨v1, ea, s1⟩ := e7
            obtain ⟨a1, k1, rfl⟩ := s1.form
            exact og_op rfl rfl (og_value (run_buildSliceT ((over_eval _ _ _ (by decide) (by show 51 < 56; omega)).trans ea)) ⟨_, over_put _ _ _ (by decide) _, hI.built aV_mono IPs_mono WF hl _ ⟨_, rfl, s1⟩⟩)
          · have e0 := hI.v 0 44 (by decide) (hp ⟨0, .data⟩ (by simp) rfl)
            have hB := hp ⟨8, .data⟩ (by simp) rfl
            have hZ := hp ⟨0, .data⟩ (by simp) rfl
            exact og_op rfl rfl (hI.append aV_mono IPs_mono WF hl hB hZ (.tmp 44) (.tmp 52) rfl rfl (by decide) Tryd.underlying41 infoT rfl (by omega) ((over_eval _ _ _ (by decide) (by show 44 < 56; omega)).trans e0) (over_eval _ _ _ (by decide) (by show 52 < 56; omega)) (fun cs w h => h.good) (by unfold maxLen; omega) (by omega) (Nat.le_trans HA4.out.bel.size hI.bel.size))
          · have hA := hp ⟨9, .data⟩ (by simp) rfl
            exact og_op rfl rfl (og_value (run_assign (over_eval _ _ _ (by decide) (by show 53 < 56; omega))) ⟨_, over_put _ _ _ (by decide) _, hI.assigned WF hA⟩)
        · intro L f wz hl hI
          obtain ⟨cs, hcs, hown, hgr⟩ := hI.done (hl 10 (by show 10 < 11; omega))
          have HB : Hid (∃ pv, AIn w P vb (runsG cutN oneN df (l.take (k + 1))).1 (runsG cutN oneN df (l.take (k + 1))).2 (f 7) pv wz) := Lib.hid (by
            rw [HNX.out]
            exact ⟨_, HA4.out.told HROW HROWS.out hgr hcs hown⟩)
          have HLN2 : Hid ((runsG cutN oneN df (l.take (k + 1))).1.2.length ≤ 1048577 * ((k + 1) + 1)) := Lib.hid (by rw [HNX.out]; exact hsl)
          have HRN2 : Hid (∀ n ∈ (runsG cutN oneN df (l.take (k + 1))).1.2, Rg n) := Lib.hid (by rw [HNX.out]; exact hrg)
          clear hI hl hcs hown hgr
          simp only [over, ovl, aD, List.contains, List.elem, Nat.reduceBEq, Bool.false_eq_true, if_false, if_true, Nat.reduceAdd]
          generalize f 7 = v7 at *
          go_wp2_with fail
          go_roundw
          case rel => first | exact ⟨k + 1, by omega, by go_num, HLN2.out, HRN2.out, HB.out⟩ | ((repeat apply Exists.intro); exact ⟨⟨k + 1, by omega, by go_num, HLN2.out, HRN2.out, HB.out⟩, rfl⟩)
          case measure => simp [intOf]; omega
    by_cases d1 : xd = 1
    · subst d1
      have HW : Hid (AIn w P vb (bs, si) outs (.slice ra outs.length rc) pv (wr.alloc (.cells #[.int .i64 1, .string xs', .slice ta tn tc] 57))) := Lib.hid (HR.out.later (by (repeat (first | (with_reducible exact Below.refl _ _) | (with_reducible assumption) | ((with_reducible refine Below.alloc ?_ ?_ _); rotate_left; focus ((try simp only [World.size_alloc, size_setCell, World.heap_drewN]); (try omega); done)) | ((with_reducible refine Below.setCell ?_ ?_ _); rotate_left; focus ((try simp only [World.size_alloc, size_setCell, World.heap_drewN]); (try omega); done)) | (with_reducible refine Below.drewN' ?_) | (with_reducible refine Below.drew ?_)))))
      have C := Lib.hid (appendN_any vb P _ _ _ _ xs' xl _ HW.out.lv (by have := HLE.out; simp only; omega) (by have := hsm.1; simp only at this; omega) HW.out.bel.size (HE.out _ HW.out.bel))
      go_wp2_with fail
      refine C.out.mono ?_
      rintro e w4 ⟨er, pv', rfl, her, hlv, hmv⟩
      have HER := Lib.hid her
      have HA4 := Lib.hid (HW.out.moved (st' := (stepG cutN oneN (bs, si) ⟨1, xs', xl⟩).2) hmv hlv HP1.out HP2.out)
      have HNX : Hid (runsG cutN oneN df (l.take (k + 1)) = ((stepG cutN oneN (bs, si) ⟨1, xs', xl⟩).2, outs ++ [((stepG cutN oneN (bs, si) ⟨1, xs', xl⟩).1, (stepG cutN oneN (bs, si) ⟨1, xs', xl⟩).2.2)])) := Lib.hid (by rw [HN.out, runG_yes (.inr (.inl rfl))])
      have HLN : Hid ((stepG cutN oneN (bs, si) ⟨1, xs', xl⟩).2.2.length ≤ 1048577 * (k + 2)) := Lib.hid (by have h1 := step_len (bs, si) ⟨1, xs', xl⟩ (by exact hsm.1) (by exact hsm.2.1); have h2 := HLE.out; simp only at h1; omega)
      have HRN : Hid (∀ n ∈ (stepG cutN oneN (bs, si) ⟨1, xs', xl⟩).2.2, Rg n) := Lib.hid (step_rg (bs, si) ⟨1, xs', xl⟩ HRG.out)
      clear her hlv hmv C HW
      generalize stepG cutN oneN (bs, si) ⟨1, xs', xl⟩ = sg at *
      obtain ⟨bad, st⟩ := sg
      simp only at HER HA4 HNX HLN HRN
      obtain ⟨pa, pc, rfl⟩ := row_form HA4.out.lv.row
      obtain ⟨xs, hrow, hrows⟩ := HA4.out.row
      have HROWS := Lib.hid hrows
      have HROW0 := Lib.hid hrow
      clear hrow hrows
      go_upto_region 15 with fail
      all_goals
        have HROW := HROW0.out
        have WF := aN_wf
        have hsl := HLN.out
        have hol := HOL.out
        have hrg := HRN.out
        refine wp_region_og aD (SJ w4 w.heap.size 53 3 (.slice ra outs.length rc) outs.length xs aN (aV (Value.slice ra outs.length rc).ownBlock (.slice ra outs.length rc) er (.slice pa (st.2.map (Value.int .i32)).length pc) P (bad, st.2)) (IPs (fun b => some b = (Value.slice pa (st.2.map (Value.int .i32)).length pc).ownBlock ∨ some b = (Value.slice ra outs.length rc).ownBlock) (bad, st.2))) (by kernel_rfl) (by kernel_rfl) (SJ.start rfl HROW _ (fun _ => rfl)) ?_ ?_
        · intro i o ho L f wz hl hp hI
          have hi : i < 11 := (Array.getElem?_eq_some_iff.1 ho).1
          have HLV : AV w.heap.size vb P st.1 (.slice pa (st.2.map (Value.int .i32)).length pc) (st.2.map (Value.int .i32)) wz := HA4.out.lv.grown hI.bel HROW (by decide) (by decide) (by decide)
          have hX : ∀ b, (some b = (Value.slice pa (st.2.map (Value.int .i32)).length pc).ownBlock ∨ some b = (Value.slice ra outs.length rc).ownBlock) → b < wz.heap.size := fun b hb => Nat.lt_of_lt_of_le (hb.elim (fun q => HA4.out.lv.own_lt q) (fun q => row_lt HROW q)) hI.bel.size
          obtain rfl | rfl | rfl | rfl | rfl | rfl | rfl | rfl | rfl | rfl | rfl : i = 0 ∨ i = 1 ∨ i = 2 ∨ i = 3 ∨ i = 4 ∨ i = 5 ∨ i = 6 ∨ i = 7 ∨ i = 8 ∨ i = 9 ∨ i = 10 := by omega
          all_goals obtain rfl := Option.some.inj ho
          · have hLC : L 10 = false := by
              cases hc : L 10 with
              | false => rfl
              | true => exact absurd ((hI.oz (hI.r2 hc).1).symm.trans hl) (by decide)
            exact og_op rfl rfl (og_value (run_move ((over_eval _ _ _ (by decide) (by show 7 < 56; omega)).trans (hI.c0 hLC (by decide)))) ⟨_, over_put _ _ _ (by decide) _, hI.pure aV_mono IPs_mono WF (i := 0) (by decide) (Below.refl _ _) rfl⟩)
          · exact og_op rfl rfl (og_value (run_move ((over_eval_out _ _ _ (by decide)).trans rfl)) ⟨_, over_put _ _ _ (by decide) _, hI.pure aV_mono IPs_mono WF (i := 1) (by decide) (Below.refl _ _) rfl⟩)
          · have e1 := hI.v 1 45 (by decide) (hp ⟨1, .data⟩ (by simp) rfl)
            cases bad with
            | true =>
              obtain ⟨t, q, rfl⟩ := HER.out
              exact og_op rfl rfl (og_value (run_neqErr ((over_eval _ _ _ (by decide) (by show 45 < 56; omega)).trans e1) rfl) ⟨_, over_put _ _ _ (by decide) _, hI.pure aV_mono IPs_mono WF (i := 2) (by decide) (Below.refl _ _) rfl⟩)
            | false =>
              have h := HER.out
              simp only [Bool.false_eq_true, if_false] at h
              subst h
              exact og_op rfl rfl (og_value (run_neqNil ((over_eval _ _ _ (by decide) (by show 45 < 56; omega)).trans e1) rfl) ⟨_, over_put _ _ _ (by decide) _, hI.pure aV_mono IPs_mono WF (i := 2) (by decide) (Below.refl _ _) rfl⟩)
          · exact og_op rfl rfl (og_value (run_move ((over_eval_out _ _ _ (by decide)).trans rfl)) ⟨_, over_put _ _ _ (by decide) _, hI.pure aV_mono IPs_mono WF (i := 3) (by decide) (Below.refl _ _) rfl⟩)
          · have e3 := hI.v 3 47 (by decide) (hp ⟨3, .data⟩ (by simp) rfl)
            exact og_op rfl rfl (og_value (run_nilCheck ((over_eval _ _ _ (by decide) (by show 47 < 56; omega)).trans e3)) ⟨_, over_put _ _ _ (by decide) _, hI.pure aV_mono IPs_mono WF (i := 4) (by decide) (Below.refl _ _) rfl⟩)
          · have e4 := hI.v 4 48 (by decide) (hp ⟨4, .data⟩ (by simp) rfl)
            exact og_op rfl rfl (og_value (run_loadL ((over_eval _ _ _ (by decide) (by show 48 < 56; omega)).trans e4) (cell_of_one HLV.p)) ⟨_, over_put _ _ _ (by decide) _, hI.pure aV_mono IPs_mono WF (i := 5) (by decide) (Below.refl _ _) rfl⟩)
          · have e5 := hI.v 5 49 (by decide) (hp ⟨5, .data⟩ (by simp) rfl)
            refine og_op rfl rfl (og_call (run_callF ((over_eval _ _ _ (by decide) (by show 49 < 56; omega)).trans e5) rfl rfl (fun args => by simp [go_sem])) ?_)
            refine (outA_any _ st.2 wz (by have := Vals.owned HLV.row; simpa using this) hrg (by omega)).mono ?_
            rintro e w' ⟨rv, rfl, hown, hb2⟩
            refine ⟨_, rfl, ⟨_, over_put _ _ _ (by decide) _, hI.pure aV_mono IPs_mono WF (i := 6) (by decide) hb2 (Snap.own_ge hown hX)⟩⟩
          · have e2 := hI.v 2 46 (by decide) (hp ⟨2, .data⟩ (by simp) rfl)
            have e6 := hI.v 6 50 (by decide) (hp ⟨6, .data⟩ (by simp) rfl)
            obtain ⟨a1, k1, f1⟩ := Snap.form e6
            exact og_op rfl rfl (og_value (run_buildT ((over_eval _ _ _ (by decide) (by show 46 < 56; omega)).trans e2) ((over_eval _ _ _ (by decide) (by show 50 < 56; omega)).trans f1)) ⟨_, over_put _ _ _ (by decide) _, hI.pure aV_mono IPs_mono WF (i := 7) (by decide) (Below.refl _ _) ⟨_, rfl, f1 ▸ e6⟩⟩)
          · have e7 := hI.v 7 51 (by decide) (hp ⟨7, .data⟩ (by simp) rfl)
            obtain ⟨v1, ea, s1⟩ := e7
            obtain ⟨a1, k1, rfl⟩ := s1.form
            exact og_op rfl rfl (og_value (run_buildSliceT ((over_eval _ _ _ (by decide) (by show 51 < 56; omega)).trans ea)) ⟨_, over_put _ _ _ (by decide) _, hI.built aV_mono IPs_mono WF hl _ ⟨_, rfl, s1⟩⟩)
          · have e0 := hI.v 0 44 (by decide) (hp ⟨0, .data⟩ (by simp) rfl)
            have hB := hp ⟨8, .data⟩ (by simp) rfl
            have hZ := hp ⟨0, .data⟩ (by simp) rfl
            exact og_op rfl rfl (hI.append aV_mono IPs_mono WF hl hB hZ (.tmp 44) (.tmp 52) rfl rfl (by decide) Tryd.underlying41 infoT rfl (by omega) ((over_eval _ _ _ (by decide) (by show 44 < 56; omega)).trans e0) (over_eval _ _ _ (by decide) (by show 52 < 56; omega)) (fun cs w h => h.good) (by unfold maxLen; omega) (by omega) (Nat.le_trans HA4.out.bel.size hI.bel.size))
          · have hA := hp ⟨9, .data⟩ (by simp) rfl
            exact og_op rfl rfl (og_value (run_assign (over_eval _ _ _ (by decide) (by show 53 < 56; omega))) ⟨_, over_put _ _ _ (by decide) _, hI.assigned WF hA⟩)
        · intro L f wz hl hI
          obtain ⟨cs, hcs, hown, hgr⟩ := hI.done (hl 10 (by show 10 < 11; omega))
          have HB : Hid (∃ pv, AIn w P vb (runsG cutN oneN df (l.take (k + 1))).1 (runsG cutN oneN df (l.take (k + 1))).2 (f 7) pv wz) := Lib.hid (by
            rw [HNX.out]
            exact ⟨_, HA4.out.told HROW HROWS.out hgr hcs hown⟩)
          have HLN2 : Hid ((runsG cutN oneN df (l.take (k + 1))).1.2.length ≤ 1048577 * ((k + 1) + 1)) := Lib.hid (by rw [HNX.out]; exact hsl)
          have HRN2 : Hid (∀ n ∈ (runsG cutN oneN df (l.take (k + 1))).1.2, Rg n) := Lib.hid (by rw [HNX.out]; exact hrg)
          clear hI hl hcs hown hgr
          simp only [over, ovl, aD, List.contains, List.elem, Nat.reduceBEq, Bool.false_eq_true, if_false, if_true, Nat.reduceAdd]
          generalize f 7 = v7 at *
          go_wp2_with fail
          go_roundw
          case rel => first | exact ⟨k + 1, by omega, by go_num, HLN2.out, HRN2.out, HB.out⟩ | ((repeat apply Exists.intro); exact ⟨⟨k + 1, by omega, by go_num, HLN2.out, HRN2.out, HB.out⟩, rfl⟩)
          case measure => simp [intOf]; omega
    by_cases d2 : xd = 2
    · subst d2
      have HW5 : Hid (AIn w P vb (bs, si) outs (.slice ra outs.length rc) pv ((wr.alloc (.cells #[.int .i64 2, .string xs', .slice ta tn tc] 57)).alloc (.cells #[] 9))) := Lib.hid (HR.out.later (by (repeat (first | (with_reducible exact Below.refl _ _) | (with_reducible assumption) | ((with_reducible refine Below.alloc ?_ ?_ _); rotate_left; focus ((try simp only [World.size_alloc, size_setCell, World.heap_drewN]); (try omega); done)) | ((with_reducible refine Below.setCell ?_ ?_ _); rotate_left; focus ((try simp only [World.size_alloc, size_setCell, World.heap_drewN]); (try omega); done)) | (with_reducible refine Below.drewN' ?_) | (with_reducible refine Below.drew ?_)))))
      have H35 : Hid (Strs ((wr.alloc (.cells #[.int .i64 2, .string xs', .slice ta tn tc] 57)).alloc (.cells #[] 9)) (.slice ta tn tc) xl) := Lib.hid ((H3.out.alloc _).alloc _)
      have hxl : xl.length ≤ 1048576 := hsm.2.1
      go_wp2_with (at_builtin; refine wpList_append_fresh (by rfl) _ _ 51 9 (by rfl) Tryd.underlying51 infoStrS rfl _ (by rfl) (heap_at _ _ _ (by (simp only [World.size_alloc, size_setCell, World.heap_drewN]))) _ (by rfl) (xl.map .string) (Strs.vals H35.out) (by simp [Value.oneCell']) (by unfold maxLen; rw [List.length_map]; omega) (by rw [List.length_map]; omega) ?_; intro v3 w6 hf6)
      have HW : Hid (AIn w P vb (bs, si) outs (.slice ra outs.length rc) pv w6) := Lib.hid (HW5.out.later hf6.below)
      have C := Lib.hid (replaceN_any vb P _ _ _ _ v3 xs' xl w6 HW.out.lv (Vals.strs hf6.vals) (by omega) (fun t ht => by have := hsm.2.2 t ht; omega) HW.out.bel.size (HE.out _ HW.out.bel))
      obtain ⟨qa, qc, rfl⟩ := row_form hf6.2.1
      rw [List.length_map] at C ⊢
      clear hf6 HW5 H35
      go_wp2_with fail
      refine C.out.mono ?_
      rintro e w4 ⟨er, pv', rfl, her, hlv, hmv⟩
      have HER := Lib.hid her
      have HA4 := Lib.hid (HW.out.moved (st' := (stepG cutN oneN (bs, si) ⟨2, xs', xl⟩).2) hmv hlv HP1.out HP2.out)
      have HNX : Hid (runsG cutN oneN df (l.take (k + 1)) = ((stepG cutN oneN (bs, si) ⟨2, xs', xl⟩).2, outs ++ [((stepG cutN oneN (bs, si) ⟨2, xs', xl⟩).1, (stepG cutN oneN (bs, si) ⟨2, xs', xl⟩).2.2)])) := Lib.hid (by rw [HN.out, runG_yes (.inr (.inr rfl))])
      have HLN : Hid ((stepG cutN oneN (bs, si) ⟨2, xs', xl⟩).2.2.length ≤ 1048577 * (k + 2)) := Lib.hid (by have h1 := step_len (bs, si) ⟨2, xs', xl⟩ (by exact hsm.1) (by exact hsm.2.1); have h2 := HLE.out; simp only at h1; omega)
      have HRN : Hid (∀ n ∈ (stepG cutN oneN (bs, si) ⟨2, xs', xl⟩).2.2, Rg n) := Lib.hid (step_rg (bs, si) ⟨2, xs', xl⟩ HRG.out)
      clear her hlv hmv C HW
      generalize stepG cutN oneN (bs, si) ⟨2, xs', xl⟩ = sg at *
      obtain ⟨bad, st⟩ := sg
      simp only at HER HA4 HNX HLN HRN
      obtain ⟨pa, pc, rfl⟩ := row_form HA4.out.lv.row
      obtain ⟨xs, hrow, hrows⟩ := HA4.out.row
      have HROWS := Lib.hid hrows
      have HROW0 := Lib.hid hrow
      clear hrow hrows
      go_upto_region 15 with fail
      all_goals
        have HROW := HROW0.out
        have WF := aN_wf
        have hsl := HLN.out
        have hol := HOL.out
        have hrg := HRN.out
        refine wp_region_og aD (SJ w4 w.heap.size 53 3 (.slice ra outs.length rc) outs.length xs aN (aV (Value.slice ra outs.length rc).ownBlock (.slice ra outs.length rc) er (.slice pa (st.2.map (Value.int .i32)).length pc) P (bad, st.2)) (IPs (fun b => some b = (Value.slice pa (st.2.map (Value.int .i32)).length pc).ownBlock ∨ some b = (Value.slice ra outs.length rc).ownBlock) (bad, st.2))) (by kernel_rfl) (by kernel_rfl) (SJ.start rfl HROW _ (fun _ => rfl)) ?_ ?_
        · intro i o ho L f wz hl hp hI
          have hi : i < 11 := (Array.getElem?_eq_some_iff.1 ho).1
          have HLV : AV w.heap.size vb P st.1 (.slice pa (st.2.map (Value.int .i32)).length pc) (st.2.map (Value.int .i32)) wz := HA4.out.lv.grown hI.bel HROW (by decide) (by decide) (by decide)
          have hX : ∀ b, (some b = (Value.slice pa (st.2.map (Value.int .i32)).length pc).ownBlock ∨ some b = (Value.slice ra outs.length rc).ownBlock) → b < wz.heap.size := fun b hb => Nat.lt_of_lt_of_le (hb.elim (fun q => HA4.out.lv.own_lt q) (fun q => row_lt HROW q)) hI.bel.size
          obtain rfl | rfl | rfl | rfl | rfl | rfl | rfl | rfl | rfl | rfl | rfl : i = 0 ∨ i = 1 ∨ i = 2 ∨ i = 3 ∨ i = 4 ∨ i = 5 ∨ i = 6 ∨ i = 7 ∨ i = 8 ∨ i = 9 ∨ i = 10 := by omega
          all_goals obtain rfl := Option.some.inj ho
          · have hLC : L 10 = false := by
              cases hc : L 10 with
              | false => rfl
              | true => exact absurd ((hI.oz (hI.r2 hc).1).symm.trans hl) (by decide)
            exact og_op rfl rfl (og_value (run_move ((over_eval _ _ _ (by decide) (by show 7 < 56; omega)).trans (hI.c0 hLC (by decide)))) ⟨_, over_put _ _ _ (by decide) _, hI.pure aV_mono IPs_mono WF (i := 0) (by decide) (Below.refl _ _) rfl⟩)
          · exact og_op rfl rfl (og_value (run_move ((over_eval_out _ _ _ (by decide)).trans rfl)) ⟨_, over_put _ _ _ (by decide) _, hI.pure aV_mono IPs_mono WF (i := 1) (by decide) (Below.refl _ _) rfl⟩)
          · have e1 := hI.v 1 45 (by decide) (hp ⟨1, .data⟩ (by simp) rfl)
            cases bad with
            | true =>
              obtain ⟨t, q, rfl⟩ := HER.out
              exact og_op rfl rfl (og_value (run_neqErr ((over_eval _ _ _ (by decide) (by show 45 < 56; omega)).trans e1) rfl) ⟨_, over_put _ _ _ (by decide) _, hI.pure aV_mono IPs_mono WF (i := 2) (by decide) (Below.refl _ _) rfl⟩)
            | false =>
              have h := HER.out
              simp only [Bool.false_eq_true, if_false] at h
              subst h
              exact og_op rfl rfl (og_value (run_neqNil ((over_eval _ _ _ (by decide) (by show 45 < 56; omega)).trans e1) rfl) ⟨_, over_put _ _ _ (by decide) _, hI.pure aV_mono IPs_mono WF (i := 2) (by decide) (Below.refl _ _) rfl⟩)
          · exact og_op rfl rfl (og_value (run_move ((over_eval_out _ _ _ (by decide)).trans rfl)) ⟨_, over_put _ _ _ (by decide) _, hI.pure aV_mono IPs_mono WF (i := 3) (by decide) (Below.refl _ _) rfl⟩)
          · have e3 := hI.v 3 47 (by decide) (hp ⟨3, .data⟩ (by simp) rfl)
            exact og_op rfl rfl (og_value (run_nilCheck ((over_eval _ _ _ (by decide) (by show 47 < 56; omega)).trans e3)) ⟨_, over_put _ _ _ (by decide) _, hI.pure aV_mono IPs_mono WF (i := 4) (by decide) (Below.refl _ _) rfl⟩)
          · have e4 := hI.v 4 48 (by decide) (hp ⟨4, .data⟩ (by simp) rfl)
            exact og_op rfl rfl (og_value (run_loadL ((over_eval _ _ _ (by decide) (by show 48 < 56; omega)).trans e4) (cell_of_one HLV.p)) ⟨_, over_put _ _ _ (by decide) _, hI.pure aV_mono IPs_mono WF (i := 5) (by decide) (Below.refl _ _) rfl⟩)
          · have e5 := hI.v 5 49 (by decide) (hp ⟨5, .data⟩ (by simp) rfl)
            refine og_op rfl rfl (og_call (run_callF ((over_eval _ _ _ (by decide) (by show 49 < 56; omega)).trans e5) rfl rfl (fun args => by simp [go_sem])) ?_)
            refine (outA_any _ st.2 wz (by have := Vals.owned HLV.row; simpa using this) hrg (by omega)).mono ?_
            rintro e w' ⟨rv, rfl, hown, hb2⟩
            refine ⟨_, rfl, ⟨_, over_put _ _ _ (by decide) _, hI.pure aV_mono IPs_mono WF (i := 6) (by decide) hb2 (Snap.own_ge hown hX)⟩⟩
          · have e2 := hI.v 2 46 (by decide) (hp ⟨2, .data⟩ (by simp) rfl)
            have e6 := hI.v 6 50 (by decide) (hp ⟨6, .data⟩ (by simp) rfl)
            obtain ⟨a1, k1, f1⟩ := Snap.form e6
            exact og_op rfl rfl (og_value (run_buildT ((over_eval _ _ _ (by decide) (by show 46 < 56; omega)).trans e2) ((over_eval _ _ _ (by decide) (by show 50 < 56; omega)).trans f1)) ⟨_, over_put _ _ _ (by decide) _, hI.pure aV_mono IPs_mono WF (i := 7) (by decide) (Below.refl _ _) ⟨_, rfl, f1 ▸ e6⟩⟩)
          · have e7 := hI.v 7 51 (by decide) (hp ⟨7, .data⟩ (by simp) rfl)
            obtain ⟨v1, ea, s1⟩ := e7
            obtain ⟨a1, k1, rfl⟩ := s1.form
            exact og_op rfl rfl (og_value (run_buildSliceT ((over_eval _ _ _ (by decide) (by show 51 < 56; omega)).trans ea)) ⟨_, over_put _ _ _ (by decide) _, hI.built aV_mono IPs_mono WF hl _ ⟨_, rfl, s1⟩⟩)
          · have e0 := hI.v 0 44 (by decide) (hp ⟨0, .data⟩ (by simp) rfl)
            have hB := hp ⟨8, .data⟩ (by simp) rfl
            have hZ := hp ⟨0, .data⟩ (by simp) rfl
            exact og_op rfl rfl (hI.append aV_mono IPs_mono WF hl hB hZ (.tmp 44) (.tmp 52) rfl rfl (by decide) Tryd.underlying41 infoT rfl (by omega) ((over_eval _ _ _ (by decide) (by show 44 < 56; omega)).trans e0) (over_eval _ _ _ (by decide) (by show 52 < 56; omega)) (fun cs w h => h.good) (by unfold maxLen; omega) (by omega) (Nat.le_trans HA4.out.bel.size hI.bel.size))
          · have hA := hp ⟨9, .data⟩ (by simp) rfl
            exact og_op rfl rfl (og_value (run_assign (over_eval _ _ _ (by decide) (by show 53 < 56; omega))) ⟨_, over_put _ _ _ (by decide) _, hI.assigned WF hA⟩)
        · intro L f wz hl hI
          obtain ⟨cs, hcs, hown, hgr⟩ := hI.done (hl 10 (by show 10 < 11; omega))
          have HB : Hid (∃ pv, AIn w P vb (runsG cutN oneN df (l.take (k + 1))).1 (runsG cutN oneN df (l.take (k + 1))).2 (f 7) pv wz) := Lib.hid (by
            rw [HNX.out]
            exact ⟨_, HA4.out.told HROW HROWS.out hgr hcs hown⟩)
          have HLN2 : Hid ((runsG cutN oneN df (l.take (k + 1))).1.2.length ≤ 1048577 * ((k + 1) + 1)) := Lib.hid (by rw [HNX.out]; exact hsl)
          have HRN2 : Hid (∀ n ∈ (runsG cutN oneN df (l.take (k + 1))).1.2, Rg n) := Lib.hid (by rw [HNX.out]; exact hrg)
          clear hI hl hcs hown hgr
          simp only [over, ovl, aD, List.contains, List.elem, Nat.reduceBEq, Bool.false_eq_true, if_false, if_true, Nat.reduceAdd]
          generalize f 7 = v7 at *
          go_wp2_with fail
          go_roundw
          case rel => first | exact ⟨k + 1, by omega, by go_num, HLN2.out, HRN2.out, HB.out⟩ | ((repeat apply Exists.intro); exact ⟨⟨k + 1, by omega, by go_num, HLN2.out, HRN2.out, HB.out⟩, rfl⟩)
          case measure => simp [intOf]; omega
    · have e0 : decide (xd = 0) = false := decide_eq_false d0
      have e1 : decide (xd = 1) = false := decide_eq_false d1
      have e2 : decide (xd = 2) = false := decide_eq_false d2
      have HB : Hid (∃ pv, AIn w P vb (runsG cutN oneN df (l.take (k + 1))).1 (runsG cutN oneN df (l.take (k + 1))).2 (.slice ra outs.length rc) pv (wr.alloc (.cells #[.int .i64 xd, .string xs', .slice ta tn tc] 57))) := Lib.hid (by
        rw [HN.out, runG_no d0 d1 d2]
        exact ⟨_, HR.out.later (by (repeat (first | (with_reducible exact Below.refl _ _) | (with_reducible assumption) | ((with_reducible refine Below.alloc ?_ ?_ _); rotate_left; focus ((try simp only [World.size_alloc, size_setCell, World.heap_drewN]); (try omega); done)) | ((with_reducible refine Below.setCell ?_ ?_ _); rotate_left; focus ((try simp only [World.size_alloc, size_setCell, World.heap_drewN]); (try omega); done)) | (with_reducible refine Below.drewN' ?_) | (with_reducible refine Below.drew ?_))))⟩)
      have HLN2 : Hid ((runsG cutN oneN df (l.take (k + 1))).1.2.length ≤ 1048577 * ((k + 1) + 1)) := Lib.hid (by rw [HN.out, runG_no d0 d1 d2]; have := HLE.out; simp only; omega)
      have HRN2 : Hid (∀ n ∈ (runsG cutN oneN df (l.take (k + 1))).1.2, Rg n) := Lib.hid (by rw [HN.out, runG_no d0 d1 d2]; exact HRG.out)
      go_wp2_with fail
      go_roundw
      case rel => first | exact ⟨k + 1, by omega, by go_num, HLN2.out, HRN2.out, HB.out⟩ | ((repeat apply Exists.intro); exact ⟨⟨k + 1, by omega, by go_num, HLN2.out, HRN2.out, HB.out⟩, rfl⟩)
      case measure => simp [intOf]; omega
end Go.Proofs.YtlnnmionbflolaaDoor
