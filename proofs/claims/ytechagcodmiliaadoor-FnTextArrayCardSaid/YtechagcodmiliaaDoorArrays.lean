/- What impl.arrays tells: a row of what is said behind each step. (Printed by gen_arrs.py.) -/
import Derived.Test.YtechagcodmiliaaDoorArr
import Derived.Test.YtechagcodmiliaaDoorSteps
namespace Go.Proofs.YtechagcodmiliaaDoor
open Go.RowKit
set_option linter.unusedVariables false
set_option linter.unusedSimpArgs false

def cutA (t : ByteArray) : Option (List ByteArray) := some [t]
def oneA (t : ByteArray) : Option ByteArray := some t
theorem eachA : ∀ l, eachG oneA l = some l
  | [] => rfl
  | t :: l => by rw [eachG, oneA, eachA l]; rfl
theorem infoT : (Tryd.prog.info? 33).map (fun i => (i.zero, i.size, i.bytes)) = some (some (.agg #[.bool false, .slice none 0 0, .slice none 0 0]), 3, 56) := by kernel_rfl
/-- What is said behind a step. -/
def IPs (A : Nat → Prop) (o : Bool × List ByteArray) (cs : List Value) (w : World) : Prop :=
  ∃ v1 v2, cs = [.bool o.1, v1, v2] ∧ Snap 9 w A v1 (o.2.map .string) ∧ Snap 9 w A v2 (o.2.map .string)
theorem IPs.later {A A' : Nat → Prop} {o : Bool × List ByteArray} {cs : List Value} {w w' : World} (h : IPs A o cs w)
    (hk : ∀ b cs fz, w.heap[b]? = some (.cells cs 9 fz) → ¬ A b → w'.heap[b]? = w.heap[b]? ∧ ¬ A' b) : IPs A' o cs w' := by
  obtain ⟨v1, v2, e, h1, h2⟩ := h
  exact ⟨v1, v2, e, h1.later hk, h2.later hk⟩
theorem IPs.good {A : Nat → Prop} {o : Bool × List ByteArray} {cs : List Value} {w : World} (h : IPs A o cs w) : cs.length = 3 ∧ ∀ c ∈ cs, c.oneCell' = true := by
  obtain ⟨v1, v2, rfl, h1, h2⟩ := h
  refine ⟨rfl, fun c hc => ?_⟩
  simp only [List.mem_cons, List.not_mem_nil, or_false] at hc
  rcases hc with rfl | rfl | rfl
  · rfl
  · exact h1.oneCell
  · exact h2.oneCell

/-- The slots' values of the region that tells. -/
def aV (R : Option Nat) (row er pv : Value) (P vb : Nat) (o : Bool × List ByteArray) (i : Nat) (v : Value) (w : World) : Prop :=
  match i with
  | 0 => v = row
  | 1 => v = er
  | 2 => v = .bool o.1
  | 3 => ∃ q, v = .slice (some ⟨q, 0, none⟩) 0 0 ∧ w.heap[q]? = some (.cells #[] 9 (0, 0)) ∧ some q ≠ R
  | 4 => v = .pointer (some ⟨P, 0, none⟩)
  | 5 => v = .pointer (some ⟨P, 0, none⟩)
  | 6 => v = pv
  | 7 => Snap 9 w (fun b => some b = pv.ownBlock ∨ some b = R) v (o.2.map .string)
  | 8 => ∃ q, v = .slice (some ⟨q, 0, none⟩) 0 0 ∧ w.heap[q]? = some (.cells #[] 9 (0, 0)) ∧ some q ≠ R
  | 9 => v = .pointer (some ⟨vb, 0, none⟩)
  | 10 => Snap 9 w (fun b => some b = pv.ownBlock ∨ some b = R) v (o.2.map .string)
  | 11 => Snap 9 w (fun b => some b = pv.ownBlock ∨ some b = R) v (o.2.map .string)
  | 12 => ∃ v1 v2, v = .agg #[.bool o.1, v1, v2] ∧ Snap 9 w (fun b => some b = pv.ownBlock ∨ some b = R) v1 (o.2.map .string) ∧ Snap 9 w (fun b => some b = pv.ownBlock ∨ some b = R) v2 (o.2.map .string)
  | _ => True
theorem aV_mono {R : Option Nat} {row er pv : Value} {P vb : Nat} {o : Bool × List ByteArray} (i : Nat) (v : Value) (w w' : World) (hg : w.grownBy w' R) (h : aV R row er pv P vb o i v w) : aV R row er pv P vb o i v w' := by
  unfold aV at h ⊢
  split at h
  case h_4 =>
    obtain ⟨q, e, hq, hn⟩ := h
    exact ⟨q, e, (hg.block _ (lt_of_block hq) hn).trans hq, hn⟩
  case h_9 =>
    obtain ⟨q, e, hq, hn⟩ := h
    exact ⟨q, e, (hg.block _ (lt_of_block hq) hn).trans hq, hn⟩
  case h_8 => exact h.grown hg fun b hb => .inr hb
  case h_11 => exact h.grown hg fun b hb => .inr hb
  case h_12 => exact h.grown hg fun b hb => .inr hb
  case h_13 =>
    obtain ⟨v1, v2, e, h1, h2⟩ := h
    exact ⟨v1, v2, e, h1.grown hg fun b hb => .inr hb, h2.grown hg fun b hb => .inr hb⟩
  all_goals exact h
theorem IPs_mono {R : Option Nat} {X : Nat → Prop} {o : Bool × List ByteArray} (cs : List Value) (w w' : World) (hg : w.grownBy w' R) (h : IPs (fun b => X b ∨ some b = R) o cs w) : IPs (fun b => X b ∨ some b = R) o cs w' := by
  obtain ⟨v1, v2, e, h1, h2⟩ := h
  exact ⟨v1, v2, e, h1.grown hg fun b hb => .inr hb, h2.grown hg fun b hb => .inr hb⟩
def aN : SayN := ⟨[(0, 45), (1, 46), (2, 47), (3, 48), (4, 49), (5, 50), (6, 51), (7, 52), (8, 53), (9, 54), (10, 55), (11, 56), (12, 57)], 13, 58, 14, 59, 15, 7, 0⟩
theorem aN_wf : aN.Wf := ⟨by decide, by decide⟩
def aD : List Nat := [45, 46, 47, 48, 49, 50, 51, 52, 53, 54, 55, 56, 57, 58, 59, 7]

theorem run_neqErr {ρ : Operand → Value} {d : Option Tmp} {ty : TypeId} {pos : String} {af : Array Edge} {g : Option (Nat × Bool)} {x : Tmp} {w : World} {t : TypeId} {p : Value} (h : ρ (.tmp x) = .iface t p) (hn : ρ (.const .nilIface) = .nilIface) :
    (execOp ρ ⟨d, .binOp .neq 51 (.tmp x) (.const .nilIface) 51, ty, pos, af, g⟩).run Tryd.prog w = .ok (.value (.bool true)) w := by
  go_simp
theorem run_neqNil {ρ : Operand → Value} {d : Option Tmp} {ty : TypeId} {pos : String} {af : Array Edge} {g : Option (Nat × Bool)} {x : Tmp} {w : World} (h : ρ (.tmp x) = .nilIface) (hn : ρ (.const .nilIface) = .nilIface) :
    (execOp ρ ⟨d, .binOp .neq 51 (.tmp x) (.const .nilIface) 51, ty, pos, af, g⟩).run Tryd.prog w = .ok (.value (.bool false)) w := by
  go_simp
theorem run_assign {P : Program} {ρ : Operand → Value} {d : Option Tmp} {ty : TypeId} {pos : String} {af : Array Edge} {g : Option (Nat × Bool)} {x : Operand} {w : World} {v : Value} (h : ρ x = v) :
    (execOp ρ ⟨d, .assign x, ty, pos, af, g⟩).run P w = .ok (.value v) w := by
  subst h; rfl
theorem run_build0 {ρ : Operand → Value} {d : Option Tmp} {ty : TypeId} {pos : String} {af : Array Edge} {g : Option (Nat × Bool)} {w : World} :
    (execOp ρ ⟨d, .buildSlice 22 0 #[], ty, pos, af, g⟩).run Tryd.prog w = .ok (.value (.slice (some ⟨w.heap.size, 0, none⟩) 0 0)) (w.alloc (.cells #[] 9)) := by
  go_simp
theorem run_buildT {ρ : Operand → Value} {d : Option Tmp} {ty : TypeId} {pos : String} {af : Array Edge} {g : Option (Nat × Bool)} {x y z : Tmp} {w : World} {b : Bool} {a1 a2 : Option Addr} {n1 n2 c1 c2 : Nat} (h : ρ (.tmp x) = .bool b) (h1 : ρ (.tmp y) = .slice a1 n1 c1) (h2 : ρ (.tmp z) = .slice a2 n2 c2) :
    (execOp ρ ⟨d, .build 33 #[(0, .tmp x), (1, .tmp y), (2, .tmp z)], ty, pos, af, g⟩).run Tryd.prog w = .ok (.value (.agg #[.bool b, .slice a1 n1 c1, .slice a2 n2 c2])) w := by
  go_simp
theorem run_buildSliceT {ρ : Operand → Value} {d : Option Tmp} {ty : TypeId} {pos : String} {af : Array Edge} {g : Option (Nat × Bool)} {x : Tmp} {w : World} {b : Bool} {a1 a2 : Option Addr} {n1 n2 c1 c2 : Nat} (h : ρ (.tmp x) = .agg #[.bool b, .slice a1 n1 c1, .slice a2 n2 c2]) :
    (execOp ρ ⟨d, .buildSlice 29 1 #[(0, .tmp x)], ty, pos, af, g⟩).run Tryd.prog w = .ok (.value (.slice (some ⟨w.heap.size, 0, none⟩) 1 1)) (w.alloc (.cells [Value.bool b, .slice a1 n1 c1, .slice a2 n2 c2].toArray 33)) := by
  go_simp

/-- The list's value and the row of what was said. -/
structure AIn (w0 : World) (P vb : Nat) (st : Bool × List ByteArray) (outs : List (Bool × List ByteArray)) (vo pv : Value) (wr : World) : Prop where
  bel : Below w0.heap.size w0 wr
  lv : AV w0.heap.size vb P st.1 pv (st.2.map .string) wr
  row : ∃ xs, wr.ownsRow w0.heap.size 33 3 vo outs.length xs ∧ RowsOf 3 (IPs (fun b => some b = pv.ownBlock)) wr xs outs
theorem AIn.later {w0 : World} {P vb : Nat} {st : Bool × List ByteArray} {outs : List (Bool × List ByteArray)} {vo pv : Value} {wr w' : World} (h : AIn w0 P vb st outs vo pv wr) (hb : Below wr.heap.size wr w') : AIn w0 P vb st outs vo pv w' := by
  obtain ⟨xs, h1, h2⟩ := h.row
  exact ⟨h.bel.trans (hb.mono h.bel.size), h.lv.later hb, xs, row_grow h1 hb, h2.later fun o cs hi => hi.later fun b _ _ hb' hn => ⟨hb.block b (lt_of_block hb'), hn⟩⟩
/-- Behind a method. -/
theorem AIn.moved {w0 : World} {P vb : Nat} {st st' : Bool × List ByteArray} {outs : List (Bool × List ByteArray)} {vo pv pv' : Value} {wr w' : World} (h : AIn w0 P vb st outs vo pv wr) (hm : Moved vb P pv pv' wr w') (hl : AV w0.heap.size vb P st'.1 pv' (st'.2.map .string) w') (hP : w0.heap.size ≤ P) (hvb : w0.heap.size ≤ vb) : AIn w0 P vb st' outs vo pv' w' := by
  obtain ⟨xs, h1, h2⟩ := h.row
  refine ⟨h.bel.trans (hm.below hvb hP (fun b hb => (ownsRow_cells h.lv.row hb).1) h.bel.size), hl, xs, hm.row h.lv.v h.lv.p h.lv.row h1 (by decide) (by decide) (by decide), h2.change fun o cs hi => ?_⟩
  obtain ⟨v1, v2, e, s1, s2⟩ := hi
  exact ⟨v1, v2, e, hm.snap h.lv.v h.lv.p (by decide) (by decide) s1, hm.snap h.lv.v h.lv.p (by decide) (by decide) s2⟩
/-- Behind what is told. -/
theorem AIn.told {w0 : World} {P vb : Nat} {st : Bool × List ByteArray} {outs : List (Bool × List ByteArray)} {vo vo' pv : Value} {wr w' : World} {xs : List Value} (h : AIn w0 P vb st outs vo pv wr) (hr : wr.ownsRow w0.heap.size 33 3 vo outs.length xs) (h2 : RowsOf 3 (IPs (fun b => some b = pv.ownBlock)) wr xs outs) (hg : wr.grownBy w' vo.ownBlock) {bad : Bool} {cs : List Value} (hc : IPs (fun b => some b = pv.ownBlock ∨ some b = vo.ownBlock) (bad, st.2) cs w') (ho : w'.ownsRow w0.heap.size 33 3 vo' (outs.length + 1) (xs ++ cs)) : AIn w0 P vb st (outs ++ [(bad, st.2)]) vo' pv w' := by
  refine ⟨grown_below h.bel h.bel.size hr hg, h.lv.grown hg hr (by decide) (by decide) (by decide), xs ++ cs, by simpa using ho, ?_⟩
  refine RowsOf.snoc (h2.later fun o cs hi => hi.later fun b c z hb hn => ⟨hg.block b (lt_of_block hb) (fun q => row_ne hb hr (by decide) q.symm), hn⟩) (hc.later fun b c z hb hn => ⟨rfl, fun q => hn (.inl q)⟩) (hc.good).1
/-- At the start. -/
theorem AIn.start {w w1 w2 : World} {df : List ByteArray} {va : Option Addr} {vc : Nat} (hf : Fresh 9 (w.heap.size + 1) (df.map .string) ((w.alloc (.cells #[.slice none 0 0] 22)).alloc (.cells #[] 9)) (.slice va (df.map Value.string).length vc) w1)
    (hv : w2.heap[w1.heap.size]? = some (.cells #[.pointer (some ⟨w.heap.size, 0, none⟩), .bool false] 62 (0, 0))) (hp : w2.heap[w.heap.size]? = some (.cells #[.slice va (df.map Value.string).length vc] 22 (0, 0))) (hg : w1.grownBy w2 (some w.heap.size)) :
    AIn w w.heap.size w1.heap.size (false, df) [] (.slice none 0 0) (.slice va (df.map Value.string).length vc) w2 := by
  have hb1 : Below w.heap.size w w1 := by
    have h0 : Below w.heap.size w ((w.alloc (.cells #[.slice none 0 0] 22)).alloc (.cells #[] 9)) := by (repeat (first | (with_reducible exact Below.refl _ _) | (with_reducible assumption) | ((with_reducible refine Below.alloc ?_ ?_ _); rotate_left; focus ((try simp only [World.size_alloc, size_setCell, World.heap_drewN]); (try omega); done)) | ((with_reducible refine Below.setCell ?_ ?_ _); rotate_left; focus ((try simp only [World.size_alloc, size_setCell, World.heap_drewN]); (try omega); done)) | (with_reducible refine Below.drewN' ?_) | (with_reducible refine Below.drew ?_)))
    exact h0.trans (hf.below.mono h0.size)
  refine ⟨hb1.trans (grownBy_below hg (fun k hk => by cases hk; exact Nat.le_refl _) hb1.size), ⟨hv, hp, ?_⟩, [], World.ownsRow_nil _ _ _ _, RowsOf.nil _ _ _⟩
  refine ownsRow_at (row_lower hf.2.1 (Nat.le_succ _)) fun g hg' => ?_
  obtain ⟨hge, c, hc⟩ := ownsRow_cells hf.2.1 hg'
  exact hg.block g (lt_of_block hc) (fun q => by cases q; omega)

set_option maxRecDepth 100000 in
set_option maxHeartbeats 3200000 in
theorem arrays_any (dv : Value) (df : List ByteArray) (sv : Value) (l : List StepD) (w : World) (hd : Strs w dv df) (hs : Steps w sv l) (hdl : df.length ≤ 2147483647) (hll : l.length ≤ 2147483647) (hx : ∀ x ∈ l, x.l.length ≤ 2147483647) :
    Calls Tryd.prog 17 #[dv, sv] w fun e w' => ∃ rv xs, e = .returned rv ∧ w'.ownsRow w.heap.size 33 3 rv (runsG cutA oneA df l).2.length xs ∧ RowsOf 3 (IPs (fun _ => False)) w' xs (runsG cutA oneA df l).2 ∧ Below w.heap.size w w' := by
  obtain ⟨sa, sc, rfl⟩ := hs.len
  obtain ⟨da, dc, rfl⟩ := hd.len
  have HS := Lib.hid (fun W (h : Below w.heap.size w W) => hs.later h)
  have HD := Lib.hid (fun W (h : Below w.heap.size w W) => hd.later h.block)
  have HX := Lib.hid hx
  clear hd hs hx
  go_enter Tryd.func17, Tryd.ntmps17
  go_wp2_with (at_builtin; refine wpList_append_fresh (by rfl) _ _ 22 9 (by rfl) Tryd.underlying22 infoStr rfl _ (by rfl) (heap_at _ _ _ (by (simp only [World.size_alloc, size_setCell, World.heap_drewN]))) _ (by rfl) (df.map .string) (Strs.vals (HD.out _ (by (repeat (first | (with_reducible exact Below.refl _ _) | (with_reducible assumption) | ((with_reducible refine Below.alloc ?_ ?_ _); rotate_left; focus ((try simp only [World.size_alloc, size_setCell, World.heap_drewN]); (try omega); done)) | ((with_reducible refine Below.setCell ?_ ?_ _); rotate_left; focus ((try simp only [World.size_alloc, size_setCell, World.heap_drewN]); (try omega); done)) | (with_reducible refine Below.drewN' ?_) | (with_reducible refine Below.drew ?_)))))) (by simp [Value.oneCell']) (by unfold maxLen; rw [List.length_map]; omega) (by rw [List.length_map]; omega) ?_; intro v1 w1 hf1)
  obtain ⟨va, vc, rfl⟩ := row_form hf1.2.1
  have hP1 : w1.heap[w.heap.size]? = some (.cells #[.slice none 0 0] 22 (0, 0)) := (hf1.below.block _ (by simp only [World.size_alloc]; omega)).trans (by (repeat (first | (with_reducible assumption) | ((with_reducible refine heap_past' ?_ ?_); focus ((try simp only [World.size_alloc, size_setCell, World.heap_drewN]); (try omega); done)) | ((with_reducible refine heap_at _ _ _ ?_); focus ((try simp only [World.size_alloc, size_setCell, World.heap_drewN]); (try omega); done)) | ((with_reducible refine heap_ne' ?_ ?_); focus ((try simp only [World.size_alloc, size_setCell, World.heap_drewN]); (try omega); done)) | (with_reducible refine heap_drew' ?_))))
  refine (zzArr_any va _ vc w.heap.size w1 hP1).mono ?_
  rintro e w2 ⟨rfl, hv2, hp2, hg2⟩
  have hA := AIn.start hf1 hv2 hp2 hg2
  have HP2 : Hid (w.heap.size ≤ w1.heap.size) := Lib.hid (Nat.le_trans (by simp only [World.size_alloc]; omega) hf1.below.size)
  clear hf1 hP1 hv2 hp2 hg2
  have HP1 : Hid (w.heap.size ≤ w.heap.size) := Lib.hid (Nat.le_refl _)
  obtain ⟨vb, hvb⟩ : ∃ vb, w1.heap.size = vb := ⟨_, rfl⟩
  obtain ⟨P, hP⟩ : ∃ P, w.heap.size = P := ⟨_, rfl⟩
  have HA : Hid (AIn w P vb (false, df) [] (.slice none 0 0) (.slice va (df.map Value.string).length vc) w2) := Lib.hid (by subst hvb; subst hP; exact hA)
  have HP1 : Hid (w.heap.size ≤ P) := Lib.hid (by subst hP; exact Nat.le_refl _)
  have HP2 : Hid (w.heap.size ≤ vb) := Lib.hid (by subst hvb; exact HP2.out)
  clear hA
  rw [hvb, hP]
  clear hvb hP
  go_wp2_with fail
  go_loopw [7, 19] (fun vo vi wr => ∃ k : Nat, k ≤ l.length ∧ vi = .int .i64 k ∧ (runsG cutA oneA df (l.take k)).1.2.length ≤ 2147483647 + k ∧ ∃ pv, AIn w P vb (runsG cutA oneA df (l.take k)).1 (runsG cutA oneA df (l.take k)).2 vo pv wr) (fun _ vi _ => l.length - (intOf vi).toNat)
  case atStart => exact ⟨0, Nat.zero_le _, rfl, hdl, _, HA.out⟩
  case round =>
    obtain ⟨k, hk, rfl, hlen, pv, hr⟩ := hrel
    obtain ⟨xs, hrow, hrows⟩ := hr.row
    obtain ⟨ra, rc, rfl⟩ := row_form hrow
    have HR := Lib.hid hr
    have HLE := Lib.hid hlen
    by_cases hlt : k < l.length
    case neg =>
      have ek : k = l.length := by omega
      have HF : Hid (∃ xs, wr.ownsRow w.heap.size 33 3 (.slice ra (runsG cutA oneA df (l.take k)).2.length rc) (runsG cutA oneA df l).2.length xs ∧ RowsOf 3 (IPs (fun _ => False)) wr xs (runsG cutA oneA df l).2 ∧ Below w.heap.size w wr) := Lib.hid (by
        subst ek
        rw [List.take_length] at hrow hrows ⊢
        exact ⟨xs, hrow, hrows.change fun o cs h => h.later fun b _ _ _ _ => ⟨rfl, fun q => q⟩, hr.bel⟩)
      clear ek hr hrow hrows hlen
      go_wp2_with fail
      go_ret
      obtain ⟨xs, h⟩ := HF.out
      exact ⟨_, xs, rfl, h⟩
    obtain ⟨sb, so, rfl, hst⟩ := (HS.out wr hr.bel).at k hlt
    obtain ⟨s0, s1, ta, tn, tc, s2, s3⟩ := hst
    have slt := lt_of_cell s0
    have hxl := HX.out l[k] (List.getElem_mem hlt)
    have hnx := runsG_next cutA oneA df l k hlt
    clear hr hrow hrows hlen
    obtain ⟨⟨xd, xs', xl⟩, hxe⟩ : ∃ x, l[k] = x := ⟨_, rfl⟩
    rw [hxe] at s0 s1 s3 hxl hnx
    simp only at s0 s1 s3 hxl
    clear hxe
    have HN := Lib.hid hnx
    have H3 := Lib.hid s3
    clear hnx s3
    by_cases d0 : xd = 0
    · subst d0
      have HW : Hid (AIn w P vb (runsG cutA oneA df (l.take k)).1 (runsG cutA oneA df (l.take k)).2 (.slice ra (runsG cutA oneA df (l.take k)).2.length rc) pv (wr.alloc (.cells #[.int .i64 0, .string xs', .slice ta tn tc] 36))) := Lib.hid (HR.out.later (by (repeat (first | (with_reducible exact Below.refl _ _) | (with_reducible assumption) | ((with_reducible refine Below.alloc ?_ ?_ _); rotate_left; focus ((try simp only [World.size_alloc, size_setCell, World.heap_drewN]); (try omega); done)) | ((with_reducible refine Below.setCell ?_ ?_ _); rotate_left; focus ((try simp only [World.size_alloc, size_setCell, World.heap_drewN]); (try omega); done)) | (with_reducible refine Below.drewN' ?_) | (with_reducible refine Below.drew ?_)))))
      have C := Lib.hid (setArr_any vb P _ _ _ _ xs' _ HW.out.lv (by have := HLE.out; omega) HW.out.bel.size)
      go_wp2_with fail
      refine C.out.mono ?_
      rintro e w4 ⟨er, pv', rfl, her, hlv, hmv⟩
      have HER := Lib.hid her
      have HA4 := Lib.hid (HW.out.moved (st' := ((true, if (runsG cutA oneA df (l.take k)).1.1 then (runsG cutA oneA df (l.take k)).1.2 ++ [xs'] else [xs']) : Bool × List ByteArray)) hmv hlv HP1.out HP2.out)
      have HNX : Hid (runsG cutA oneA df (l.take (k + 1)) = (((true, if (runsG cutA oneA df (l.take k)).1.1 then (runsG cutA oneA df (l.take k)).1.2 ++ [xs'] else [xs']) : Bool × List ByteArray), (runsG cutA oneA df (l.take k)).2 ++ [(false, ((true, if (runsG cutA oneA df (l.take k)).1.1 then (runsG cutA oneA df (l.take k)).1.2 ++ [xs'] else [xs']) : Bool × List ByteArray).2)])) := Lib.hid (by rw [HN.out]; rw [runG_yes (.inl rfl)]; rfl)
      have HLN : Hid (((true, if (runsG cutA oneA df (l.take k)).1.1 then (runsG cutA oneA df (l.take k)).1.2 ++ [xs'] else [xs']) : Bool × List ByteArray).2.length ≤ 2147483647 + (k + 1)) := Lib.hid (by have := HLE.out; show (if (runsG cutA oneA df (l.take k)).1.1 then (runsG cutA oneA df (l.take k)).1.2 ++ [xs'] else [xs']).length ≤ _; split <;> simp <;> omega)
      clear her hlv hmv C HW
      obtain ⟨st, hst⟩ : ∃ st : Bool × List ByteArray, ((true, if (runsG cutA oneA df (l.take k)).1.1 then (runsG cutA oneA df (l.take k)).1.2 ++ [xs'] else [xs']) : Bool × List ByteArray) = st := ⟨_, rfl⟩
      obtain ⟨bad, hbad⟩ : ∃ bad : Bool, false = bad := ⟨_, rfl⟩
      rw [hst] at HA4 HNX HLN
      rw [hbad] at HER HNX
      clear hst hbad
      obtain ⟨outs, houts⟩ : ∃ outs, (runsG cutA oneA df (l.take k)).2 = outs := ⟨_, rfl⟩
      have HOL : Hid (outs.length ≤ k) := Lib.hid (by rw [← houts, runsG_len]; exact Nat.le_trans (List.length_filter_le _ _) (by simp; omega))
      rw [houts] at HA4 HNX ⊢
      clear houts
      obtain ⟨pa, pc, rfl⟩ := row_form HA4.out.lv.row
      obtain ⟨xs, hrow, hrows⟩ := HA4.out.row
      have HROWS := Lib.hid hrows
      have HROW0 := Lib.hid hrow
      clear hrow hrows
      go_upto_region 15 with fail
      all_goals
        have HROW := HROW0.out
        have WF := aN_wf
        have hsl := HLN.out
        have hol := HOL.out
        refine wp_region_og aD (SJ w4 w.heap.size 33 3 (.slice ra outs.length rc) outs.length xs aN (aV (Value.slice ra outs.length rc).ownBlock (.slice ra outs.length rc) er (.slice pa (st.2.map Value.string).length pc) P vb (bad, st.2)) (IPs (fun b => some b = (Value.slice pa (st.2.map Value.string).length pc).ownBlock ∨ some b = (Value.slice ra outs.length rc).ownBlock) (bad, st.2))) (by kernel_rfl) (by kernel_rfl) (SJ.start rfl HROW _ (fun _ => rfl)) ?_ ?_
        · intro i o ho L f wz hl hp hI
          have hi : i < 16 := (Array.getElem?_eq_some_iff.1 ho).1
          have HLV : AV w.heap.size vb P st.1 (.slice pa (st.2.map Value.string).length pc) (st.2.map .string) wz := HA4.out.lv.grown hI.bel HROW (by decide) (by decide) (by decide)
          have hX : ∀ b, (some b = (Value.slice pa (st.2.map Value.string).length pc).ownBlock ∨ some b = (Value.slice ra outs.length rc).ownBlock) → b < wz.heap.size := fun b hb => Nat.lt_of_lt_of_le (hb.elim (fun q => HA4.out.lv.own_lt q) (fun q => row_lt HROW q)) hI.bel.size
          obtain rfl | rfl | rfl | rfl | rfl | rfl | rfl | rfl | rfl | rfl | rfl | rfl | rfl | rfl | rfl | rfl : i = 0 ∨ i = 1 ∨ i = 2 ∨ i = 3 ∨ i = 4 ∨ i = 5 ∨ i = 6 ∨ i = 7 ∨ i = 8 ∨ i = 9 ∨ i = 10 ∨ i = 11 ∨ i = 12 ∨ i = 13 ∨ i = 14 ∨ i = 15 := by omega
          all_goals obtain rfl := Option.some.inj ho
          · have hLC : L 15 = false := by
              cases hc : L 15 with
              | false => rfl
              | true => exact absurd ((hI.oz (hI.r2 hc).1).symm.trans hl) (by decide)
            exact og_op rfl rfl (og_value (run_move ((over_eval _ _ _ (by decide) (by show 7 < 62; omega)).trans (hI.c0 hLC (by decide)))) ⟨_, over_put _ _ _ (by decide) _, hI.pure aV_mono IPs_mono WF (i := 0) (by decide) (Below.refl _ _) rfl⟩)
          · exact og_op rfl rfl (og_value (run_move ((over_eval_out _ _ _ (by decide)).trans rfl)) ⟨_, over_put _ _ _ (by decide) _, hI.pure aV_mono IPs_mono WF (i := 1) (by decide) (Below.refl _ _) rfl⟩)
          · have e1 := hI.v 1 46 (by decide) (hp ⟨1, .data⟩ (by simp) rfl)
            cases bad with
            | true =>
              obtain ⟨t, q, rfl⟩ := HER.out
              exact og_op rfl rfl (og_value (run_neqErr ((over_eval _ _ _ (by decide) (by show 46 < 62; omega)).trans e1) rfl) ⟨_, over_put _ _ _ (by decide) _, hI.pure aV_mono IPs_mono WF (i := 2) (by decide) (Below.refl _ _) rfl⟩)
            | false =>
              have h := HER.out
              simp only [Bool.false_eq_true, if_false] at h
              subst h
              exact og_op rfl rfl (og_value (run_neqNil ((over_eval _ _ _ (by decide) (by show 46 < 62; omega)).trans e1) rfl) ⟨_, over_put _ _ _ (by decide) _, hI.pure aV_mono IPs_mono WF (i := 2) (by decide) (Below.refl _ _) rfl⟩)
          · exact og_op rfl rfl (og_value run_build0 ⟨_, over_put _ _ _ (by decide) _, hI.pure aV_mono IPs_mono WF (i := 3) (by decide) ((Below.refl _ _).alloc (Nat.le_refl _) _) ⟨wz.heap.size, rfl, heap_at _ _ _ rfl, fun q => Nat.lt_irrefl _ (Nat.lt_of_lt_of_le (row_lt HROW q) hI.bel.size)⟩⟩)
          · exact og_op rfl rfl (og_value (run_move ((over_eval_out _ _ _ (by decide)).trans rfl)) ⟨_, over_put _ _ _ (by decide) _, hI.pure aV_mono IPs_mono WF (i := 4) (by decide) (Below.refl _ _) rfl⟩)
          · have e4 := hI.v 4 49 (by decide) (hp ⟨4, .data⟩ (by simp) rfl)
            exact og_op rfl rfl (og_value (run_nilCheck ((over_eval _ _ _ (by decide) (by show 49 < 62; omega)).trans e4)) ⟨_, over_put _ _ _ (by decide) _, hI.pure aV_mono IPs_mono WF (i := 5) (by decide) (Below.refl _ _) rfl⟩)
          · have e5 := hI.v 5 50 (by decide) (hp ⟨5, .data⟩ (by simp) rfl)
            exact og_op rfl rfl (og_value (run_loadL ((over_eval _ _ _ (by decide) (by show 50 < 62; omega)).trans e5) (cell_of_one HLV.p)) ⟨_, over_put _ _ _ (by decide) _, hI.pure aV_mono IPs_mono WF (i := 6) (by decide) (Below.refl _ _) rfl⟩)
          · have e3 := hI.v 3 48 (by decide) (hp ⟨3, .data⟩ (by simp) rfl)
            have e6 := hI.v 6 51 (by decide) (hp ⟨6, .data⟩ (by simp) rfl)
            obtain ⟨q, eq, hq, -⟩ := e3
            refine og_op rfl rfl (wp_append_fresh (.tmp 48) (.tmp 51) 22 9 rfl Tryd.underlying22 infoStr rfl q ((over_eval _ _ _ (by decide) (by show 48 < 62; omega)).trans eq) hq (f 51) (over_eval _ _ _ (by decide) (by show 51 < 62; omega)) (st.2.map .string) (e6 ▸ Vals.owned HLV.row) (by simp [Value.oneCell']) (by unfold maxLen; rw [List.length_map]; omega) (by rw [List.length_map]; omega) ?_)
            intro v' w' hf
            exact ⟨_, over_put _ _ _ (by decide) _, hI.pure aV_mono IPs_mono WF (i := 7) (by decide) hf.below (hf.snap hX)⟩
          · exact og_op rfl rfl (og_value run_build0 ⟨_, over_put _ _ _ (by decide) _, hI.pure aV_mono IPs_mono WF (i := 8) (by decide) ((Below.refl _ _).alloc (Nat.le_refl _) _) ⟨wz.heap.size, rfl, heap_at _ _ _ rfl, fun q => Nat.lt_irrefl _ (Nat.lt_of_lt_of_le (row_lt HROW q) hI.bel.size)⟩⟩)
          · exact og_op rfl rfl (og_value (run_move ((over_eval_out _ _ _ (by decide)).trans rfl)) ⟨_, over_put _ _ _ (by decide) _, hI.pure aV_mono IPs_mono WF (i := 9) (by decide) (Below.refl _ _) rfl⟩)
          · have e9 := hI.v 9 54 (by decide) (hp ⟨9, .data⟩ (by simp) rfl)
            refine og_op rfl rfl (og_call (run_call1 ((over_eval _ _ _ (by decide) (by show 54 < 62; omega)).trans e9) rfl (fun args => by simp [go_sem])) ?_)
            refine (getArr_any vb P _ _ _ _ wz HLV (by omega)).mono ?_
            rintro e w' ⟨g, rfl, hf⟩
            have hf' : Fill 9 (.string ⟨#[]⟩) wz g (st.2.map .string) (st.2.map Value.string).length w' := by simpa using hf
            refine ⟨_, rfl, ⟨_, over_put _ _ _ (by decide) _, hI.pure aV_mono IPs_mono WF (i := 10) (by decide) hf.bel (by have hs := hf'.snap hX; simp only [List.length_map] at hs ⊢; exact hs)⟩⟩
          · have e8 := hI.v 8 53 (by decide) (hp ⟨8, .data⟩ (by simp) rfl)
            have e10 := hI.v 10 55 (by decide) (hp ⟨10, .data⟩ (by simp) rfl)
            obtain ⟨q, eq, hq, -⟩ := e8
            refine og_op rfl rfl (wp_append_fresh (.tmp 53) (.tmp 55) 22 9 rfl Tryd.underlying22 infoStr rfl q ((over_eval _ _ _ (by decide) (by show 53 < 62; omega)).trans eq) hq (f 55) (over_eval _ _ _ (by decide) (by show 55 < 62; omega)) (st.2.map .string) (Snap.vals e10) (by simp [Value.oneCell']) (by unfold maxLen; rw [List.length_map]; omega) (by rw [List.length_map]; omega) ?_)
            intro v' w' hf
            exact ⟨_, over_put _ _ _ (by decide) _, hI.pure aV_mono IPs_mono WF (i := 11) (by decide) hf.below (hf.snap hX)⟩
          · have e2 := hI.v 2 47 (by decide) (hp ⟨2, .data⟩ (by simp) rfl)
            have e7 := hI.v 7 52 (by decide) (hp ⟨7, .data⟩ (by simp) rfl)
            have e11 := hI.v 11 56 (by decide) (hp ⟨11, .data⟩ (by simp) rfl)
            obtain ⟨a1, k1, f1⟩ := Snap.form e7
            obtain ⟨a2, k2, f2⟩ := Snap.form e11
            exact og_op rfl rfl (og_value (run_buildT ((over_eval _ _ _ (by decide) (by show 47 < 62; omega)).trans e2) ((over_eval _ _ _ (by decide) (by show 52 < 62; omega)).trans f1) ((over_eval _ _ _ (by decide) (by show 56 < 62; omega)).trans f2)) ⟨_, over_put _ _ _ (by decide) _, hI.pure aV_mono IPs_mono WF (i := 12) (by decide) (Below.refl _ _) ⟨_, _, rfl, f1 ▸ e7, f2 ▸ e11⟩⟩)
          · have e12 := hI.v 12 57 (by decide) (hp ⟨12, .data⟩ (by simp) rfl)
            obtain ⟨v1, v2, ea, s1, s2⟩ := e12
            obtain ⟨a1, k1, rfl⟩ := s1.form
            obtain ⟨a2, k2, rfl⟩ := s2.form
            exact og_op rfl rfl (og_value (run_buildSliceT ((over_eval _ _ _ (by decide) (by show 57 < 62; omega)).trans ea)) ⟨_, over_put _ _ _ (by decide) _, hI.built aV_mono IPs_mono WF hl _ ⟨_, _, rfl, s1, s2⟩⟩)
          · have e0 := hI.v 0 45 (by decide) (hp ⟨0, .data⟩ (by simp) rfl)
            have hB := hp ⟨13, .data⟩ (by simp) rfl
            have hZ := hp ⟨0, .data⟩ (by simp) rfl
            exact og_op rfl rfl (hI.append aV_mono IPs_mono WF hl hB hZ (.tmp 45) (.tmp 58) rfl rfl (by decide) Tryd.underlying29 infoT rfl (by omega) ((over_eval _ _ _ (by decide) (by show 45 < 62; omega)).trans e0) (over_eval _ _ _ (by decide) (by show 58 < 62; omega)) (fun cs w h => h.good) (by unfold maxLen; omega) (by omega) (Nat.le_trans HA4.out.bel.size hI.bel.size))
          · have hA := hp ⟨14, .data⟩ (by simp) rfl
            exact og_op rfl rfl (og_value (run_assign (over_eval _ _ _ (by decide) (by show 59 < 62; omega))) ⟨_, over_put _ _ _ (by decide) _, hI.assigned WF hA⟩)
        · intro L f wz hl hI
          obtain ⟨cs, hcs, hown, hgr⟩ := hI.done (hl 15 (by show 15 < 16; omega))
          have HB : Hid (∃ pv, AIn w P vb (runsG cutA oneA df (l.take (k + 1))).1 (runsG cutA oneA df (l.take (k + 1))).2 (f 7) pv wz) := Lib.hid (by
            rw [HNX.out]
            exact ⟨_, HA4.out.told HROW HROWS.out hgr hcs hown⟩)
          have HLN2 : Hid ((runsG cutA oneA df (l.take (k + 1))).1.2.length ≤ 2147483647 + (k + 1)) := Lib.hid (by rw [HNX.out]; exact hsl)
          clear hI hl hcs hown hgr
          simp only [over, ovl, aD, List.contains, List.elem, Nat.reduceBEq, Bool.false_eq_true, if_false, if_true, Nat.reduceAdd]
          generalize f 7 = v7 at *
          go_wp2_with fail
          go_roundw
          case rel => first | exact ⟨k + 1, by omega, by go_num, HLN2.out, HB.out⟩ | ((repeat apply Exists.intro); exact ⟨⟨k + 1, by omega, by go_num, HLN2.out, HB.out⟩, rfl⟩)
          case measure => simp [intOf]; omega
    by_cases d1 : xd = 1
    · subst d1
      have HW : Hid (AIn w P vb (runsG cutA oneA df (l.take k)).1 (runsG cutA oneA df (l.take k)).2 (.slice ra (runsG cutA oneA df (l.take k)).2.length rc) pv (wr.alloc (.cells #[.int .i64 1, .string xs', .slice ta tn tc] 36))) := Lib.hid (HR.out.later (by (repeat (first | (with_reducible exact Below.refl _ _) | (with_reducible assumption) | ((with_reducible refine Below.alloc ?_ ?_ _); rotate_left; focus ((try simp only [World.size_alloc, size_setCell, World.heap_drewN]); (try omega); done)) | ((with_reducible refine Below.setCell ?_ ?_ _); rotate_left; focus ((try simp only [World.size_alloc, size_setCell, World.heap_drewN]); (try omega); done)) | (with_reducible refine Below.drewN' ?_) | (with_reducible refine Below.drew ?_)))))
      have C := Lib.hid (appendArr_any vb P _ _ _ _ xs' _ HW.out.lv (by have := HLE.out; omega) HW.out.bel.size)
      go_wp2_with fail
      refine C.out.mono ?_
      rintro e w4 ⟨er, pv', rfl, her, hlv, hmv⟩
      have HER := Lib.hid her
      have HA4 := Lib.hid (HW.out.moved (st' := (((runsG cutA oneA df (l.take k)).1.1, (runsG cutA oneA df (l.take k)).1.2 ++ [xs']) : Bool × List ByteArray)) hmv hlv HP1.out HP2.out)
      have HNX : Hid (runsG cutA oneA df (l.take (k + 1)) = ((((runsG cutA oneA df (l.take k)).1.1, (runsG cutA oneA df (l.take k)).1.2 ++ [xs']) : Bool × List ByteArray), (runsG cutA oneA df (l.take k)).2 ++ [(false, (((runsG cutA oneA df (l.take k)).1.1, (runsG cutA oneA df (l.take k)).1.2 ++ [xs']) : Bool × List ByteArray).2)])) := Lib.hid (by rw [HN.out]; rw [runG_yes (.inr (.inl rfl))]; rfl)
      have HLN : Hid ((((runsG cutA oneA df (l.take k)).1.1, (runsG cutA oneA df (l.take k)).1.2 ++ [xs']) : Bool × List ByteArray).2.length ≤ 2147483647 + (k + 1)) := Lib.hid (by have := HLE.out; simp; omega)
      clear her hlv hmv C HW
      obtain ⟨st, hst⟩ : ∃ st : Bool × List ByteArray, (((runsG cutA oneA df (l.take k)).1.1, (runsG cutA oneA df (l.take k)).1.2 ++ [xs']) : Bool × List ByteArray) = st := ⟨_, rfl⟩
      obtain ⟨bad, hbad⟩ : ∃ bad : Bool, false = bad := ⟨_, rfl⟩
      rw [hst] at HA4 HNX HLN
      rw [hbad] at HER HNX
      clear hst hbad
      obtain ⟨outs, houts⟩ : ∃ outs, (runsG cutA oneA df (l.take k)).2 = outs := ⟨_, rfl⟩
      have HOL : Hid (outs.length ≤ k) := Lib.hid (by rw [← houts, runsG_len]; exact Nat.le_trans (List.length_filter_le _ _) (by simp; omega))
      rw [houts] at HA4 HNX ⊢
      clear houts
      obtain ⟨pa, pc, rfl⟩ := row_form HA4.out.lv.row
      obtain ⟨xs, hrow, hrows⟩ := HA4.out.row
      have HROWS := Lib.hid hrows
      have HROW0 := Lib.hid hrow
      clear hrow hrows
      go_upto_region 15 with fail
      all_goals
        have HROW := HROW0.out
        have WF := aN_wf
        have hsl := HLN.out
        have hol := HOL.out
        refine wp_region_og aD (SJ w4 w.heap.size 33 3 (.slice ra outs.length rc) outs.length xs aN (aV (Value.slice ra outs.length rc).ownBlock (.slice ra outs.length rc) er (.slice pa (st.2.map Value.string).length pc) P vb (bad, st.2)) (IPs (fun b => some b = (Value.slice pa (st.2.map Value.string).length pc).ownBlock ∨ some b = (Value.slice ra outs.length rc).ownBlock) (bad, st.2))) (by kernel_rfl) (by kernel_rfl) (SJ.start rfl HROW _ (fun _ => rfl)) ?_ ?_
        · intro i o ho L f wz hl hp hI
          have hi : i < 16 := (Array.getElem?_eq_some_iff.1 ho).1
          have HLV : AV w.heap.size vb P st.1 (.slice pa (st.2.map Value.string).length pc) (st.2.map .string) wz := HA4.out.lv.grown hI.bel HROW (by decide) (by decide) (by decide)
          have hX : ∀ b, (some b = (Value.slice pa (st.2.map Value.string).length pc).ownBlock ∨ some b = (Value.slice ra outs.length rc).ownBlock) → b < wz.heap.size := fun b hb => Nat.lt_of_lt_of_le (hb.elim (fun q => HA4.out.lv.own_lt q) (fun q => row_lt HROW q)) hI.bel.size
          obtain rfl | rfl | rfl | rfl | rfl | rfl | rfl | rfl | rfl | rfl | rfl | rfl | rfl | rfl | rfl | rfl : i = 0 ∨ i = 1 ∨ i = 2 ∨ i = 3 ∨ i = 4 ∨ i = 5 ∨ i = 6 ∨ i = 7 ∨ i = 8 ∨ i = 9 ∨ i = 10 ∨ i = 11 ∨ i = 12 ∨ i = 13 ∨ i = 14 ∨ i = 15 := by omega
          all_goals obtain rfl := Option.some.inj ho
          · have hLC : L 15 = false := by
              cases hc : L 15 with
              | false => rfl
              | true => exact absurd ((hI.oz (hI.r2 hc).1).symm.trans hl) (by decide)
            exact og_op rfl rfl (og_value (run_move ((over_eval _ _ _ (by decide) (by show 7 < 62; omega)).trans (hI.c0 hLC (by decide)))) ⟨_, over_put _ _ _ (by decide) _, hI.pure aV_mono IPs_mono WF (i := 0) (by decide) (Below.refl _ _) rfl⟩)
          · exact og_op rfl rfl (og_value (run_move ((over_eval_out _ _ _ (by decide)).trans rfl)) ⟨_, over_put _ _ _ (by decide) _, hI.pure aV_mono IPs_mono WF (i := 1) (by decide) (Below.refl _ _) rfl⟩)
          · have e1 := hI.v 1 46 (by decide) (hp ⟨1, .data⟩ (by simp) rfl)
            cases bad with
            | true =>
              obtain ⟨t, q, rfl⟩ := HER.out
              exact og_op rfl rfl (og_value (run_neqErr ((over_eval _ _ _ (by decide) (by show 46 < 62; omega)).trans e1) rfl) ⟨_, over_put _ _ _ (by decide) _, hI.pure aV_mono IPs_mono WF (i := 2) (by decide) (Below.refl _ _) rfl⟩)
            | false =>
              have h := HER.out
              simp only [Bool.false_eq_true, if_false] at h
              subst h
              exact og_op rfl rfl (og_value (run_neqNil ((over_eval _ _ _ (by decide) (by show 46 < 62; omega)).trans e1) rfl) ⟨_, over_put _ _ _ (by decide) _, hI.pure aV_mono IPs_mono WF (i := 2) (by decide) (Below.refl _ _) rfl⟩)
          · exact og_op rfl rfl (og_value run_build0 ⟨_, over_put _ _ _ (by decide) _, hI.pure aV_mono IPs_mono WF (i := 3) (by decide) ((Below.refl _ _).alloc (Nat.le_refl _) _) ⟨wz.heap.size, rfl, heap_at _ _ _ rfl, fun q => Nat.lt_irrefl _ (Nat.lt_of_lt_of_le (row_lt HROW q) hI.bel.size)⟩⟩)
          · exact og_op rfl rfl (og_value (run_move ((over_eval_out _ _ _ (by decide)).trans rfl)) ⟨_, over_put _ _ _ (by decide) _, hI.pure aV_mono IPs_mono WF (i := 4) (by decide) (Below.refl _ _) rfl⟩)
          · have e4 := hI.v 4 49 (by decide) (hp ⟨4, .data⟩ (by simp) rfl)
            exact og_op rfl rfl (og_value (run_nilCheck ((over_eval _ _ _ (by decide) (by show 49 < 62; omega)).trans e4)) ⟨_, over_put _ _ _ (by decide) _, hI.pure aV_mono IPs_mono WF (i := 5) (by decide) (Below.refl _ _) rfl⟩)
          · have e5 := hI.v 5 50 (by decide) (hp ⟨5, .data⟩ (by simp) rfl)
            exact og_op rfl rfl (og_value (run_loadL ((over_eval _ _ _ (by decide) (by show 50 < 62; omega)).trans e5) (cell_of_one HLV.p)) ⟨_, over_put _ _ _ (by decide) _, hI.pure aV_mono IPs_mono WF (i := 6) (by decide) (Below.refl _ _) rfl⟩)
          · have e3 := hI.v 3 48 (by decide) (hp ⟨3, .data⟩ (by simp) rfl)
            have e6 := hI.v 6 51 (by decide) (hp ⟨6, .data⟩ (by simp) rfl)
            obtain ⟨q, eq, hq, -⟩ := e3
            refine og_op rfl rfl (wp_append_fresh (.tmp 48) (.tmp 51) 22 9 rfl Tryd.underlying22 infoStr rfl q ((over_eval _ _ _ (by decide) (by show 48 < 62; omega)).trans eq) hq (f 51) (over_eval _ _ _ (by decide) (by show 51 < 62; omega)) (st.2.map .string) (e6 ▸ Vals.owned HLV.row) (by simp [Value.oneCell']) (by unfold maxLen; rw [List.length_map]; omega) (by rw [List.length_map]; omega) ?_)
            intro v' w' hf
            exact ⟨_, over_put _ _ _ (by decide) _, hI.pure aV_mono IPs_mono WF (i := 7) (by decide) hf.below (hf.snap hX)⟩
          · exact og_op rfl rfl (og_value run_build0 ⟨_, over_put _ _ _ (by decide) _, hI.pure aV_mono IPs_mono WF (i := 8) (by decide) ((Below.refl _ _).alloc (Nat.le_refl _) _) ⟨wz.heap.size, rfl, heap_at _ _ _ rfl, fun q => Nat.lt_irrefl _ (Nat.lt_of_lt_of_le (row_lt HROW q) hI.bel.size)⟩⟩)
          · exact og_op rfl rfl (og_value (run_move ((over_eval_out _ _ _ (by decide)).trans rfl)) ⟨_, over_put _ _ _ (by decide) _, hI.pure aV_mono IPs_mono WF (i := 9) (by decide) (Below.refl _ _) rfl⟩)
          · have e9 := hI.v 9 54 (by decide) (hp ⟨9, .data⟩ (by simp) rfl)
            refine og_op rfl rfl (og_call (run_call1 ((over_eval _ _ _ (by decide) (by show 54 < 62; omega)).trans e9) rfl (fun args => by simp [go_sem])) ?_)
            refine (getArr_any vb P _ _ _ _ wz HLV (by omega)).mono ?_
            rintro e w' ⟨g, rfl, hf⟩
            have hf' : Fill 9 (.string ⟨#[]⟩) wz g (st.2.map .string) (st.2.map Value.string).length w' := by simpa using hf
            refine ⟨_, rfl, ⟨_, over_put _ _ _ (by decide) _, hI.pure aV_mono IPs_mono WF (i := 10) (by decide) hf.bel (by have hs := hf'.snap hX; simp only [List.length_map] at hs ⊢; exact hs)⟩⟩
          · have e8 := hI.v 8 53 (by decide) (hp ⟨8, .data⟩ (by simp) rfl)
            have e10 := hI.v 10 55 (by decide) (hp ⟨10, .data⟩ (by simp) rfl)
            obtain ⟨q, eq, hq, -⟩ := e8
            refine og_op rfl rfl (wp_append_fresh (.tmp 53) (.tmp 55) 22 9 rfl Tryd.underlying22 infoStr rfl q ((over_eval _ _ _ (by decide) (by show 53 < 62; omega)).trans eq) hq (f 55) (over_eval _ _ _ (by decide) (by show 55 < 62; omega)) (st.2.map .string) (Snap.vals e10) (by simp [Value.oneCell']) (by unfold maxLen; rw [List.length_map]; omega) (by rw [List.length_map]; omega) ?_)
            intro v' w' hf
            exact ⟨_, over_put _ _ _ (by decide) _, hI.pure aV_mono IPs_mono WF (i := 11) (by decide) hf.below (hf.snap hX)⟩
          · have e2 := hI.v 2 47 (by decide) (hp ⟨2, .data⟩ (by simp) rfl)
            have e7 := hI.v 7 52 (by decide) (hp ⟨7, .data⟩ (by simp) rfl)
            have e11 := hI.v 11 56 (by decide) (hp ⟨11, .data⟩ (by simp) rfl)
            obtain ⟨a1, k1, f1⟩ := Snap.form e7
            obtain ⟨a2, k2, f2⟩ := Snap.form e11
            exact og_op rfl rfl (og_value (run_buildT ((over_eval _ _ _ (by decide) (by show 47 < 62; omega)).trans e2) ((over_eval _ _ _ (by decide) (by show 52 < 62; omega)).trans f1) ((over_eval _ _ _ (by decide) (by show 56 < 62; omega)).trans f2)) ⟨_, over_put _ _ _ (by decide) _, hI.pure aV_mono IPs_mono WF (i := 12) (by decide) (Below.refl _ _) ⟨_, _, rfl, f1 ▸ e7, f2 ▸ e11⟩⟩)
          · have e12 := hI.v 12 57 (by decide) (hp ⟨12, .data⟩ (by simp) rfl)
            obtain ⟨v1, v2, ea, s1, s2⟩ := e12
            obtain ⟨a1, k1, rfl⟩ := s1.form
            obtain ⟨a2, k2, rfl⟩ := s2.form
            exact og_op rfl rfl (og_value (run_buildSliceT ((over_eval _ _ _ (by decide) (by show 57 < 62; omega)).trans ea)) ⟨_, over_put _ _ _ (by decide) _, hI.built aV_mono IPs_mono WF hl _ ⟨_, _, rfl, s1, s2⟩⟩)
          · have e0 := hI.v 0 45 (by decide) (hp ⟨0, .data⟩ (by simp) rfl)
            have hB := hp ⟨13, .data⟩ (by simp) rfl
            have hZ := hp ⟨0, .data⟩ (by simp) rfl
            exact og_op rfl rfl (hI.append aV_mono IPs_mono WF hl hB hZ (.tmp 45) (.tmp 58) rfl rfl (by decide) Tryd.underlying29 infoT rfl (by omega) ((over_eval _ _ _ (by decide) (by show 45 < 62; omega)).trans e0) (over_eval _ _ _ (by decide) (by show 58 < 62; omega)) (fun cs w h => h.good) (by unfold maxLen; omega) (by omega) (Nat.le_trans HA4.out.bel.size hI.bel.size))
          · have hA := hp ⟨14, .data⟩ (by simp) rfl
            exact og_op rfl rfl (og_value (run_assign (over_eval _ _ _ (by decide) (by show 59 < 62; omega))) ⟨_, over_put _ _ _ (by decide) _, hI.assigned WF hA⟩)
        · intro L f wz hl hI
          obtain ⟨cs, hcs, hown, hgr⟩ := hI.done (hl 15 (by show 15 < 16; omega))
          have HB : Hid (∃ pv, AIn w P vb (runsG cutA oneA df (l.take (k + 1))).1 (runsG cutA oneA df (l.take (k + 1))).2 (f 7) pv wz) := Lib.hid (by
            rw [HNX.out]
            exact ⟨_, HA4.out.told HROW HROWS.out hgr hcs hown⟩)
          have HLN2 : Hid ((runsG cutA oneA df (l.take (k + 1))).1.2.length ≤ 2147483647 + (k + 1)) := Lib.hid (by rw [HNX.out]; exact hsl)
          clear hI hl hcs hown hgr
          simp only [over, ovl, aD, List.contains, List.elem, Nat.reduceBEq, Bool.false_eq_true, if_false, if_true, Nat.reduceAdd]
          generalize f 7 = v7 at *
          go_wp2_with fail
          go_roundw
          case rel => first | exact ⟨k + 1, by omega, by go_num, HLN2.out, HB.out⟩ | ((repeat apply Exists.intro); exact ⟨⟨k + 1, by omega, by go_num, HLN2.out, HB.out⟩, rfl⟩)
          case measure => simp [intOf]; omega
    by_cases d2 : xd = 2
    · subst d2
      have HW5 : Hid (AIn w P vb (runsG cutA oneA df (l.take k)).1 (runsG cutA oneA df (l.take k)).2 (.slice ra (runsG cutA oneA df (l.take k)).2.length rc) pv ((wr.alloc (.cells #[.int .i64 2, .string xs', .slice ta tn tc] 36)).alloc (.cells #[] 9))) := Lib.hid (HR.out.later (by (repeat (first | (with_reducible exact Below.refl _ _) | (with_reducible assumption) | ((with_reducible refine Below.alloc ?_ ?_ _); rotate_left; focus ((try simp only [World.size_alloc, size_setCell, World.heap_drewN]); (try omega); done)) | ((with_reducible refine Below.setCell ?_ ?_ _); rotate_left; focus ((try simp only [World.size_alloc, size_setCell, World.heap_drewN]); (try omega); done)) | (with_reducible refine Below.drewN' ?_) | (with_reducible refine Below.drew ?_)))))
      have H35 : Hid (Strs ((wr.alloc (.cells #[.int .i64 2, .string xs', .slice ta tn tc] 36)).alloc (.cells #[] 9)) (.slice ta tn tc) xl) := Lib.hid ((H3.out.alloc _).alloc _)
      go_wp2_with (at_builtin; refine wpList_append_fresh (by rfl) _ _ 22 9 (by rfl) Tryd.underlying22 infoStr rfl _ (by rfl) (heap_at _ _ _ (by (simp only [World.size_alloc, size_setCell, World.heap_drewN]))) _ (by rfl) (xl.map .string) (Strs.vals H35.out) (by simp [Value.oneCell']) (by unfold maxLen; rw [List.length_map]; omega) (by rw [List.length_map]; omega) ?_; intro v3 w6 hf6)
      have HW : Hid (AIn w P vb (runsG cutA oneA df (l.take k)).1 (runsG cutA oneA df (l.take k)).2 (.slice ra (runsG cutA oneA df (l.take k)).2.length rc) pv w6) := Lib.hid (HW5.out.later hf6.below)
      have C := Lib.hid (replaceArr_any vb P _ _ _ _ v3 xl w6 HW.out.lv (Vals.strs hf6.vals) (by omega) HW.out.bel.size)
      clear hf6 HW5 H35
      refine C.out.mono ?_
      rintro e w4 ⟨er, pv', rfl, her, hlv, hmv⟩
      have HER := Lib.hid her
      have HA4 := Lib.hid (HW.out.moved (st' := (((runsG cutA oneA df (l.take k)).1.1, xl) : Bool × List ByteArray)) hmv hlv HP1.out HP2.out)
      have HNX : Hid (runsG cutA oneA df (l.take (k + 1)) = ((((runsG cutA oneA df (l.take k)).1.1, xl) : Bool × List ByteArray), (runsG cutA oneA df (l.take k)).2 ++ [(false, (((runsG cutA oneA df (l.take k)).1.1, xl) : Bool × List ByteArray).2)])) := Lib.hid (by rw [HN.out]; rw [runG_yes (.inr (.inr rfl))]; simp [stepG, eachA])
      have HLN : Hid ((((runsG cutA oneA df (l.take k)).1.1, xl) : Bool × List ByteArray).2.length ≤ 2147483647 + (k + 1)) := Lib.hid (by simp; omega)
      clear her hlv hmv C HW
      obtain ⟨st, hst⟩ : ∃ st : Bool × List ByteArray, (((runsG cutA oneA df (l.take k)).1.1, xl) : Bool × List ByteArray) = st := ⟨_, rfl⟩
      obtain ⟨bad, hbad⟩ : ∃ bad : Bool, false = bad := ⟨_, rfl⟩
      rw [hst] at HA4 HNX HLN
      rw [hbad] at HER HNX
      clear hst hbad
      obtain ⟨outs, houts⟩ : ∃ outs, (runsG cutA oneA df (l.take k)).2 = outs := ⟨_, rfl⟩
      have HOL : Hid (outs.length ≤ k) := Lib.hid (by rw [← houts, runsG_len]; exact Nat.le_trans (List.length_filter_le _ _) (by simp; omega))
      rw [houts] at HA4 HNX ⊢
      clear houts
      obtain ⟨pa, pc, rfl⟩ := row_form HA4.out.lv.row
      obtain ⟨xs, hrow, hrows⟩ := HA4.out.row
      have HROWS := Lib.hid hrows
      have HROW0 := Lib.hid hrow
      clear hrow hrows
      go_upto_region 15 with fail
      all_goals
        have HROW := HROW0.out
        have WF := aN_wf
        have hsl := HLN.out
        have hol := HOL.out
        refine wp_region_og aD (SJ w4 w.heap.size 33 3 (.slice ra outs.length rc) outs.length xs aN (aV (Value.slice ra outs.length rc).ownBlock (.slice ra outs.length rc) er (.slice pa (st.2.map Value.string).length pc) P vb (bad, st.2)) (IPs (fun b => some b = (Value.slice pa (st.2.map Value.string).length pc).ownBlock ∨ some b = (Value.slice ra outs.length rc).ownBlock) (bad, st.2))) (by kernel_rfl) (by kernel_rfl) (SJ.start rfl HROW _ (fun _ => rfl)) ?_ ?_
        · intro i o ho L f wz hl hp hI
          have hi : i < 16 := (Array.getElem?_eq_some_iff.1 ho).1
          have HLV : AV w.heap.size vb P st.1 (.slice pa (st.2.map Value.string).length pc) (st.2.map .string) wz := HA4.out.lv.grown hI.bel HROW (by decide) (by decide) (by decide)
          have hX : ∀ b, (some b = (Value.slice pa (st.2.map Value.string).length pc).ownBlock ∨ some b = (Value.slice ra outs.length rc).ownBlock) → b < wz.heap.size := fun b hb => Nat.lt_of_lt_of_le (hb.elim (fun q => HA4.out.lv.own_lt q) (fun q => row_lt HROW q)) hI.bel.size
          obtain rfl | rfl | rfl | rfl | rfl | rfl | rfl | rfl | rfl | rfl | rfl | rfl | rfl | rfl | rfl | rfl : i = 0 ∨ i = 1 ∨ i = 2 ∨ i = 3 ∨ i = 4 ∨ i = 5 ∨ i = 6 ∨ i = 7 ∨ i = 8 ∨ i = 9 ∨ i = 10 ∨ i = 11 ∨ i = 12 ∨ i = 13 ∨ i = 14 ∨ i = 15 := by omega
          all_goals obtain rfl := Option.some.inj ho
          · have hLC : L 15 = false := by
              cases hc : L 15 with
              | false => rfl
              | true => exact absurd ((hI.oz (hI.r2 hc).1).symm.trans hl) (by decide)
            exact og_op rfl rfl (og_value (run_move ((over_eval _ _ _ (by decide) (by show 7 < 62; omega)).trans (hI.c0 hLC (by decide)))) ⟨_, over_put _ _ _ (by decide) _, hI.pure aV_mono IPs_mono WF (i := 0) (by decide) (Below.refl _ _) rfl⟩)
          · exact og_op rfl rfl (og_value (run_move ((over_eval_out _ _ _ (by decide)).trans rfl)) ⟨_, over_put _ _ _ (by decide) _, hI.pure aV_mono IPs_mono WF (i := 1) (by decide) (Below.refl _ _) rfl⟩)
          · have e1 := hI.v 1 46 (by decide) (hp ⟨1, .data⟩ (by simp) rfl)
            cases bad with
            | true =>
              obtain ⟨t, q, rfl⟩ := HER.out
              exact og_op rfl rfl (og_value (run_neqErr ((over_eval _ _ _ (by decide) (by show 46 < 62; omega)).trans e1) rfl) ⟨_, over_put _ _ _ (by decide) _, hI.pure aV_mono IPs_mono WF (i := 2) (by decide) (Below.refl _ _) rfl⟩)
            | false =>
              have h := HER.out
              simp only [Bool.false_eq_true, if_false] at h
              subst h
              exact og_op rfl rfl (og_value (run_neqNil ((over_eval _ _ _ (by decide) (by show 46 < 62; omega)).trans e1) rfl) ⟨_, over_put _ _ _ (by decide) _, hI.pure aV_mono IPs_mono WF (i := 2) (by decide) (Below.refl _ _) rfl⟩)
          · exact og_op rfl rfl (og_value run_build0 ⟨_, over_put _ _ _ (by decide) _, hI.pure aV_mono IPs_mono WF (i := 3) (by decide) ((Below.refl _ _).alloc (Nat.le_refl _) _) ⟨wz.heap.size, rfl, heap_at _ _ _ rfl, fun q => Nat.lt_irrefl _ (Nat.lt_of_lt_of_le (row_lt HROW q) hI.bel.size)⟩⟩)
          · exact og_op rfl rfl (og_value (run_move ((over_eval_out _ _ _ (by decide)).trans rfl)) ⟨_, over_put _ _ _ (by decide) _, hI.pure aV_mono IPs_mono WF (i := 4) (by decide) (Below.refl _ _) rfl⟩)
          · have e4 := hI.v 4 49 (by decide) (hp ⟨4, .data⟩ (by simp) rfl)
            exact og_op rfl rfl (og_value (run_nilCheck ((over_eval _ _ _ (by decide) (by show 49 < 62; omega)).trans e4)) ⟨_, over_put _ _ _ (by decide) _, hI.pure aV_mono IPs_mono WF (i := 5) (by decide) (Below.refl _ _) rfl⟩)
          · have e5 := hI.v 5 50 (by decide) (hp ⟨5, .data⟩ (by simp) rfl)
            exact og_op rfl rfl (og_value (run_loadL ((over_eval _ _ _ (by decide) (by show 50 < 62; omega)).trans e5) (cell_of_one HLV.p)) ⟨_, over_put _ _ _ (by decide) _, hI.pure aV_mono IPs_mono WF (i := 6) (by decide) (Below.refl _ _) rfl⟩)
          · have e3 := hI.v 3 48 (by decide) (hp ⟨3, .data⟩ (by simp) rfl)
            have e6 := hI.v 6 51 (by decide) (hp ⟨6, .data⟩ (by simp) rfl)
            obtain ⟨q, eq, hq, -⟩ := e3
            refine og_op rfl rfl (wp_append_fresh (.tmp 48) (.tmp 51) 22 9 rfl Tryd.underlying22 infoStr rfl q ((over_eval _ _ _ (by decide) (by show 48 < 62; omega)).trans eq) hq (f 51) (over_eval _ _ _ (by decide) (by show 51 < 62; omega)) (st.2.map .string) (e6 ▸ Vals.owned HLV.row) (by simp [Value.oneCell']) (by unfold maxLen; rw [List.length_map]; omega) (by rw [List.length_map]; omega) ?_)
            intro v' w' hf
            exact ⟨_, over_put _ _ _ (by decide) _, hI.pure aV_mono IPs_mono WF (i := 7) (by decide) hf.below (hf.snap hX)⟩
          · exact og_op rfl rfl (og_value run_build0 ⟨_, over_put _ _ _ (by decide) _, hI.pure aV_mono IPs_mono WF (i := 8) (by decide) ((Below.refl _ _).alloc (Nat.le_refl _) _) ⟨wz.heap.size, rfl, heap_at _ _ _ rfl, fun q => Nat.lt_irrefl _ (Nat.lt_of_lt_of_le (row_lt HROW q) hI.bel.size)⟩⟩)
          · exact og_op rfl rfl (og_value (run_move ((over_eval_out _ _ _ (by decide)).trans rfl)) ⟨_, over_put _ _ _ (by decide) _, hI.pure aV_mono IPs_mono WF (i := 9) (by decide) (Below.refl _ _) rfl⟩)
          · have e9 := hI.v 9 54 (by decide) (hp ⟨9, .data⟩ (by simp) rfl)
            refine og_op rfl rfl (og_call (run_call1 ((over_eval _ _ _ (by decide) (by show 54 < 62; omega)).trans e9) rfl (fun args => by simp [go_sem])) ?_)
            refine (getArr_any vb P _ _ _ _ wz HLV (by omega)).mono ?_
            rintro e w' ⟨g, rfl, hf⟩
            have hf' : Fill 9 (.string ⟨#[]⟩) wz g (st.2.map .string) (st.2.map Value.string).length w' := by simpa using hf
            refine ⟨_, rfl, ⟨_, over_put _ _ _ (by decide) _, hI.pure aV_mono IPs_mono WF (i := 10) (by decide) hf.bel (by have hs := hf'.snap hX; simp only [List.length_map] at hs ⊢; exact hs)⟩⟩
          · have e8 := hI.v 8 53 (by decide) (hp ⟨8, .data⟩ (by simp) rfl)
            have e10 := hI.v 10 55 (by decide) (hp ⟨10, .data⟩ (by simp) rfl)
            obtain ⟨q, eq, hq, -⟩ := e8
            refine og_op rfl rfl (wp_append_fresh (.tmp 53) (.tmp 55) 22 9 rfl Tryd.underlying22 infoStr rfl q ((over_eval _ _ _ (by decide) (by show 53 < 62; omega)).trans eq) hq (f 55) (over_eval _ _ _ (by decide) (by show 55 < 62; omega)) (st.2.map .string) (Snap.vals e10) (by simp [Value.oneCell']) (by unfold maxLen; rw [List.length_map]; omega) (by rw [List.length_map]; omega) ?_)
            intro v' w' hf
            exact ⟨_, over_put _ _ _ (by decide) _, hI.pure aV_mono IPs_mono WF (i := 11) (by decide) hf.below (hf.snap hX)⟩
          · have e2 := hI.v 2 47 (by decide) (hp ⟨2, .data⟩ (by simp) rfl)
            have e7 := hI.v 7 52 (by decide) (hp ⟨7, .data⟩ (by simp) rfl)
            have e11 := hI.v 11 56 (by decide) (hp ⟨11, .data⟩ (by simp) rfl)
            obtain ⟨a1, k1, f1⟩ := Snap.form e7
            obtain ⟨a2, k2, f2⟩ := Snap.form e11
            exact og_op rfl rfl (og_value (run_buildT ((over_eval _ _ _ (by decide) (by show 47 < 62; omega)).trans e2) ((over_eval _ _ _ (by decide) (by show 52 < 62; omega)).trans f1) ((over_eval _ _ _ (by decide) (by show 56 < 62; omega)).trans f2)) ⟨_, over_put _ _ _ (by decide) _, hI.pure aV_mono IPs_mono WF (i := 12) (by decide) (Below.refl _ _) ⟨_, _, rfl, f1 ▸ e7, f2 ▸ e11⟩⟩)
          · have e12 := hI.v 12 57 (by decide) (hp ⟨12, .data⟩ (by simp) rfl)
            obtain ⟨v1, v2, ea, s1, s2⟩ := e12
            obtain ⟨a1, k1, rfl⟩ := s1.form
            obtain ⟨a2, k2, rfl⟩ := s2.form
            exact og_op rfl rfl (og_value (run_buildSliceT ((over_eval _ _ _ (by decide) (by show 57 < 62; omega)).trans ea)) ⟨_, over_put _ _ _ (by decide) _, hI.built aV_mono IPs_mono WF hl _ ⟨_, _, rfl, s1, s2⟩⟩)
          · have e0 := hI.v 0 45 (by decide) (hp ⟨0, .data⟩ (by simp) rfl)
            have hB := hp ⟨13, .data⟩ (by simp) rfl
            have hZ := hp ⟨0, .data⟩ (by simp) rfl
            exact og_op rfl rfl (hI.append aV_mono IPs_mono WF hl hB hZ (.tmp 45) (.tmp 58) rfl rfl (by decide) Tryd.underlying29 infoT rfl (by omega) ((over_eval _ _ _ (by decide) (by show 45 < 62; omega)).trans e0) (over_eval _ _ _ (by decide) (by show 58 < 62; omega)) (fun cs w h => h.good) (by unfold maxLen; omega) (by omega) (Nat.le_trans HA4.out.bel.size hI.bel.size))
          · have hA := hp ⟨14, .data⟩ (by simp) rfl
            exact og_op rfl rfl (og_value (run_assign (over_eval _ _ _ (by decide) (by show 59 < 62; omega))) ⟨_, over_put _ _ _ (by decide) _, hI.assigned WF hA⟩)
        · intro L f wz hl hI
          obtain ⟨cs, hcs, hown, hgr⟩ := hI.done (hl 15 (by show 15 < 16; omega))
          have HB : Hid (∃ pv, AIn w P vb (runsG cutA oneA df (l.take (k + 1))).1 (runsG cutA oneA df (l.take (k + 1))).2 (f 7) pv wz) := Lib.hid (by
            rw [HNX.out]
            exact ⟨_, HA4.out.told HROW HROWS.out hgr hcs hown⟩)
          have HLN2 : Hid ((runsG cutA oneA df (l.take (k + 1))).1.2.length ≤ 2147483647 + (k + 1)) := Lib.hid (by rw [HNX.out]; exact hsl)
          clear hI hl hcs hown hgr
          simp only [over, ovl, aD, List.contains, List.elem, Nat.reduceBEq, Bool.false_eq_true, if_false, if_true, Nat.reduceAdd]
          generalize f 7 = v7 at *
          go_wp2_with fail
          go_roundw
          case rel => first | exact ⟨k + 1, by omega, by go_num, HLN2.out, HB.out⟩ | ((repeat apply Exists.intro); exact ⟨⟨k + 1, by omega, by go_num, HLN2.out, HB.out⟩, rfl⟩)
          case measure => simp [intOf]; omega
    · have e0 : decide (xd = 0) = false := decide_eq_false d0
      have e1 : decide (xd = 1) = false := decide_eq_false d1
      have e2 : decide (xd = 2) = false := decide_eq_false d2
      have HB : Hid (∃ pv, AIn w P vb (runsG cutA oneA df (l.take (k + 1))).1 (runsG cutA oneA df (l.take (k + 1))).2 (.slice ra (runsG cutA oneA df (l.take k)).2.length rc) pv (wr.alloc (.cells #[.int .i64 xd, .string xs', .slice ta tn tc] 36))) := Lib.hid (by
        rw [HN.out, runG_no d0 d1 d2]
        exact ⟨_, HR.out.later (by (repeat (first | (with_reducible exact Below.refl _ _) | (with_reducible assumption) | ((with_reducible refine Below.alloc ?_ ?_ _); rotate_left; focus ((try simp only [World.size_alloc, size_setCell, World.heap_drewN]); (try omega); done)) | ((with_reducible refine Below.setCell ?_ ?_ _); rotate_left; focus ((try simp only [World.size_alloc, size_setCell, World.heap_drewN]); (try omega); done)) | (with_reducible refine Below.drewN' ?_) | (with_reducible refine Below.drew ?_))))⟩)
      have HLN2 : Hid ((runsG cutA oneA df (l.take (k + 1))).1.2.length ≤ 2147483647 + (k + 1)) := Lib.hid (by rw [HN.out, runG_no d0 d1 d2]; exact Nat.le_succ_of_le HLE.out)
      go_wp2_with fail
      go_roundw
      case rel => first | exact ⟨k + 1, by omega, by go_num, HLN2.out, HB.out⟩ | ((repeat apply Exists.intro); exact ⟨⟨k + 1, by omega, by go_num, HLN2.out, HB.out⟩, rfl⟩)
      case measure => simp [intOf]; omega
end Go.Proofs.YtechagcodmiliaaDoor
