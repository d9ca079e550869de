/- What a list of numbers is to be behind each step: wants29[int64]. (Printed by gen_nl3.py.) -/
import Derived.Test.YtlnnmionbflolaaDoorNlBI
import Derived.Test.YtlnnmionbflolaaDoorWh1j
namespace Go.Proofs.YtlnnmionbflolaaDoor
open Go.RowKit
set_option linter.unusedVariables false
set_option linter.unusedSimpArgs false

theorem infoW : (Tryd.prog.info? 92).map (fun i => (i.zero, i.size, i.bytes)) = some (some (.agg #[.bool false, .slice none 0 0]), 2, 32) := by kernel_rfl
/-- 1: it is; 2: it is not. -/
def isN (no : Bool) : Int := if no then 2 else 1
/-- The items that are handed back. -/
def ListIs (R : Option (List Int)) (rv : Value) (base : Nat) (w : World) : Prop :=
  match R with
  | none => rv = .slice none 0 0
  | some xs => w.ownsRow base 2 1 rv xs.length (xs.map (Value.int .i64))
theorem ListIs.form {R : Option (List Int)} {rv : Value} {base : Nat} {w : World} (h : ListIs R rv base w) : ∃ a n c, rv = .slice a n c := by
  cases R with
  | none => exact ⟨_, _, _, h⟩
  | some xs =>
    obtain ⟨a, c, e⟩ := row_form h
    exact ⟨_, _, _, e⟩
theorem ListIs.lower {R : Option (List Int)} {rv : Value} {base b : Nat} {w : World} (h : ListIs R rv base w) (hb : b ≤ base) : ListIs R rv b w := by
  cases R with
  | none => exact h
  | some xs => exact row_lower h hb
set_option maxRecDepth 100000 in
theorem one_any (t : ByteArray) (hs : t.size ≤ 2147483647) (w : World) :
    ∃ v, (∀ n, oneN t = some n → v = n) ∧ Calls Tryd.prog 15 #[.string t] w fun e w' => e = .returned (.tuple #[.int .i64 v, .int .i64 (isN (oneN t).isNone)]) ∧ Below w.heap.size w w' := by
  have C := Lib.hid (wh32_any t hs w)
  obtain ⟨q1, q2⟩ := wF_pi (C := 2147483648) (M := 4294967295) (by decide) (by decide) t.data.toList
  have HV : Hid (∀ n, oneN t = some n → (wF 2147483648 t.data.toList).1 = n) := Lib.hid (fun n h => by
    unfold oneN numI at h
    split at h
    · rename_i h0
      cases h
      rw [q1 h0]
    · cases h)
  have HI : Hid (((wF 2147483648 t.data.toList).2 : Int) = isN (oneN t).isNone) := Lib.hid (by
    unfold oneN numI
    by_cases h0 : (pi0 2147483648 4294967295 t.data.toList).2 = 0
    · rw [if_pos h0, q1 h0]; rfl
    · rw [if_neg h0, q2 h0]; rfl)
  refine ⟨(wF 2147483648 t.data.toList).1, HV.out, ?_⟩
  have hC := C.out
  rw [HI.out] at hC
  generalize (wF 2147483648 t.data.toList).1 = v at *
  generalize isN (oneN t).isNone = i at *
  have C2 := Lib.hid hC
  clear C q1 q2 HV HI hC
  go_enter Tryd.func15, Tryd.ntmps15
  go_wp2_with fail
  refine C2.out.mono ?_
  rintro e w2 ⟨rfl, hb⟩
  have HB := Lib.hid hb
  clear hb
  go_wp2_with fail
  go_ret2
  exact ⟨rfl, HB.out⟩

set_option maxRecDepth 100000 in
set_option maxHeartbeats 1600000 in
theorem eachN_any (v : Value) (l : List ByteArray) (w : World) (hv : Strs w v l) (hl : l.length ≤ 1073741824) (hs : ∀ t ∈ l, t.size ≤ 1073741824) :
    Calls Tryd.prog 45 #[v, .func (.func 15) #[] #[]] w fun e w' => ∃ rv, e = .returned (.tuple #[rv, .int .i64 (isN (eachG oneN l).isNone)]) ∧ ListIs (eachG oneN l) rv w.heap.size w' ∧ Below w.heap.size w w' := by
  obtain ⟨a, cap, rfl⟩ := hv.len
  have HV := Lib.hid (fun W (h : Below w.heap.size w W) => hv.later h.block)
  have HS := Lib.hid hs
  obtain ⟨R, hR⟩ : ∃ R, R = eachG oneN l := ⟨_, rfl⟩
  rw [← hR]
  have HRR := Lib.hid hR
  clear hv hs hR
  go_enter Tryd.func45, Tryd.ntmps45
  have H0 : Hid ((w.alloc (.cells #[] 2)).ownsRow w.heap.size 2 1 (.slice (some ⟨w.heap.size, 0, none⟩) 0 0) 0 [] ∧ Below w.heap.size w (w.alloc (.cells #[] 2))) := Lib.hid
    ⟨⟨rfl, .inr ⟨w.heap.size, 0, #[], rfl, Nat.le_refl _, heap_at _ _ _ rfl, Nat.le_refl _, Nat.zero_le _, rfl, rfl⟩⟩, (Below.refl _ _).alloc (Nat.le_refl _) _⟩
  go_wp2_with fail
  go_loopw [6, 8, 9, 10, 14] (fun vo _ _ _ vi wr => ∃ k : Nat, k ≤ l.length ∧ vi = .int .i64 k ∧ Hid (∀ i (h : i < l.length), i < k → oneN l[i] ≠ none) ∧ wr.ownsRow w.heap.size 2 1 vo k (((l.take k).map gN).map (Value.int .i64)) ∧ Below w.heap.size w wr) (fun _ _ _ _ vi _ => l.length - (intOf vi).toNat)
  case atStart => exact ⟨0, Nat.zero_le _, rfl, Lib.hid (fun i _ hi => by omega), H0.out⟩
  case round =>
    obtain ⟨k, hk, rfl, hno, hr⟩ := hrel
    obtain ⟨ra, rc, rfl⟩ := row_form hr.1
    have HR := Lib.hid hr
    clear hr
    by_cases hlt : k < l.length
    case neg =>
      have ek : k = l.length := by omega
      have HF : Hid (∃ xs, R = some xs ∧ wr.ownsRow w.heap.size 2 1 (.slice ra k rc) xs.length (xs.map (Value.int .i64)) ∧ Below w.heap.size w wr) := Lib.hid (by
        subst ek
        have := HR.out
        rw [List.take_length] at this
        refine ⟨_, HRR.out.trans (each_yes l (fun i hi => hno.out i hi hi)), ?_, this.2⟩
        simpa using this.1)
      clear ek hno
      obtain ⟨xs, hR, hx⟩ := HF.out
      subst hR
      have HX := Lib.hid hx
      clear hx HF
      go_wp2_with fail
      go_ret2
      exact ⟨_, rfl, HX.out⟩
    obtain ⟨tb, tof, rfl, hc⟩ := (HV.out wr HR.out.2).cell (by omega)
    have hck := hc k hlt
    have hsz := HS.out l[k] (List.getElem_mem hlt)
    have HT : Hid (((l.take (k + 1)).map gN).map (Value.int .i64) = ((l.take k).map gN).map (Value.int .i64) ++ [.int .i64 (gN l[k])]) := Lib.hid (by rw [List.take_succ_eq_append_getElem hlt, List.map_append, List.map_append]; rfl)
    obtain ⟨v, hv, hC⟩ := one_any l[k] (by omega) wr
    have C := Lib.hid hC
    have HNK : Hid (oneN l[k] = none → eachG oneN l = none) := Lib.hid (each_no l k hlt)
    have HYK : Hid (oneN l[k] ≠ none → ∀ i (h : i < l.length), i < k + 1 → oneN l[i] ≠ none) := Lib.hid (fun hx i h hi => by
      by_cases e : i = k
      · subst e; exact hx
      · exact hno.out i h (by omega))
    have HGN : Hid (gN l[k] = (oneN l[k]).getD 0) := Lib.hid rfl
    clear hc hC hno
    generalize l[k] = t at *
    cases hnum : oneN t with
    | none =>
      rw [hnum] at C
      have HF : Hid (R = none) := Lib.hid (HRR.out.trans (HNK.out hnum))
      have hF := HF.out
      subst hF
      clear HYK HNK HF hv
      simp only [isN] at C
      go_wp2_with fail
      refine C.out.mono ?_
      rintro e w4 ⟨rfl, hb4⟩
      have HB4 := Lib.hid (Below.after HR.out.2 hb4)
      clear hb4
      go_wp2_with fail
      go_ret2
      exact ⟨_, rfl, rfl, HB4.out⟩
    | some n =>
      rw [hnum] at C
      obtain rfl := hv n hnum
      have HY := Lib.hid (HYK.out (by rw [hnum]; simp))
      have HGV : Hid (gN t = v) := Lib.hid (by rw [HGN.out, hnum]; rfl)
      rw [HGV.out] at HT
      clear hv HYK HNK HGN hnum
      simp only [isN] at C
      obtain ⟨i0, hi0, hz0, hz1, hz2⟩ := info_parts infoL
      go_wp2_with fail
      refine C.out.mono ?_
      rintro e w4 ⟨rfl, hb4⟩
      have HR4 : Hid (w4.ownsRow w.heap.size 2 1 (.slice ra k rc) k (((l.take k).map gN).map (Value.int .i64)) ∧ Below w.heap.size w w4) := Lib.hid ⟨row_grow HR.out.1 hb4, Below.after HR.out.2 hb4⟩
      clear hb4
      go_wp2_with (at_builtin; refine wpList_append_lies _ (by rfl) _ _ _ (by rfl) w.heap.size 2 i0 _ 1 8 Tryd.underlying39 hi0 hz0 hz1 hz2 rfl (by omega) (.slice ra k rc) k (((l.take k).map gN).map (Value.int .i64)) (by rfl) (row_grow HR4.out.1 (by (repeat (first | (with_reducible exact Below.refl _ _) | (with_reducible assumption) | ((with_reducible refine Below.alloc ?_ ?_ _); rotate_left; focus ((try simp only [World.size_alloc, size_setCell, World.heap_drewN]); (try omega); done)) | ((with_reducible refine Below.setCell ?_ ?_ _); rotate_left; focus ((try simp only [World.size_alloc, size_setCell, World.heap_drewN]); (try omega); done)) | (with_reducible refine Below.drewN' ?_) | (with_reducible refine Below.drew ?_))))) ⟨w4.heap.size, 0, none⟩ 1 1 [.int .i64 v] (by rfl) (by rfl) (news_lies (heap_at _ _ _ rfl) (by rfl)) (by simp [Value.oneCell']) (by omega) (by unfold maxLen; omega) (by omega) (by have := HR4.out.2.size; simp only [World.size_alloc]; omega) _ rfl ?_; intro g cap2 w2 hown hgrow hat hlt2)
      have HB : Hid (w2.ownsRow w.heap.size 2 1 (.slice (some ⟨g, 0, none⟩) (k + 1) cap2) (k + 1) (((l.take (k + 1)).map gN).map (Value.int .i64)) ∧ Below w.heap.size w w2) := Lib.hid (by
        rw [HT.out]
        refine ⟨hown, ?_⟩
        have hb1 : Below w4.heap.size w4 (w4.alloc (.cells #[.int .i64 v] 2)) := by (repeat (first | (with_reducible exact Below.refl _ _) | (with_reducible assumption) | ((with_reducible refine Below.alloc ?_ ?_ _); rotate_left; focus ((try simp only [World.size_alloc, size_setCell, World.heap_drewN]); (try omega); done)) | ((with_reducible refine Below.setCell ?_ ?_ _); rotate_left; focus ((try simp only [World.size_alloc, size_setCell, World.heap_drewN]); (try omega); done)) | (with_reducible refine Below.drewN' ?_) | (with_reducible refine Below.drew ?_)))
        exact grown_below (HR4.out.2.trans (hb1.mono HR4.out.2.size)) (Nat.le_trans HR4.out.2.size hb1.size) (row_grow HR4.out.1 hb1) hgrow)
      clear hown hgrow hat hlt2
      go_wp2_with fail
      go_roundw
      case rel => exact ⟨k + 1, by omega, by go_num, HY, HB.out⟩
      case measure => simp [intOf]; omega

set_option maxRecDepth 100000 in
/-- What is set is cut first. -/
theorem cutN_any (t : ByteArray) (hs : t.size ≤ 1048576) (bx : Nat) (w : World) (hb : w.heap[bx]? = some (.cells #[.func (.func 15) #[] #[]] 45 (0, 0))) :
    Calls Tryd.prog 46 #[.string t, .pointer (some ⟨bx, 0, none⟩)] w fun e w' => ∃ rv, e = .returned (.tuple #[rv, .int .i64 (isN (eachG oneN (partsF t)).isNone)]) ∧ ListIs (eachG oneN (partsF t)) rv w.heap.size w' ∧ Below w.heap.size w w' := by
  have C := Lib.hid (parts_any t (by omega))
  have c1 := cell_of_one hb
  have l1 := lt_of_block hb
  have HC := Lib.hid (fun W (h : Below w.heap.size w W) => cell_of_one ((h.block bx (lt_of_block hb)).trans hb))
  have hpl := partsF_len t
  have HPS := Lib.hid (partsF_size t)
  clear hb
  have HE : Hid (∀ (W : World) (v : Value), W.ownsRow w.heap.size 9 1 v (partsF t).length ((partsF t).map .string) → Calls Tryd.prog 45 #[v, .func (.func 15) #[] #[]] W fun e w' => ∃ a n c, e = .returned (.tuple #[.slice a n c, .int .i64 (isN (eachG oneN (partsF t)).isNone)]) ∧ ListIs (eachG oneN (partsF t)) (.slice a n c) W.heap.size w' ∧ Below W.heap.size W w') := Lib.hid (fun W v ho => (eachN_any v (partsF t) W (Vals.strs (Vals.owned ho)) (by omega) (fun s h => by have := HPS.out s h; omega)).mono (by
    rintro e w' ⟨rv, rfl, h, hb⟩
    obtain ⟨a, n, c, rfl⟩ := h.form
    exact ⟨_, _, _, rfl, h, hb⟩))
  go_enter Tryd.func46, Tryd.ntmps46
  go_upto_region 1 with fail
  go_region_with (first
    | (go_at_call 33; refine (C.out _).mono ?_; rintro e w2 ⟨v2, rfl, ho2, hb2⟩; have ho2' := row_lower (b' := w.heap.size) ho2 (by have := (show Below w.heap.size w _ from by (repeat (first | (with_reducible exact Below.refl _ _) | (with_reducible assumption) | ((with_reducible refine Below.alloc ?_ ?_ _); rotate_left; focus ((try simp only [World.size_alloc, size_setCell, World.heap_drewN, size_drew]); (try omega); done)) | ((with_reducible refine Below.setCell ?_ ?_ _); rotate_left; focus ((try simp only [World.size_alloc, size_setCell, World.heap_drewN, size_drew]); (try omega); done)) | (with_reducible refine Below.drewN' ?_) | (with_reducible refine Below.drew ?_)))).size; exact this); obtain ⟨pa, pc, rfl⟩ := row_form ho2; have c2 := HC.out w2 (Below.after (by (repeat (first | (with_reducible exact Below.refl _ _) | (with_reducible assumption) | ((with_reducible refine Below.alloc ?_ ?_ _); rotate_left; focus ((try simp only [World.size_alloc, size_setCell, World.heap_drewN, size_drew]); (try omega); done)) | ((with_reducible refine Below.setCell ?_ ?_ _); rotate_left; focus ((try simp only [World.size_alloc, size_setCell, World.heap_drewN, size_drew]); (try omega); done)) | (with_reducible refine Below.drewN' ?_) | (with_reducible refine Below.drew ?_)))) hb2); have HB2 := Lib.hid (Below.after (a := w) (by (repeat (first | (with_reducible exact Below.refl _ _) | (with_reducible assumption) | ((with_reducible refine Below.alloc ?_ ?_ _); rotate_left; focus ((try simp only [World.size_alloc, size_setCell, World.heap_drewN, size_drew]); (try omega); done)) | ((with_reducible refine Below.setCell ?_ ?_ _); rotate_left; focus ((try simp only [World.size_alloc, size_setCell, World.heap_drewN, size_drew]); (try omega); done)) | (with_reducible refine Below.drewN' ?_) | (with_reducible refine Below.drew ?_)))) hb2); have HO2 := Lib.hid ho2'; clear hb2 ho2 ho2')
    | (go_at_call 45; refine (HE.out _ _ HO2.out).mono ?_; rintro e w3 ⟨a3, n3, c3, rfl, ho3, hb3⟩))
  all_goals
    go_wp2_with fail
    go_ret2
    exact ⟨.slice a3 n3 c3, rfl, ho3.lower HB2.out.size, Below.after HB2.out hb3⟩
/-- What is wanted behind a step. -/
def IW (o : Bool × List Int) (cs : List Value) (w : World) : Prop :=
  ∃ v1, cs = [.bool o.1, v1] ∧ Snap 2 w (fun _ => False) v1 (o.2.map (Value.int .i64))
theorem IW.grown {o : Bool × List Int} {cs : List Value} {w w' : World} (h : IW o cs w) (hg : ∀ (b : Nat) (cs : Array Value) (fz : Nat × Nat), w.heap[b]? = some (.cells cs 2 fz) → w'.heap[b]? = w.heap[b]?) : IW o cs w' := by
  obtain ⟨v1, e, h1⟩ := h
  exact ⟨v1, e, h1.later fun b cs fz hb _ => ⟨hg b cs fz hb, fun q => q⟩⟩
structure WIn (w0 : World) (st : Bool × List Int) (outs : List (Bool × List Int)) (vo v9 : Value) (wr : World) : Prop where
  bel : Below w0.heap.size w0 wr
  it : Snap 2 wr (fun _ => False) v9 (st.2.map (Value.int .i64))
  row : ∃ xs, wr.ownsRow w0.heap.size 92 2 vo outs.length xs ∧ RowsOf 2 IW wr xs outs
theorem WIn.later {w0 : World} {st : Bool × List Int} {outs : List (Bool × List Int)} {vo v9 : Value} {wr w' : World} (h : WIn w0 st outs vo v9 wr) (hb : Below wr.heap.size wr w') : WIn w0 st outs vo v9 w' := by
  obtain ⟨xs, h1, h2⟩ := h.row
  exact ⟨h.bel.trans (hb.mono h.bel.size), h.it.later fun b _ _ hb' _ => ⟨hb.block b (lt_of_block hb'), fun q => q⟩, xs, row_grow h1 hb, h2.later fun o cs hi => hi.grown fun b _ _ hb' => hb.block b (lt_of_block hb')⟩
/-- New items. -/
theorem WIn.items {w0 : World} {st st' : Bool × List Int} {outs : List (Bool × List Int)} {vo v9 v9' : Value} {wr : World} (h : WIn w0 st outs vo v9 wr) (hi : Snap 2 wr (fun _ => False) v9' (st'.2.map (Value.int .i64))) : WIn w0 st' outs vo v9' wr := ⟨h.bel, hi, h.row⟩
/-- Behind what is wanted. -/
theorem WIn.told {w0 : World} {st : Bool × List Int} {outs : List (Bool × List Int)} {vo vo' v9 : Value} {wr w' : World} {xs : List Value} (h : WIn w0 st outs vo v9 wr) (hr : wr.ownsRow w0.heap.size 92 2 vo outs.length xs) (h2 : RowsOf 2 IW wr xs outs) (hg : wr.grownBy w' vo.ownBlock) (bad : Bool) (ho : w'.ownsRow w0.heap.size 92 2 vo' (outs.length + 1) (xs ++ [.bool bad, v9])) : WIn w0 st (outs ++ [(bad, st.2)]) vo' v9 w' := by
  have hk : ∀ (b : Nat) (cs : Array Value) (fz : Nat × Nat), wr.heap[b]? = some (.cells cs 2 fz) → w'.heap[b]? = wr.heap[b]? := fun b cs fz hb => hg.block b (lt_of_block hb) (fun q => row_ne hb hr (by decide) q.symm)
  have hit : Snap 2 w' (fun _ => False) v9 (st.2.map (Value.int .i64)) := h.it.later fun b cs fz hb _ => ⟨hk b cs fz hb, fun q => q⟩
  exact ⟨grown_below h.bel h.bel.size hr hg, hit, xs ++ [.bool bad, v9], by simpa using ho, RowsOf.snoc (h2.later fun o cs hi => hi.grown hk) ⟨v9, rfl, hit⟩ rfl⟩
/-- The new items. -/
theorem wants_step {w w6 w5 w7 : World} {st : Bool × List Int} {outs : List (Bool × List Int)} {vo v9 v5 v7 : Value} {n : Nat} {old nw : List Int} (hA : WIn w st outs vo v9 w6) (hf : Fresh 2 w6.heap.size (old.map (Value.int .i64)) (w6.alloc (.cells #[] 2)) v5 w5) (hg : w5.grownBy w7 v5.ownBlock) (ho : w7.ownsRow w6.heap.size 2 1 v7 n (old.map (Value.int .i64) ++ nw.map (Value.int .i64))) (nb : Bool) : WIn w (nb, old ++ nw) outs vo v7 w7 ∧ Below w6.heap.size w6 w7 := by
  have hb5 : Below w6.heap.size w6 w5 := Below.after (b := w6.alloc (.cells #[] 2)) (by (repeat (first | (with_reducible exact Below.refl _ _) | (with_reducible assumption) | ((with_reducible refine Below.alloc ?_ ?_ _); rotate_left; focus ((try simp only [World.size_alloc, size_setCell, World.heap_drewN]); (try omega); done)) | ((with_reducible refine Below.setCell ?_ ?_ _); rotate_left; focus ((try simp only [World.size_alloc, size_setCell, World.heap_drewN]); (try omega); done)) | (with_reducible refine Below.drewN' ?_) | (with_reducible refine Below.drew ?_)))) hf.below
  have hb7 : Below w6.heap.size w6 w7 := hb5.trans (grownBy_below hg (fun b hb => (ownsRow_cells hf.2.1 hb).1) hb5.size)
  exact ⟨(hA.later hb7).items (by simpa using Snap.owned ho), hb7⟩

theorem stepN0 (st : Bool × List Int) (s : ByteArray) (tl : List ByteArray) : stepG cutN oneN st ⟨0, s, tl⟩ = match eachG oneN (partsF s) with | none => (true, st) | some nw => (false, (true, if st.1 then st.2 ++ nw else nw)) := by
  unfold stepG cutN
  rw [if_pos rfl]
  cases eachG oneN (partsF s) <;> rfl
theorem stepN1 (st : Bool × List Int) (s : ByteArray) (tl : List ByteArray) : stepG cutN oneN st ⟨1, s, tl⟩ = match eachG oneN [s] with | none => (true, st) | some nw => (false, (st.1, st.2 ++ nw)) := by
  unfold stepG
  rw [if_neg (show ¬ (1 : Int) = 0 by decide), if_pos rfl]
  simp only [eachG]
  cases oneN s <;> rfl
theorem stepN2 (st : Bool × List Int) (s : ByteArray) (tl : List ByteArray) : stepG cutN oneN st ⟨2, s, tl⟩ = match eachG oneN tl with | none => (true, st) | some nw => (false, (st.1, nw)) := by
  unfold stepG
  rw [if_neg (show ¬ (2 : Int) = 0 by decide), if_neg (show ¬ (2 : Int) = 1 by decide)]
  cases eachG oneN tl <;> rfl

set_option maxRecDepth 100000 in
set_option maxHeartbeats 3200000 in
theorem wantsN_any (dv : Value) (df : List Int) (sv : Value) (l : List StepD) (bx : Nat) (w : World) (hd : Vals w dv (df.map (Value.int .i64))) (hs : Steps w sv l) (hdl : df.length ≤ 1048576) (hll : l.length ≤ 1048576) (hx : ∀ x ∈ l, SmallN x) (hb : w.heap[bx]? = some (.cells #[.func (.func 15) #[] #[]] 45 (0, 0))) :
    Calls Tryd.prog 18 #[dv, sv, .func (.func 46) #[] #[.pointer (some ⟨bx, 0, none⟩)], .func (.func 15) #[] #[]] w fun e w' => ∃ rv xs, e = .returned rv ∧ w'.ownsRow w.heap.size 92 2 rv (runsG cutN oneN df l).2.length xs ∧ RowsOf 2 IW w' xs (runsG cutN oneN df l).2 ∧ Below w.heap.size w w' := by
  obtain ⟨sa, sc, rfl⟩ := hs.len
  have HS := Lib.hid (fun W (h : Below w.heap.size w W) => hs.later h)
  have HD := Lib.hid (fun W (h : Below w.heap.size w W) => hd.later h.block)
  have HBX := Lib.hid (fun W (h : Below w.heap.size w W) => (h.block bx (lt_of_block hb)).trans hb)
  have HX := Lib.hid hx
  obtain ⟨da, dc, rfl⟩ := hd.len
  rw [List.length_map] at HD ⊢
  clear hd hs hx hb
  go_enter Tryd.func18, Tryd.ntmps18
  go_wp2_with (at_builtin; refine wpList_append_fresh (by rfl) _ _ 39 2 (by rfl) Tryd.underlying39 infoL rfl _ (by rfl) (heap_at _ _ _ (by (simp only [World.size_alloc, size_setCell, World.heap_drewN]))) _ (by rfl) (df.map (Value.int .i64)) (HD.out _ (by (repeat (first | (with_reducible exact Below.refl _ _) | (with_reducible assumption) | ((with_reducible refine Below.alloc ?_ ?_ _); rotate_left; focus ((try simp only [World.size_alloc, size_setCell, World.heap_drewN]); (try omega); done)) | ((with_reducible refine Below.setCell ?_ ?_ _); rotate_left; focus ((try simp only [World.size_alloc, size_setCell, World.heap_drewN]); (try omega); done)) | (with_reducible refine Below.drewN' ?_) | (with_reducible refine Below.drew ?_))))) (by simp [Value.oneCell']) (by unfold maxLen; rw [List.length_map]; omega) (by rw [List.length_map]; omega) ?_; intro v1 w1 hf1)
  have HA : Hid (WIn w (false, df) [] (.slice none 0 0) v1 w1) := Lib.hid ⟨Below.after (b := w.alloc (.cells #[] 2)) (by (repeat (first | (with_reducible exact Below.refl _ _) | (with_reducible assumption) | ((with_reducible refine Below.alloc ?_ ?_ _); rotate_left; focus ((try simp only [World.size_alloc, size_setCell, World.heap_drewN]); (try omega); done)) | ((with_reducible refine Below.setCell ?_ ?_ _); rotate_left; focus ((try simp only [World.size_alloc, size_setCell, World.heap_drewN]); (try omega); done)) | (with_reducible refine Below.drewN' ?_) | (with_reducible refine Below.drew ?_)))) hf1.below, Snap.owned hf1.2.1, [], World.ownsRow_nil _ _ _ _, RowsOf.nil _ _ _⟩
  obtain ⟨va, vc, hva⟩ := row_form hf1.2.1
  rw [List.length_map] at hva
  subst hva
  clear hf1
  go_wp2_with fail
  go_loopw [9, 10, 11, 14, 15, 21] (fun v9 v10 vo _ _ vi wr => ∃ k : Nat, k ≤ l.length ∧ vi = .int .i64 k ∧ (runsG cutN oneN df (l.take k)).1.2.length ≤ 1048577 * (k + 1) ∧ v10 = .bool (runsG cutN oneN df (l.take k)).1.1 ∧ WIn w (runsG cutN oneN df (l.take k)).1 (runsG cutN oneN df (l.take k)).2 vo v9 wr) (fun _ _ _ _ _ vi _ => l.length - (intOf vi).toNat)
  case atStart => exact ⟨0, Nat.zero_le _, rfl, Nat.le_trans hdl (by omega), rfl, HA.out⟩
  case round =>
    obtain ⟨k, hk, rfl, hlen, hv10, hr⟩ := hrel
    have HOL : Hid ((runsG cutN oneN df (l.take k)).2.length ≤ k) := Lib.hid (by rw [runsG_len]; exact Nat.le_trans (List.length_filter_le _ _) (by simp; omega))
    by_cases hlt : k < l.length
    case neg =>
      obtain ⟨xs, hrow, hrows⟩ := hr.row
      obtain ⟨ra, rc, rfl⟩ := row_form hrow
      obtain ⟨ia, ic, hia⟩ := hr.it.form
      subst hia
      have ek : k = l.length := by omega
      have HF : Hid (wr.ownsRow w.heap.size 92 2 (.slice ra (runsG cutN oneN df (l.take k)).2.length rc) (runsG cutN oneN df l).2.length xs ∧ RowsOf 2 IW wr xs (runsG cutN oneN df l).2 ∧ Below w.heap.size w wr) := Lib.hid (by
        subst ek
        rw [List.take_length] at hrow hrows ⊢
        exact ⟨hrow, hrows, hr.bel⟩)
      subst hv10
      clear ek hr hrow hrows hlen HOL
      go_wp2_with fail
      go_ret
      exact ⟨_, xs, rfl, HF.out⟩
    obtain ⟨sb, so, rfl, hst⟩ := (HS.out wr hr.bel).at k hlt
    obtain ⟨s0, s1, ta, tn, tc, s2, s3⟩ := hst
    have slt := lt_of_cell s0
    have hsm := HX.out l[k] (List.getElem_mem hlt)
    have hnx := runsG_next cutN oneN df l k hlt
    obtain ⟨⟨xd, xs', xl⟩, hxe⟩ : ∃ x, l[k] = x := ⟨_, rfl⟩
    rw [hxe] at s0 s1 s3 hsm hnx
    simp only at s0 s1 s3
    clear hxe
    obtain ⟨⟨⟨bs, si⟩, outs⟩, hrun⟩ : ∃ r, runsG cutN oneN df (l.take k) = r := ⟨_, rfl⟩
    rw [hrun] at hlen hv10 hr hnx HOL
    simp only at hlen hv10 hr HOL
    clear hrun
    subst hv10
    obtain ⟨xs, hrow, hrows⟩ := hr.row
    obtain ⟨ra, rc, rfl⟩ := row_form hrow
    obtain ⟨ia, ic, hia⟩ := hr.it.form
    rw [List.length_map] at hia
    subst hia
    have HR := Lib.hid hr
    have HLE := Lib.hid hlen
    have HN := Lib.hid hnx
    have H3 := Lib.hid s3
    have HSM := Lib.hid hsm
    clear hnx s3 hr hrow hrows hlen hsm
    by_cases d0 : xd = 0
    · subst d0
      cases bs with
      | false =>
        have HC : Hid (WIn w (false, si) outs (.slice ra outs.length rc) (.slice ia si.length ic) ((wr.alloc (.cells #[.int .i64 0, .string xs', .slice ta tn tc] 57)))) := Lib.hid (HR.out.later (by (repeat (first | (with_reducible exact Below.refl _ _) | (with_reducible assumption) | ((with_reducible refine Below.alloc ?_ ?_ _); rotate_left; focus ((try simp only [World.size_alloc, size_setCell, World.heap_drewN]); (try omega); done)) | ((with_reducible refine Below.setCell ?_ ?_ _); rotate_left; focus ((try simp only [World.size_alloc, size_setCell, World.heap_drewN]); (try omega); done)) | (with_reducible refine Below.drewN' ?_) | (with_reducible refine Below.drew ?_)))))
        have C := Lib.hid (cutN_any xs' HSM.out.1 bx ((wr.alloc (.cells #[.int .i64 0, .string xs', .slice ta tn tc] 57))) (HBX.out _ HC.out.bel))
        have HSE := Lib.hid (stepN0 (false, si) xs' xl)
        have HLQ : Hid ((stepG cutN oneN (false, si) ⟨0, xs', xl⟩).2.2.length ≤ 1048577 * (k + 2)) := Lib.hid (by have h1 := step_len (false, si) ⟨0, xs', xl⟩ HSM.out.1 HSM.out.2.1; have h2 := HLE.out; simp only at h1; omega)
        have HRN : Hid (runsG cutN oneN df (l.take (k + 1)) = ((stepG cutN oneN (false, si) ⟨0, xs', xl⟩).2, outs ++ [((stepG cutN oneN (false, si) ⟨0, xs', xl⟩).1, (stepG cutN oneN (false, si) ⟨0, xs', xl⟩).2.2)])) := Lib.hid (by rw [HN.out, runG_yes (.inl rfl)])
        have HPL : Hid (∀ nw, eachG oneN (partsF xs') = some nw → nw.length ≤ 1048577) := Lib.hid (fun nw h => by have he := each_len h; have := partsF_len xs'; have := HSM.out.1; simp only at this; omega)
        rw [HSE.out] at HLQ HRN
        clear HSE HN
        generalize eachG oneN (partsF xs') = R at *
        obtain ⟨i0, hi0, hz0, hz1, hz2⟩ := info_parts infoW
        cases R with
        | none =>
          simp only at HLQ HRN
          simp only [Option.isNone_none, isN, if_true] at C
          go_wp2_with fail
          refine C.out.mono ?_
          rintro e w6 ⟨v14, rfl, hli, hb6⟩
          have h14 : v14 = .slice none 0 0 := hli
          subst h14
          have HA6 := Lib.hid (HC.out.later hb6)
          obtain ⟨ys, hrow7, hrows7⟩ := HA6.out.row
          clear hb6 hli HC C
          go_wp2_with (at_builtin; refine wpList_append_lies _ (by rfl) _ _ _ (by rfl) w.heap.size 92 i0 _ 2 32 Tryd.underlying47 hi0 hz0 hz1 hz2 rfl (by omega) (.slice ra outs.length rc) outs.length ys (by rfl) (row_grow hrow7 (by (repeat (first | (with_reducible exact Below.refl _ _) | (with_reducible assumption) | ((with_reducible refine Below.alloc ?_ ?_ _); rotate_left; focus ((try simp only [World.size_alloc, size_setCell, World.heap_drewN]); (try omega); done)) | ((with_reducible refine Below.setCell ?_ ?_ _); rotate_left; focus ((try simp only [World.size_alloc, size_setCell, World.heap_drewN]); (try omega); done)) | (with_reducible refine Below.drewN' ?_) | (with_reducible refine Below.drew ?_))))) ⟨w6.heap.size, 0, none⟩ 1 1 [.bool true, .slice ia si.length ic] (by rfl) (by rfl) (news_lies (heap_at _ _ _ rfl) (by simp)) (by simp [Value.oneCell']) (by omega) (by have := HOL.out; unfold maxLen; omega) (by have := HOL.out; omega) (by have := HA6.out.bel.size; simp only [World.size_alloc]; omega) _ rfl ?_; intro g cap2 w8 hown hgrow hat hlt8)
          have HB : Hid (WIn w (runsG cutN oneN df (l.take (k + 1))).1 (runsG cutN oneN df (l.take (k + 1))).2 (.slice (some ⟨g, 0, none⟩) (outs.length + 1) cap2) (.slice ia si.length ic) w8) := Lib.hid (by
            rw [HRN.out]
            have hb8 : Below w6.heap.size w6 (w6.alloc (.cells #[.bool true, .slice ia si.length ic] 92)) := by (repeat (first | (with_reducible exact Below.refl _ _) | (with_reducible assumption) | ((with_reducible refine Below.alloc ?_ ?_ _); rotate_left; focus ((try simp only [World.size_alloc, size_setCell, World.heap_drewN]); (try omega); done)) | ((with_reducible refine Below.setCell ?_ ?_ _); rotate_left; focus ((try simp only [World.size_alloc, size_setCell, World.heap_drewN]); (try omega); done)) | (with_reducible refine Below.drewN' ?_) | (with_reducible refine Below.drew ?_)))
            exact (HA6.out.later hb8).told (row_grow hrow7 hb8) (hrows7.later fun o cs hi => hi.grown fun b _ _ hb' => hb8.block b (lt_of_block hb')) hgrow true hown)
          have HLN2 : Hid ((runsG cutN oneN df (l.take (k + 1))).1.2.length ≤ 1048577 * ((k + 1) + 1)) := Lib.hid (by rw [HRN.out]; exact HLQ.out)
          have HBN : Hid (false = (runsG cutN oneN df (l.take (k + 1))).1.1) := Lib.hid (by rw [HRN.out])
          clear hown hgrow hat hlt8 hrow7 hrows7
          go_wp2_with fail
          go_roundw
          case rel => first | exact ⟨k + 1, by omega, by go_num, HLN2.out, by rw [← HBN.out], HB.out⟩ | ((repeat apply Exists.intro); exact ⟨⟨k + 1, by omega, by go_num, HLN2.out, by rw [← HBN.out], HB.out⟩, rfl⟩)
          case measure => simp [intOf]; omega
        | some nw =>
          simp only at HLQ HRN
          simp only [Option.isNone_some, isN, Bool.false_eq_true, if_false] at C
          go_wp2_with fail
          refine C.out.mono ?_
          rintro e w6 ⟨v14, rfl, hli, hb6⟩
          have ho6 : w6.ownsRow _ 2 1 v14 nw.length (nw.map (Value.int .i64)) := hli
          have HA6 := Lib.hid (HC.out.later hb6)
          have hx6 : w6.heap[wr.heap.size]? = some (.cells #[.int .i64 0, .string xs', .slice ta tn tc] 57 (0, 0)) := (hb6.block _ (by simp only [World.size_alloc]; omega)).trans (by (repeat (first | (with_reducible assumption) | ((with_reducible refine heap_past' ?_ ?_); focus ((try simp only [World.size_alloc, size_setCell, World.heap_drewN]); (try omega); done)) | ((with_reducible refine heap_at _ _ _ ?_); focus ((try simp only [World.size_alloc, size_setCell, World.heap_drewN]); (try omega); done)) | ((with_reducible refine heap_ne' ?_ ?_); focus ((try simp only [World.size_alloc, size_setCell, World.heap_drewN]); (try omega); done)) | (with_reducible refine heap_drew' ?_))))
          have dx6 := cell_of hx6 0 _ rfl
          have HX6 := Lib.hid hx6
          obtain ⟨na, nc, rfl⟩ := row_form ho6
          have HPn : Hid (∀ W, Below w6.heap.size w6 W → Vals W (.slice na nw.length nc) (nw.map (Value.int .i64))) := Lib.hid (fun W h => by have := (Vals.owned ho6).later h.block; exact this)
          have HQo : Hid (∀ W, Below w6.heap.size w6 W → Vals W (.slice none 0 0) (([] : List Int).map (Value.int .i64))) := Lib.hid (fun W h => ⟨none, 0, rfl, .inl rfl⟩)
          have hlo : ([] : List Int).length ≤ 1048577 * (k + 1) := by have := HLE.out; first | omega | (simp; done)
          have hln : nw.length ≤ 1048577 := HPL.out nw rfl
          have HST : Hid (runsG cutN oneN df (l.take (k + 1)) = ((true, ([] : List Int) ++ nw), outs ++ [(false, ([] : List Int) ++ nw)])) := Lib.hid (by rw [HRN.out] <;> simp)
          have HLL : Hid ((([] : List Int) ++ nw).length ≤ 1048577 * (k + 2)) := Lib.hid (by have := HLQ.out; simpa using this)
          clear hx6 ho6 hli hb6 HC C HLQ HRN HPL
          go_wp2_with (first
            | (at_builtin; refine wpList_append_fresh (by rfl) _ _ 39 2 (by rfl) Tryd.underlying39 infoL rfl _ (by rfl) (heap_at _ _ _ (by (simp only [World.size_alloc, size_setCell, World.heap_drewN]))) _ (by rfl) (([] : List Int).map (Value.int .i64)) (HQo.out _ (by (repeat (first | (with_reducible exact Below.refl _ _) | (with_reducible assumption) | ((with_reducible refine Below.alloc ?_ ?_ _); rotate_left; focus ((try simp only [World.size_alloc, size_setCell, World.heap_drewN]); (try omega); done)) | ((with_reducible refine Below.setCell ?_ ?_ _); rotate_left; focus ((try simp only [World.size_alloc, size_setCell, World.heap_drewN]); (try omega); done)) | (with_reducible refine Below.drewN' ?_) | (with_reducible refine Below.drew ?_))))) (by simp [Value.oneCell']) (by unfold maxLen; rw [List.length_map]; omega) (by rw [List.length_map]; omega) ?_; intro v5 w5 hf5)
            | (at_builtin; refine wpList_append_vals (by rfl) _ _ 39 2 (by rfl) Tryd.underlying39 infoL rfl w6.heap.size v5 _ (([] : List Int).map (Value.int .i64)) (by rfl) hf5.2.1 (Nat.le_trans (Nat.le_of_lt (by simp only [World.size_alloc]; omega)) hf5.below.size) _ (by rfl) (nw.map (Value.int .i64)) (HPn.out _ (Below.after (b := w6.alloc (.cells #[] 2)) (by (repeat (first | (with_reducible exact Below.refl _ _) | (with_reducible assumption) | ((with_reducible refine Below.alloc ?_ ?_ _); rotate_left; focus ((try simp only [World.size_alloc, size_setCell, World.heap_drewN]); (try omega); done)) | ((with_reducible refine Below.setCell ?_ ?_ _); rotate_left; focus ((try simp only [World.size_alloc, size_setCell, World.heap_drewN]); (try omega); done)) | (with_reducible refine Below.drewN' ?_) | (with_reducible refine Below.drew ?_)))) hf5.below)) (by simp [Value.oneCell']) (by unfold maxLen; simp only [List.length_map]; omega) (by simp only [List.length_map]; omega) ?_; intro v7 w7 ho7 hg7 hat7; obtain ⟨NL, hNL⟩ : ∃ NL, (([] : List Int).map (Value.int .i64)).length + (nw.map (Value.int .i64)).length = NL := ⟨_, rfl⟩; rw [hNL] at ho7; obtain ⟨pa, pc, rfl⟩ := row_form ho7; obtain ⟨hw7, hb7⟩ := wants_step (old := ([] : List Int)) (nw := nw) HA6.out hf5 hg7 ho7 true; have HW7 := Lib.hid hw7; have dx7 := cell_of ((hb7.block _ (lt_of_block HX6.out)).trans HX6.out) 0 _ rfl; obtain ⟨ys, hrow7, hrows7⟩ := HW7.out.row)
            | (at_builtin; refine wpList_append_lies _ (by rfl) _ _ _ (by rfl) w.heap.size 92 i0 _ 2 32 Tryd.underlying47 hi0 hz0 hz1 hz2 rfl (by omega) (.slice ra outs.length rc) outs.length ys (by rfl) (row_grow hrow7 (by (repeat (first | (with_reducible exact Below.refl _ _) | (with_reducible assumption) | ((with_reducible refine Below.alloc ?_ ?_ _); rotate_left; focus ((try simp only [World.size_alloc, size_setCell, World.heap_drewN]); (try omega); done)) | ((with_reducible refine Below.setCell ?_ ?_ _); rotate_left; focus ((try simp only [World.size_alloc, size_setCell, World.heap_drewN]); (try omega); done)) | (with_reducible refine Below.drewN' ?_) | (with_reducible refine Below.drew ?_))))) ⟨w7.heap.size, 0, none⟩ 1 1 [.bool false, .slice pa NL pc] (by rfl) (by rfl) (news_lies (heap_at _ _ _ rfl) (by simp)) (by simp [Value.oneCell']) (by omega) (by have := HOL.out; unfold maxLen; omega) (by have := HOL.out; omega) (by have := HW7.out.bel.size; simp only [World.size_alloc]; omega) _ rfl ?_; intro g cap2 w8 hown hgrow hat hlt8))
          have HB : Hid (WIn w (runsG cutN oneN df (l.take (k + 1))).1 (runsG cutN oneN df (l.take (k + 1))).2 (.slice (some ⟨g, 0, none⟩) (outs.length + 1) cap2) (.slice pa NL pc) w8) := Lib.hid (by
            rw [HST.out]
            have hb8 : Below w7.heap.size w7 (w7.alloc (.cells #[.bool false, .slice pa NL pc] 92)) := by (repeat (first | (with_reducible exact Below.refl _ _) | (with_reducible assumption) | ((with_reducible refine Below.alloc ?_ ?_ _); rotate_left; focus ((try simp only [World.size_alloc, size_setCell, World.heap_drewN]); (try omega); done)) | ((with_reducible refine Below.setCell ?_ ?_ _); rotate_left; focus ((try simp only [World.size_alloc, size_setCell, World.heap_drewN]); (try omega); done)) | (with_reducible refine Below.drewN' ?_) | (with_reducible refine Below.drew ?_)))
            exact (HW7.out.later hb8).told (row_grow hrow7 hb8) (hrows7.later fun o cs hi => hi.grown fun b _ _ hb' => hb8.block b (lt_of_block hb')) hgrow false hown)
          have HLN2 : Hid ((runsG cutN oneN df (l.take (k + 1))).1.2.length ≤ 1048577 * ((k + 1) + 1)) := Lib.hid (by rw [HST.out]; exact HLL.out)
          have HBN : Hid (true = (runsG cutN oneN df (l.take (k + 1))).1.1) := Lib.hid (by rw [HST.out])
          clear hown hgrow hat hlt8 dx7 dx6 hrow7 hrows7
          go_wp2_with fail
          go_roundw
          case rel => first | exact ⟨k + 1, by omega, by go_num, HLN2.out, by rw [← HBN.out], HB.out⟩ | ((repeat apply Exists.intro); exact ⟨⟨k + 1, by omega, by go_num, HLN2.out, by rw [← HBN.out], HB.out⟩, rfl⟩)
          case measure => simp [intOf]; omega
      | true =>
        have HC : Hid (WIn w (true, si) outs (.slice ra outs.length rc) (.slice ia si.length ic) ((wr.alloc (.cells #[.int .i64 0, .string xs', .slice ta tn tc] 57)))) := Lib.hid (HR.out.later (by (repeat (first | (with_reducible exact Below.refl _ _) | (with_reducible assumption) | ((with_reducible refine Below.alloc ?_ ?_ _); rotate_left; focus ((try simp only [World.size_alloc, size_setCell, World.heap_drewN]); (try omega); done)) | ((with_reducible refine Below.setCell ?_ ?_ _); rotate_left; focus ((try simp only [World.size_alloc, size_setCell, World.heap_drewN]); (try omega); done)) | (with_reducible refine Below.drewN' ?_) | (with_reducible refine Below.drew ?_)))))
        have C := Lib.hid (cutN_any xs' HSM.out.1 bx ((wr.alloc (.cells #[.int .i64 0, .string xs', .slice ta tn tc] 57))) (HBX.out _ HC.out.bel))
        have HSE := Lib.hid (stepN0 (true, si) xs' xl)
        have HLQ : Hid ((stepG cutN oneN (true, si) ⟨0, xs', xl⟩).2.2.length ≤ 1048577 * (k + 2)) := Lib.hid (by have h1 := step_len (true, si) ⟨0, xs', xl⟩ HSM.out.1 HSM.out.2.1; have h2 := HLE.out; simp only at h1; omega)
        have HRN : Hid (runsG cutN oneN df (l.take (k + 1)) = ((stepG cutN oneN (true, si) ⟨0, xs', xl⟩).2, outs ++ [((stepG cutN oneN (true, si) ⟨0, xs', xl⟩).1, (stepG cutN oneN (true, si) ⟨0, xs', xl⟩).2.2)])) := Lib.hid (by rw [HN.out, runG_yes (.inl rfl)])
        have HPL : Hid (∀ nw, eachG oneN (partsF xs') = some nw → nw.length ≤ 1048577) := Lib.hid (fun nw h => by have he := each_len h; have := partsF_len xs'; have := HSM.out.1; simp only at this; omega)
        rw [HSE.out] at HLQ HRN
        clear HSE HN
        generalize eachG oneN (partsF xs') = R at *
        obtain ⟨i0, hi0, hz0, hz1, hz2⟩ := info_parts infoW
        cases R with
        | none =>
          simp only at HLQ HRN
          simp only [Option.isNone_none, isN, if_true] at C
          go_wp2_with fail
          refine C.out.mono ?_
          rintro e w6 ⟨v14, rfl, hli, hb6⟩
          have h14 : v14 = .slice none 0 0 := hli
          subst h14
          have HA6 := Lib.hid (HC.out.later hb6)
          obtain ⟨ys, hrow7, hrows7⟩ := HA6.out.row
          clear hb6 hli HC C
          go_wp2_with (at_builtin; refine wpList_append_lies _ (by rfl) _ _ _ (by rfl) w.heap.size 92 i0 _ 2 32 Tryd.underlying47 hi0 hz0 hz1 hz2 rfl (by omega) (.slice ra outs.length rc) outs.length ys (by rfl) (row_grow hrow7 (by (repeat (first | (with_reducible exact Below.refl _ _) | (with_reducible assumption) | ((with_reducible refine Below.alloc ?_ ?_ _); rotate_left; focus ((try simp only [World.size_alloc, size_setCell, World.heap_drewN]); (try omega); done)) | ((with_reducible refine Below.setCell ?_ ?_ _); rotate_left; focus ((try simp only [World.size_alloc, size_setCell, World.heap_drewN]); (try omega); done)) | (with_reducible refine Below.drewN' ?_) | (with_reducible refine Below.drew ?_))))) ⟨w6.heap.size, 0, none⟩ 1 1 [.bool true, .slice ia si.length ic] (by rfl) (by rfl) (news_lies (heap_at _ _ _ rfl) (by simp)) (by simp [Value.oneCell']) (by omega) (by have := HOL.out; unfold maxLen; omega) (by have := HOL.out; omega) (by have := HA6.out.bel.size; simp only [World.size_alloc]; omega) _ rfl ?_; intro g cap2 w8 hown hgrow hat hlt8)
          have HB : Hid (WIn w (runsG cutN oneN df (l.take (k + 1))).1 (runsG cutN oneN df (l.take (k + 1))).2 (.slice (some ⟨g, 0, none⟩) (outs.length + 1) cap2) (.slice ia si.length ic) w8) := Lib.hid (by
            rw [HRN.out]
            have hb8 : Below w6.heap.size w6 (w6.alloc (.cells #[.bool true, .slice ia si.length ic] 92)) := by (repeat (first | (with_reducible exact Below.refl _ _) | (with_reducible assumption) | ((with_reducible refine Below.alloc ?_ ?_ _); rotate_left; focus ((try simp only [World.size_alloc, size_setCell, World.heap_drewN]); (try omega); done)) | ((with_reducible refine Below.setCell ?_ ?_ _); rotate_left; focus ((try simp only [World.size_alloc, size_setCell, World.heap_drewN]); (try omega); done)) | (with_reducible refine Below.drewN' ?_) | (with_reducible refine Below.drew ?_)))
            exact (HA6.out.later hb8).told (row_grow hrow7 hb8) (hrows7.later fun o cs hi => hi.grown fun b _ _ hb' => hb8.block b (lt_of_block hb')) hgrow true hown)
          have HLN2 : Hid ((runsG cutN oneN df (l.take (k + 1))).1.2.length ≤ 1048577 * ((k + 1) + 1)) := Lib.hid (by rw [HRN.out]; exact HLQ.out)
          have HBN : Hid (true = (runsG cutN oneN df (l.take (k + 1))).1.1) := Lib.hid (by rw [HRN.out])
          clear hown hgrow hat hlt8 hrow7 hrows7
          go_wp2_with fail
          go_roundw
          case rel => first | exact ⟨k + 1, by omega, by go_num, HLN2.out, by rw [← HBN.out], HB.out⟩ | ((repeat apply Exists.intro); exact ⟨⟨k + 1, by omega, by go_num, HLN2.out, by rw [← HBN.out], HB.out⟩, rfl⟩)
          case measure => simp [intOf]; omega
        | some nw =>
          simp only at HLQ HRN
          simp only [Option.isNone_some, isN, Bool.false_eq_true, if_false] at C
          go_wp2_with fail
          refine C.out.mono ?_
          rintro e w6 ⟨v14, rfl, hli, hb6⟩
          have ho6 : w6.ownsRow _ 2 1 v14 nw.length (nw.map (Value.int .i64)) := hli
          have HA6 := Lib.hid (HC.out.later hb6)
          have hx6 : w6.heap[wr.heap.size]? = some (.cells #[.int .i64 0, .string xs', .slice ta tn tc] 57 (0, 0)) := (hb6.block _ (by simp only [World.size_alloc]; omega)).trans (by (repeat (first | (with_reducible assumption) | ((with_reducible refine heap_past' ?_ ?_); focus ((try simp only [World.size_alloc, size_setCell, World.heap_drewN]); (try omega); done)) | ((with_reducible refine heap_at _ _ _ ?_); focus ((try simp only [World.size_alloc, size_setCell, World.heap_drewN]); (try omega); done)) | ((with_reducible refine heap_ne' ?_ ?_); focus ((try simp only [World.size_alloc, size_setCell, World.heap_drewN]); (try omega); done)) | (with_reducible refine heap_drew' ?_))))
          have dx6 := cell_of hx6 0 _ rfl
          have HX6 := Lib.hid hx6
          obtain ⟨na, nc, rfl⟩ := row_form ho6
          have HPn : Hid (∀ W, Below w6.heap.size w6 W → Vals W (.slice na nw.length nc) (nw.map (Value.int .i64))) := Lib.hid (fun W h => by have := (Vals.owned ho6).later h.block; exact this)
          have HQo : Hid (∀ W, Below w6.heap.size w6 W → Vals W (.slice ia si.length ic) (si.map (Value.int .i64))) := Lib.hid (fun W h => (HA6.out.it.vals).later h.block)
          have hlo : si.length ≤ 1048577 * (k + 1) := by have := HLE.out; first | omega | (simp; done)
          have hln : nw.length ≤ 1048577 := HPL.out nw rfl
          have HST : Hid (runsG cutN oneN df (l.take (k + 1)) = ((true, si ++ nw), outs ++ [(false, si ++ nw)])) := Lib.hid (by rw [HRN.out] <;> simp)
          have HLL : Hid ((si ++ nw).length ≤ 1048577 * (k + 2)) := Lib.hid (by have := HLQ.out; simpa using this)
          clear hx6 ho6 hli hb6 HC C HLQ HRN HPL
          go_wp2_with (first
            | (at_builtin; refine wpList_append_fresh (by rfl) _ _ 39 2 (by rfl) Tryd.underlying39 infoL rfl _ (by rfl) (heap_at _ _ _ (by (simp only [World.size_alloc, size_setCell, World.heap_drewN]))) _ (by rfl) (si.map (Value.int .i64)) (HQo.out _ (by (repeat (first | (with_reducible exact Below.refl _ _) | (with_reducible assumption) | ((with_reducible refine Below.alloc ?_ ?_ _); rotate_left; focus ((try simp only [World.size_alloc, size_setCell, World.heap_drewN]); (try omega); done)) | ((with_reducible refine Below.setCell ?_ ?_ _); rotate_left; focus ((try simp only [World.size_alloc, size_setCell, World.heap_drewN]); (try omega); done)) | (with_reducible refine Below.drewN' ?_) | (with_reducible refine Below.drew ?_))))) (by simp [Value.oneCell']) (by unfold maxLen; rw [List.length_map]; omega) (by rw [List.length_map]; omega) ?_; intro v5 w5 hf5)
            | (at_builtin; refine wpList_append_vals (by rfl) _ _ 39 2 (by rfl) Tryd.underlying39 infoL rfl w6.heap.size v5 _ (si.map (Value.int .i64)) (by rfl) hf5.2.1 (Nat.le_trans (Nat.le_of_lt (by simp only [World.size_alloc]; omega)) hf5.below.size) _ (by rfl) (nw.map (Value.int .i64)) (HPn.out _ (Below.after (b := w6.alloc (.cells #[] 2)) (by (repeat (first | (with_reducible exact Below.refl _ _) | (with_reducible assumption) | ((with_reducible refine Below.alloc ?_ ?_ _); rotate_left; focus ((try simp only [World.size_alloc, size_setCell, World.heap_drewN]); (try omega); done)) | ((with_reducible refine Below.setCell ?_ ?_ _); rotate_left; focus ((try simp only [World.size_alloc, size_setCell, World.heap_drewN]); (try omega); done)) | (with_reducible refine Below.drewN' ?_) | (with_reducible refine Below.drew ?_)))) hf5.below)) (by simp [Value.oneCell']) (by unfold maxLen; simp only [List.length_map]; omega) (by simp only [List.length_map]; omega) ?_; intro v7 w7 ho7 hg7 hat7; obtain ⟨NL, hNL⟩ : ∃ NL, (si.map (Value.int .i64)).length + (nw.map (Value.int .i64)).length = NL := ⟨_, rfl⟩; rw [hNL] at ho7; obtain ⟨pa, pc, rfl⟩ := row_form ho7; obtain ⟨hw7, hb7⟩ := wants_step (old := si) (nw := nw) HA6.out hf5 hg7 ho7 true; have HW7 := Lib.hid hw7; have dx7 := cell_of ((hb7.block _ (lt_of_block HX6.out)).trans HX6.out) 0 _ rfl; obtain ⟨ys, hrow7, hrows7⟩ := HW7.out.row)
            | (at_builtin; refine wpList_append_lies _ (by rfl) _ _ _ (by rfl) w.heap.size 92 i0 _ 2 32 Tryd.underlying47 hi0 hz0 hz1 hz2 rfl (by omega) (.slice ra outs.length rc) outs.length ys (by rfl) (row_grow hrow7 (by (repeat (first | (with_reducible exact Below.refl _ _) | (with_reducible assumption) | ((with_reducible refine Below.alloc ?_ ?_ _); rotate_left; focus ((try simp only [World.size_alloc, size_setCell, World.heap_drewN]); (try omega); done)) | ((with_reducible refine Below.setCell ?_ ?_ _); rotate_left; focus ((try simp only [World.size_alloc, size_setCell, World.heap_drewN]); (try omega); done)) | (with_reducible refine Below.drewN' ?_) | (with_reducible refine Below.drew ?_))))) ⟨w7.heap.size, 0, none⟩ 1 1 [.bool false, .slice pa NL pc] (by rfl) (by rfl) (news_lies (heap_at _ _ _ rfl) (by simp)) (by simp [Value.oneCell']) (by omega) (by have := HOL.out; unfold maxLen; omega) (by have := HOL.out; omega) (by have := HW7.out.bel.size; simp only [World.size_alloc]; omega) _ rfl ?_; intro g cap2 w8 hown hgrow hat hlt8))
          have HB : Hid (WIn w (runsG cutN oneN df (l.take (k + 1))).1 (runsG cutN oneN df (l.take (k + 1))).2 (.slice (some ⟨g, 0, none⟩) (outs.length + 1) cap2) (.slice pa NL pc) w8) := Lib.hid (by
            rw [HST.out]
            have hb8 : Below w7.heap.size w7 (w7.alloc (.cells #[.bool false, .slice pa NL pc] 92)) := by (repeat (first | (with_reducible exact Below.refl _ _) | (with_reducible assumption) | ((with_reducible refine Below.alloc ?_ ?_ _); rotate_left; focus ((try simp only [World.size_alloc, size_setCell, World.heap_drewN]); (try omega); done)) | ((with_reducible refine Below.setCell ?_ ?_ _); rotate_left; focus ((try simp only [World.size_alloc, size_setCell, World.heap_drewN]); (try omega); done)) | (with_reducible refine Below.drewN' ?_) | (with_reducible refine Below.drew ?_)))
            exact (HW7.out.later hb8).told (row_grow hrow7 hb8) (hrows7.later fun o cs hi => hi.grown fun b _ _ hb' => hb8.block b (lt_of_block hb')) hgrow false hown)
          have HLN2 : Hid ((runsG cutN oneN df (l.take (k + 1))).1.2.length ≤ 1048577 * ((k + 1) + 1)) := Lib.hid (by rw [HST.out]; exact HLL.out)
          have HBN : Hid (true = (runsG cutN oneN df (l.take (k + 1))).1.1) := Lib.hid (by rw [HST.out])
          clear hown hgrow hat hlt8 dx7 dx6 hrow7 hrows7
          go_wp2_with fail
          go_roundw
          case rel => first | exact ⟨k + 1, by omega, by go_num, HLN2.out, by rw [← HBN.out], HB.out⟩ | ((repeat apply Exists.intro); exact ⟨⟨k + 1, by omega, by go_num, HLN2.out, by rw [← HBN.out], HB.out⟩, rfl⟩)
          case measure => simp [intOf]; omega
    by_cases d1 : xd = 1
    · subst d1
      cases bs with
      | false =>
        have HC : Hid (WIn w (false, si) outs (.slice ra outs.length rc) (.slice ia si.length ic) ((wr.alloc (.cells #[.int .i64 1, .string xs', .slice ta tn tc] 57)).alloc (.cells #[.string xs'] 9))) := Lib.hid (HR.out.later (by (repeat (first | (with_reducible exact Below.refl _ _) | (with_reducible assumption) | ((with_reducible refine Below.alloc ?_ ?_ _); rotate_left; focus ((try simp only [World.size_alloc, size_setCell, World.heap_drewN]); (try omega); done)) | ((with_reducible refine Below.setCell ?_ ?_ _); rotate_left; focus ((try simp only [World.size_alloc, size_setCell, World.heap_drewN]); (try omega); done)) | (with_reducible refine Below.drewN' ?_) | (with_reducible refine Below.drew ?_)))))
        have C := Lib.hid (eachN_any (.slice (some ⟨wr.heap.size + 1, 0, none⟩) 1 1) [xs'] ((wr.alloc (.cells #[.int .i64 1, .string xs', .slice ta tn tc] 57)).alloc (.cells #[.string xs'] 9)) (Strs.made [xs'] 1 (heap_at _ _ _ (by (simp only [World.size_alloc, size_setCell, World.heap_drewN])))) (by simp) (by intro t ht; simp only [List.mem_singleton] at ht; subst ht; exact Nat.le_trans HSM.out.1 (by decide)))
        have HSE := Lib.hid (stepN1 (false, si) xs' xl)
        have HLQ : Hid ((stepG cutN oneN (false, si) ⟨1, xs', xl⟩).2.2.length ≤ 1048577 * (k + 2)) := Lib.hid (by have h1 := step_len (false, si) ⟨1, xs', xl⟩ HSM.out.1 HSM.out.2.1; have h2 := HLE.out; simp only at h1; omega)
        have HRN : Hid (runsG cutN oneN df (l.take (k + 1)) = ((stepG cutN oneN (false, si) ⟨1, xs', xl⟩).2, outs ++ [((stepG cutN oneN (false, si) ⟨1, xs', xl⟩).1, (stepG cutN oneN (false, si) ⟨1, xs', xl⟩).2.2)])) := Lib.hid (by rw [HN.out, runG_yes (.inr (.inl rfl))])
        have HPL : Hid (∀ nw, eachG oneN [xs'] = some nw → nw.length ≤ 1048577) := Lib.hid (fun nw h => by have he := each_len h; simp only [List.length_singleton] at he; omega)
        rw [HSE.out] at HLQ HRN
        clear HSE HN
        generalize eachG oneN [xs'] = R at *
        obtain ⟨i0, hi0, hz0, hz1, hz2⟩ := info_parts infoW
        cases R with
        | none =>
          simp only at HLQ HRN
          simp only [Option.isNone_none, isN, if_true] at C
          go_wp2_with fail
          refine C.out.mono ?_
          rintro e w6 ⟨v14, rfl, hli, hb6⟩
          have h14 : v14 = .slice none 0 0 := hli
          subst h14
          have HA6 := Lib.hid (HC.out.later hb6)
          obtain ⟨ys, hrow7, hrows7⟩ := HA6.out.row
          clear hb6 hli HC C
          go_wp2_with (at_builtin; refine wpList_append_lies _ (by rfl) _ _ _ (by rfl) w.heap.size 92 i0 _ 2 32 Tryd.underlying47 hi0 hz0 hz1 hz2 rfl (by omega) (.slice ra outs.length rc) outs.length ys (by rfl) (row_grow hrow7 (by (repeat (first | (with_reducible exact Below.refl _ _) | (with_reducible assumption) | ((with_reducible refine Below.alloc ?_ ?_ _); rotate_left; focus ((try simp only [World.size_alloc, size_setCell, World.heap_drewN]); (try omega); done)) | ((with_reducible refine Below.setCell ?_ ?_ _); rotate_left; focus ((try simp only [World.size_alloc, size_setCell, World.heap_drewN]); (try omega); done)) | (with_reducible refine Below.drewN' ?_) | (with_reducible refine Below.drew ?_))))) ⟨w6.heap.size, 0, none⟩ 1 1 [.bool true, .slice ia si.length ic] (by rfl) (by rfl) (news_lies (heap_at _ _ _ rfl) (by simp)) (by simp [Value.oneCell']) (by omega) (by have := HOL.out; unfold maxLen; omega) (by have := HOL.out; omega) (by have := HA6.out.bel.size; simp only [World.size_alloc]; omega) _ rfl ?_; intro g cap2 w8 hown hgrow hat hlt8)
          have HB : Hid (WIn w (runsG cutN oneN df (l.take (k + 1))).1 (runsG cutN oneN df (l.take (k + 1))).2 (.slice (some ⟨g, 0, none⟩) (outs.length + 1) cap2) (.slice ia si.length ic) w8) := Lib.hid (by
            rw [HRN.out]
            have hb8 : Below w6.heap.size w6 (w6.alloc (.cells #[.bool true, .slice ia si.length ic] 92)) := by (repeat (first | (with_reducible exact Below.refl _ _) | (with_reducible assumption) | ((with_reducible refine Below.alloc ?_ ?_ _); rotate_left; focus ((try simp only [World.size_alloc, size_setCell, World.heap_drewN]); (try omega); done)) | ((with_reducible refine Below.setCell ?_ ?_ _); rotate_left; focus ((try simp only [World.size_alloc, size_setCell, World.heap_drewN]); (try omega); done)) | (with_reducible refine Below.drewN' ?_) | (with_reducible refine Below.drew ?_)))
            exact (HA6.out.later hb8).told (row_grow hrow7 hb8) (hrows7.later fun o cs hi => hi.grown fun b _ _ hb' => hb8.block b (lt_of_block hb')) hgrow true hown)
          have HLN2 : Hid ((runsG cutN oneN df (l.take (k + 1))).1.2.length ≤ 1048577 * ((k + 1) + 1)) := Lib.hid (by rw [HRN.out]; exact HLQ.out)
          have HBN : Hid (false = (runsG cutN oneN df (l.take (k + 1))).1.1) := Lib.hid (by rw [HRN.out])
          clear hown hgrow hat hlt8 hrow7 hrows7
          go_wp2_with fail
          go_roundw
          case rel => first | exact ⟨k + 1, by omega, by go_num, HLN2.out, by rw [← HBN.out], HB.out⟩ | ((repeat apply Exists.intro); exact ⟨⟨k + 1, by omega, by go_num, HLN2.out, by rw [← HBN.out], HB.out⟩, rfl⟩)
          case measure => simp [intOf]; omega
        | some nw =>
          simp only at HLQ HRN
          simp only [Option.isNone_some, isN, Bool.false_eq_true, if_false] at C
          go_wp2_with fail
          refine C.out.mono ?_
          rintro e w6 ⟨v14, rfl, hli, hb6⟩
          have ho6 : w6.ownsRow _ 2 1 v14 nw.length (nw.map (Value.int .i64)) := hli
          have HA6 := Lib.hid (HC.out.later hb6)
          have hx6 : w6.heap[wr.heap.size]? = some (.cells #[.int .i64 1, .string xs', .slice ta tn tc] 57 (0, 0)) := (hb6.block _ (by simp only [World.size_alloc]; omega)).trans (by (repeat (first | (with_reducible assumption) | ((with_reducible refine heap_past' ?_ ?_); focus ((try simp only [World.size_alloc, size_setCell, World.heap_drewN]); (try omega); done)) | ((with_reducible refine heap_at _ _ _ ?_); focus ((try simp only [World.size_alloc, size_setCell, World.heap_drewN]); (try omega); done)) | ((with_reducible refine heap_ne' ?_ ?_); focus ((try simp only [World.size_alloc, size_setCell, World.heap_drewN]); (try omega); done)) | (with_reducible refine heap_drew' ?_))))
          have dx6 := cell_of hx6 0 _ rfl
          have HX6 := Lib.hid hx6
          obtain ⟨na, nc, rfl⟩ := row_form ho6
          have HPn : Hid (∀ W, Below w6.heap.size w6 W → Vals W (.slice na nw.length nc) (nw.map (Value.int .i64))) := Lib.hid (fun W h => by have := (Vals.owned ho6).later h.block; exact this)
          have HQo : Hid (∀ W, Below w6.heap.size w6 W → Vals W (.slice ia si.length ic) (si.map (Value.int .i64))) := Lib.hid (fun W h => (HA6.out.it.vals).later h.block)
          have hlo : si.length ≤ 1048577 * (k + 1) := by have := HLE.out; first | omega | (simp; done)
          have hln : nw.length ≤ 1048577 := HPL.out nw rfl
          have HST : Hid (runsG cutN oneN df (l.take (k + 1)) = ((false, si ++ nw), outs ++ [(false, si ++ nw)])) := Lib.hid (by rw [HRN.out] <;> simp)
          have HLL : Hid ((si ++ nw).length ≤ 1048577 * (k + 2)) := Lib.hid (by have := HLQ.out; simpa using this)
          clear hx6 ho6 hli hb6 HC C HLQ HRN HPL
          go_wp2_with (first
            | (at_builtin; refine wpList_append_fresh (by rfl) _ _ 39 2 (by rfl) Tryd.underlying39 infoL rfl _ (by rfl) (heap_at _ _ _ (by (simp only [World.size_alloc, size_setCell, World.heap_drewN]))) _ (by rfl) (si.map (Value.int .i64)) (HQo.out _ (by (repeat (first | (with_reducible exact Below.refl _ _) | (with_reducible assumption) | ((with_reducible refine Below.alloc ?_ ?_ _); rotate_left; focus ((try simp only [World.size_alloc, size_setCell, World.heap_drewN]); (try omega); done)) | ((with_reducible refine Below.setCell ?_ ?_ _); rotate_left; focus ((try simp only [World.size_alloc, size_setCell, World.heap_drewN]); (try omega); done)) | (with_reducible refine Below.drewN' ?_) | (with_reducible refine Below.drew ?_))))) (by simp [Value.oneCell']) (by unfold maxLen; rw [List.length_map]; omega) (by rw [List.length_map]; omega) ?_; intro v5 w5 hf5)
            | (at_builtin; refine wpList_append_vals (by rfl) _ _ 39 2 (by rfl) Tryd.underlying39 infoL rfl w6.heap.size v5 _ (si.map (Value.int .i64)) (by rfl) hf5.2.1 (Nat.le_trans (Nat.le_of_lt (by simp only [World.size_alloc]; omega)) hf5.below.size) _ (by rfl) (nw.map (Value.int .i64)) (HPn.out _ (Below.after (b := w6.alloc (.cells #[] 2)) (by (repeat (first | (with_reducible exact Below.refl _ _) | (with_reducible assumption) | ((with_reducible refine Below.alloc ?_ ?_ _); rotate_left; focus ((try simp only [World.size_alloc, size_setCell, World.heap_drewN]); (try omega); done)) | ((with_reducible refine Below.setCell ?_ ?_ _); rotate_left; focus ((try simp only [World.size_alloc, size_setCell, World.heap_drewN]); (try omega); done)) | (with_reducible refine Below.drewN' ?_) | (with_reducible refine Below.drew ?_)))) hf5.below)) (by simp [Value.oneCell']) (by unfold maxLen; simp only [List.length_map]; omega) (by simp only [List.length_map]; omega) ?_; intro v7 w7 ho7 hg7 hat7; obtain ⟨NL, hNL⟩ : ∃ NL, (si.map (Value.int .i64)).length + (nw.map (Value.int .i64)).length = NL := ⟨_, rfl⟩; rw [hNL] at ho7; obtain ⟨pa, pc, rfl⟩ := row_form ho7; obtain ⟨hw7, hb7⟩ := wants_step (old := si) (nw := nw) HA6.out hf5 hg7 ho7 false; have HW7 := Lib.hid hw7; have dx7 := cell_of ((hb7.block _ (lt_of_block HX6.out)).trans HX6.out) 0 _ rfl; obtain ⟨ys, hrow7, hrows7⟩ := HW7.out.row)
            | (at_builtin; refine wpList_append_lies _ (by rfl) _ _ _ (by rfl) w.heap.size 92 i0 _ 2 32 Tryd.underlying47 hi0 hz0 hz1 hz2 rfl (by omega) (.slice ra outs.length rc) outs.length ys (by rfl) (row_grow hrow7 (by (repeat (first | (with_reducible exact Below.refl _ _) | (with_reducible assumption) | ((with_reducible refine Below.alloc ?_ ?_ _); rotate_left; focus ((try simp only [World.size_alloc, size_setCell, World.heap_drewN]); (try omega); done)) | ((with_reducible refine Below.setCell ?_ ?_ _); rotate_left; focus ((try simp only [World.size_alloc, size_setCell, World.heap_drewN]); (try omega); done)) | (with_reducible refine Below.drewN' ?_) | (with_reducible refine Below.drew ?_))))) ⟨w7.heap.size, 0, none⟩ 1 1 [.bool false, .slice pa NL pc] (by rfl) (by rfl) (news_lies (heap_at _ _ _ rfl) (by simp)) (by simp [Value.oneCell']) (by omega) (by have := HOL.out; unfold maxLen; omega) (by have := HOL.out; omega) (by have := HW7.out.bel.size; simp only [World.size_alloc]; omega) _ rfl ?_; intro g cap2 w8 hown hgrow hat hlt8))
          have HB : Hid (WIn w (runsG cutN oneN df (l.take (k + 1))).1 (runsG cutN oneN df (l.take (k + 1))).2 (.slice (some ⟨g, 0, none⟩) (outs.length + 1) cap2) (.slice pa NL pc) w8) := Lib.hid (by
            rw [HST.out]
            have hb8 : Below w7.heap.size w7 (w7.alloc (.cells #[.bool false, .slice pa NL pc] 92)) := by (repeat (first | (with_reducible exact Below.refl _ _) | (with_reducible assumption) | ((with_reducible refine Below.alloc ?_ ?_ _); rotate_left; focus ((try simp only [World.size_alloc, size_setCell, World.heap_drewN]); (try omega); done)) | ((with_reducible refine Below.setCell ?_ ?_ _); rotate_left; focus ((try simp only [World.size_alloc, size_setCell, World.heap_drewN]); (try omega); done)) | (with_reducible refine Below.drewN' ?_) | (with_reducible refine Below.drew ?_)))
            exact (HW7.out.later hb8).told (row_grow hrow7 hb8) (hrows7.later fun o cs hi => hi.grown fun b _ _ hb' => hb8.block b (lt_of_block hb')) hgrow false hown)
          have HLN2 : Hid ((runsG cutN oneN df (l.take (k + 1))).1.2.length ≤ 1048577 * ((k + 1) + 1)) := Lib.hid (by rw [HST.out]; exact HLL.out)
          have HBN : Hid (false = (runsG cutN oneN df (l.take (k + 1))).1.1) := Lib.hid (by rw [HST.out])
          clear hown hgrow hat hlt8 dx7 dx6 hrow7 hrows7
          go_wp2_with fail
          go_roundw
          case rel => first | exact ⟨k + 1, by omega, by go_num, HLN2.out, by rw [← HBN.out], HB.out⟩ | ((repeat apply Exists.intro); exact ⟨⟨k + 1, by omega, by go_num, HLN2.out, by rw [← HBN.out], HB.out⟩, rfl⟩)
          case measure => simp [intOf]; omega
      | true =>
        have HC : Hid (WIn w (true, si) outs (.slice ra outs.length rc) (.slice ia si.length ic) ((wr.alloc (.cells #[.int .i64 1, .string xs', .slice ta tn tc] 57)).alloc (.cells #[.string xs'] 9))) := Lib.hid (HR.out.later (by (repeat (first | (with_reducible exact Below.refl _ _) | (with_reducible assumption) | ((with_reducible refine Below.alloc ?_ ?_ _); rotate_left; focus ((try simp only [World.size_alloc, size_setCell, World.heap_drewN]); (try omega); done)) | ((with_reducible refine Below.setCell ?_ ?_ _); rotate_left; focus ((try simp only [World.size_alloc, size_setCell, World.heap_drewN]); (try omega); done)) | (with_reducible refine Below.drewN' ?_) | (with_reducible refine Below.drew ?_)))))
        have C := Lib.hid (eachN_any (.slice (some ⟨wr.heap.size + 1, 0, none⟩) 1 1) [xs'] ((wr.alloc (.cells #[.int .i64 1, .string xs', .slice ta tn tc] 57)).alloc (.cells #[.string xs'] 9)) (Strs.made [xs'] 1 (heap_at _ _ _ (by (simp only [World.size_alloc, size_setCell, World.heap_drewN])))) (by simp) (by intro t ht; simp only [List.mem_singleton] at ht; subst ht; exact Nat.le_trans HSM.out.1 (by decide)))
        have HSE := Lib.hid (stepN1 (true, si) xs' xl)
        have HLQ : Hid ((stepG cutN oneN (true, si) ⟨1, xs', xl⟩).2.2.length ≤ 1048577 * (k + 2)) := Lib.hid (by have h1 := step_len (true, si) ⟨1, xs', xl⟩ HSM.out.1 HSM.out.2.1; have h2 := HLE.out; simp only at h1; omega)
        have HRN : Hid (runsG cutN oneN df (l.take (k + 1)) = ((stepG cutN oneN (true, si) ⟨1, xs', xl⟩).2, outs ++ [((stepG cutN oneN (true, si) ⟨1, xs', xl⟩).1, (stepG cutN oneN (true, si) ⟨1, xs', xl⟩).2.2)])) := Lib.hid (by rw [HN.out, runG_yes (.inr (.inl rfl))])
        have HPL : Hid (∀ nw, eachG oneN [xs'] = some nw → nw.length ≤ 1048577) := Lib.hid (fun nw h => by have he := each_len h; simp only [List.length_singleton] at he; omega)
        rw [HSE.out] at HLQ HRN
        clear HSE HN
        generalize eachG oneN [xs'] = R at *
        obtain ⟨i0, hi0, hz0, hz1, hz2⟩ := info_parts infoW
        cases R with
        | none =>
          simp only at HLQ HRN
          simp only [Option.isNone_none, isN, if_true] at C
          go_wp2_with fail
          refine C.out.mono ?_
          rintro e w6 ⟨v14, rfl, hli, hb6⟩
          have h14 : v14 = .slice none 0 0 := hli
          subst h14
          have HA6 := Lib.hid (HC.out.later hb6)
          obtain ⟨ys, hrow7, hrows7⟩ := HA6.out.row
          clear hb6 hli HC C
          go_wp2_with (at_builtin; refine wpList_append_lies _ (by rfl) _ _ _ (by rfl) w.heap.size 92 i0 _ 2 32 Tryd.underlying47 hi0 hz0 hz1 hz2 rfl (by omega) (.slice ra outs.length rc) outs.length ys (by rfl) (row_grow hrow7 (by (repeat (first | (with_reducible exact Below.refl _ _) | (with_reducible assumption) | ((with_reducible refine Below.alloc ?_ ?_ _); rotate_left; focus ((try simp only [World.size_alloc, size_setCell, World.heap_drewN]); (try omega); done)) | ((with_reducible refine Below.setCell ?_ ?_ _); rotate_left; focus ((try simp only [World.size_alloc, size_setCell, World.heap_drewN]); (try omega); done)) | (with_reducible refine Below.drewN' ?_) | (with_reducible refine Below.drew ?_))))) ⟨w6.heap.size, 0, none⟩ 1 1 [.bool true, .slice ia si.length ic] (by rfl) (by rfl) (news_lies (heap_at _ _ _ rfl) (by simp)) (by simp [Value.oneCell']) (by omega) (by have := HOL.out; unfold maxLen; omega) (by have := HOL.out; omega) (by have := HA6.out.bel.size; simp only [World.size_alloc]; omega) _ rfl ?_; intro g cap2 w8 hown hgrow hat hlt8)
          have HB : Hid (WIn w (runsG cutN oneN df (l.take (k + 1))).1 (runsG cutN oneN df (l.take (k + 1))).2 (.slice (some ⟨g, 0, none⟩) (outs.length + 1) cap2) (.slice ia si.length ic) w8) := Lib.hid (by
            rw [HRN.out]
            have hb8 : Below w6.heap.size w6 (w6.alloc (.cells #[.bool true, .slice ia si.length ic] 92)) := by (repeat (first | (with_reducible exact Below.refl _ _) | (with_reducible assumption) | ((with_reducible refine Below.alloc ?_ ?_ _); rotate_left; focus ((try simp only [World.size_alloc, size_setCell, World.heap_drewN]); (try omega); done)) | ((with_reducible refine Below.setCell ?_ ?_ _); rotate_left; focus ((try simp only [World.size_alloc, size_setCell, World.heap_drewN]); (try omega); done)) | (with_reducible refine Below.drewN' ?_) | (with_reducible refine Below.drew ?_)))
            exact (HA6.out.later hb8).told (row_grow hrow7 hb8) (hrows7.later fun o cs hi => hi.grown fun b _ _ hb' => hb8.block b (lt_of_block hb')) hgrow true hown)
          have HLN2 : Hid ((runsG cutN oneN df (l.take (k + 1))).1.2.length ≤ 1048577 * ((k + 1) + 1)) := Lib.hid (by rw [HRN.out]; exact HLQ.out)
          have HBN : Hid (true = (runsG cutN oneN df (l.take (k + 1))).1.1) := Lib.hid (by rw [HRN.out])
          clear hown hgrow hat hlt8 hrow7 hrows7
          go_wp2_with fail
          go_roundw
          case rel => first | exact ⟨k + 1, by omega, by go_num, HLN2.out, by rw [← HBN.out], HB.out⟩ | ((repeat apply Exists.intro); exact ⟨⟨k + 1, by omega, by go_num, HLN2.out, by rw [← HBN.out], HB.out⟩, rfl⟩)
          case measure => simp [intOf]; omega
        | some nw =>
          simp only at HLQ HRN
          simp only [Option.isNone_some, isN, Bool.false_eq_true, if_false] at C
          go_wp2_with fail
          refine C.out.mono ?_
          rintro e w6 ⟨v14, rfl, hli, hb6⟩
          have ho6 : w6.ownsRow _ 2 1 v14 nw.length (nw.map (Value.int .i64)) := hli
          have HA6 := Lib.hid (HC.out.later hb6)
          have hx6 : w6.heap[wr.heap.size]? = some (.cells #[.int .i64 1, .string xs', .slice ta tn tc] 57 (0, 0)) := (hb6.block _ (by simp only [World.size_alloc]; omega)).trans (by (repeat (first | (with_reducible assumption) | ((with_reducible refine heap_past' ?_ ?_); focus ((try simp only [World.size_alloc, size_setCell, World.heap_drewN]); (try omega); done)) | ((with_reducible refine heap_at _ _ _ ?_); focus ((try simp only [World.size_alloc, size_setCell, World.heap_drewN]); (try omega); done)) | ((with_reducible refine heap_ne' ?_ ?_); focus ((try simp only [World.size_alloc, size_setCell, World.heap_drewN]); (try omega); done)) | (with_reducible refine heap_drew' ?_))))
          have dx6 := cell_of hx6 0 _ rfl
          have HX6 := Lib.hid hx6
          obtain ⟨na, nc, rfl⟩ := row_form ho6
          have HPn : Hid (∀ W, Below w6.heap.size w6 W → Vals W (.slice na nw.length nc) (nw.map (Value.int .i64))) := Lib.hid (fun W h => by have := (Vals.owned ho6).later h.block; exact this)
          have HQo : Hid (∀ W, Below w6.heap.size w6 W → Vals W (.slice ia si.length ic) (si.map (Value.int .i64))) := Lib.hid (fun W h => (HA6.out.it.vals).later h.block)
          have hlo : si.length ≤ 1048577 * (k + 1) := by have := HLE.out; first | omega | (simp; done)
          have hln : nw.length ≤ 1048577 := HPL.out nw rfl
          have HST : Hid (runsG cutN oneN df (l.take (k + 1)) = ((true, si ++ nw), outs ++ [(false, si ++ nw)])) := Lib.hid (by rw [HRN.out] <;> simp)
          have HLL : Hid ((si ++ nw).length ≤ 1048577 * (k + 2)) := Lib.hid (by have := HLQ.out; simpa using this)
          clear hx6 ho6 hli hb6 HC C HLQ HRN HPL
          go_wp2_with (first
            | (at_builtin; refine wpList_append_fresh (by rfl) _ _ 39 2 (by rfl) Tryd.underlying39 infoL rfl _ (by rfl) (heap_at _ _ _ (by (simp only [World.size_alloc, size_setCell, World.heap_drewN]))) _ (by rfl) (si.map (Value.int .i64)) (HQo.out _ (by (repeat (first | (with_reducible exact Below.refl _ _) | (with_reducible assumption) | ((with_reducible refine Below.alloc ?_ ?_ _); rotate_left; focus ((try simp only [World.size_alloc, size_setCell, World.heap_drewN]); (try omega); done)) | ((with_reducible refine Below.setCell ?_ ?_ _); rotate_left; focus ((try simp only [World.size_alloc, size_setCell, World.heap_drewN]); (try omega); done)) | (with_reducible refine Below.drewN' ?_) | (with_reducible refine Below.drew ?_))))) (by simp [Value.oneCell']) (by unfold maxLen; rw [List.length_map]; omega) (by rw [List.length_map]; omega) ?_; intro v5 w5 hf5)
            | (at_builtin; refine wpList_append_vals (by rfl) _ _ 39 2 (by rfl) Tryd.underlying39 infoL rfl w6.heap.size v5 _ (si.map (Value.int .i64)) (by rfl) hf5.2.1 (Nat.le_trans (Nat.le_of_lt (by simp only [World.size_alloc]; omega)) hf5.below.size) _ (by rfl) (nw.map (Value.int .i64)) (HPn.out _ (Below.after (b := w6.alloc (.cells #[] 2)) (by (repeat (first | (with_reducible exact Below.refl _ _) | (with_reducible assumption) | ((with_reducible refine Below.alloc ?_ ?_ _); rotate_left; focus ((try simp only [World.size_alloc, size_setCell, World.heap_drewN]); (try omega); done)) | ((with_reducible refine Below.setCell ?_ ?_ _); rotate_left; focus ((try simp only [World.size_alloc, size_setCell, World.heap_drewN]); (try omega); done)) | (with_reducible refine Below.drewN' ?_) | (with_reducible refine Below.drew ?_)))) hf5.below)) (by simp [Value.oneCell']) (by unfold maxLen; simp only [List.length_map]; omega) (by simp only [List.length_map]; omega) ?_; intro v7 w7 ho7 hg7 hat7; obtain ⟨NL, hNL⟩ : ∃ NL, (si.map (Value.int .i64)).length + (nw.map (Value.int .i64)).length = NL := ⟨_, rfl⟩; rw [hNL] at ho7; obtain ⟨pa, pc, rfl⟩ := row_form ho7; obtain ⟨hw7, hb7⟩ := wants_step (old := si) (nw := nw) HA6.out hf5 hg7 ho7 true; have HW7 := Lib.hid hw7; have dx7 := cell_of ((hb7.block _ (lt_of_block HX6.out)).trans HX6.out) 0 _ rfl; obtain ⟨ys, hrow7, hrows7⟩ := HW7.out.row)
            | (at_builtin; refine wpList_append_lies _ (by rfl) _ _ _ (by rfl) w.heap.size 92 i0 _ 2 32 Tryd.underlying47 hi0 hz0 hz1 hz2 rfl (by omega) (.slice ra outs.length rc) outs.length ys (by rfl) (row_grow hrow7 (by (repeat (first | (with_reducible exact Below.refl _ _) | (with_reducible assumption) | ((with_reducible refine Below.alloc ?_ ?_ _); rotate_left; focus ((try simp only [World.size_alloc, size_setCell, World.heap_drewN]); (try omega); done)) | ((with_reducible refine Below.setCell ?_ ?_ _); rotate_left; focus ((try simp only [World.size_alloc, size_setCell, World.heap_drewN]); (try omega); done)) | (with_reducible refine Below.drewN' ?_) | (with_reducible refine Below.drew ?_))))) ⟨w7.heap.size, 0, none⟩ 1 1 [.bool false, .slice pa NL pc] (by rfl) (by rfl) (news_lies (heap_at _ _ _ rfl) (by simp)) (by simp [Value.oneCell']) (by omega) (by have := HOL.out; unfold maxLen; omega) (by have := HOL.out; omega) (by have := HW7.out.bel.size; simp only [World.size_alloc]; omega) _ rfl ?_; intro g cap2 w8 hown hgrow hat hlt8))
          have HB : Hid (WIn w (runsG cutN oneN df (l.take (k + 1))).1 (runsG cutN oneN df (l.take (k + 1))).2 (.slice (some ⟨g, 0, none⟩) (outs.length + 1) cap2) (.slice pa NL pc) w8) := Lib.hid (by
            rw [HST.out]
            have hb8 : Below w7.heap.size w7 (w7.alloc (.cells #[.bool false, .slice pa NL pc] 92)) := by (repeat (first | (with_reducible exact Below.refl _ _) | (with_reducible assumption) | ((with_reducible refine Below.alloc ?_ ?_ _); rotate_left; focus ((try simp only [World.size_alloc, size_setCell, World.heap_drewN]); (try omega); done)) | ((with_reducible refine Below.setCell ?_ ?_ _); rotate_left; focus ((try simp only [World.size_alloc, size_setCell, World.heap_drewN]); (try omega); done)) | (with_reducible refine Below.drewN' ?_) | (with_reducible refine Below.drew ?_)))
            exact (HW7.out.later hb8).told (row_grow hrow7 hb8) (hrows7.later fun o cs hi => hi.grown fun b _ _ hb' => hb8.block b (lt_of_block hb')) hgrow false hown)
          have HLN2 : Hid ((runsG cutN oneN df (l.take (k + 1))).1.2.length ≤ 1048577 * ((k + 1) + 1)) := Lib.hid (by rw [HST.out]; exact HLL.out)
          have HBN : Hid (true = (runsG cutN oneN df (l.take (k + 1))).1.1) := Lib.hid (by rw [HST.out])
          clear hown hgrow hat hlt8 dx7 dx6 hrow7 hrows7
          go_wp2_with fail
          go_roundw
          case rel => first | exact ⟨k + 1, by omega, by go_num, HLN2.out, by rw [← HBN.out], HB.out⟩ | ((repeat apply Exists.intro); exact ⟨⟨k + 1, by omega, by go_num, HLN2.out, by rw [← HBN.out], HB.out⟩, rfl⟩)
          case measure => simp [intOf]; omega
    by_cases d2 : xd = 2
    · subst d2
      cases bs with
      | false =>
        have HC : Hid (WIn w (false, si) outs (.slice ra outs.length rc) (.slice ia si.length ic) ((wr.alloc (.cells #[.int .i64 2, .string xs', .slice ta tn tc] 57)))) := Lib.hid (HR.out.later (by (repeat (first | (with_reducible exact Below.refl _ _) | (with_reducible assumption) | ((with_reducible refine Below.alloc ?_ ?_ _); rotate_left; focus ((try simp only [World.size_alloc, size_setCell, World.heap_drewN]); (try omega); done)) | ((with_reducible refine Below.setCell ?_ ?_ _); rotate_left; focus ((try simp only [World.size_alloc, size_setCell, World.heap_drewN]); (try omega); done)) | (with_reducible refine Below.drewN' ?_) | (with_reducible refine Below.drew ?_)))))
        have C := Lib.hid (eachN_any (.slice ta tn tc) xl ((wr.alloc (.cells #[.int .i64 2, .string xs', .slice ta tn tc] 57))) (H3.out.alloc _) (Nat.le_trans HSM.out.2.1 (by decide)) (fun t ht => Nat.le_trans (HSM.out.2.2 t ht) (by decide)))
        have HSE := Lib.hid (stepN2 (false, si) xs' xl)
        have HLQ : Hid ((stepG cutN oneN (false, si) ⟨2, xs', xl⟩).2.2.length ≤ 1048577 * (k + 2)) := Lib.hid (by have h1 := step_len (false, si) ⟨2, xs', xl⟩ HSM.out.1 HSM.out.2.1; have h2 := HLE.out; simp only at h1; omega)
        have HRN : Hid (runsG cutN oneN df (l.take (k + 1)) = ((stepG cutN oneN (false, si) ⟨2, xs', xl⟩).2, outs ++ [((stepG cutN oneN (false, si) ⟨2, xs', xl⟩).1, (stepG cutN oneN (false, si) ⟨2, xs', xl⟩).2.2)])) := Lib.hid (by rw [HN.out, runG_yes (.inr (.inr rfl))])
        have HPL : Hid (∀ nw, eachG oneN xl = some nw → nw.length ≤ 1048577) := Lib.hid (fun nw h => by have he := each_len h; have := HSM.out.2.1; simp only at this; omega)
        rw [HSE.out] at HLQ HRN
        clear HSE HN
        generalize eachG oneN xl = R at *
        obtain ⟨i0, hi0, hz0, hz1, hz2⟩ := info_parts infoW
        cases R with
        | none =>
          simp only at HLQ HRN
          simp only [Option.isNone_none, isN, if_true] at C
          go_wp2_with fail
          refine C.out.mono ?_
          rintro e w6 ⟨v14, rfl, hli, hb6⟩
          have h14 : v14 = .slice none 0 0 := hli
          subst h14
          have HA6 := Lib.hid (HC.out.later hb6)
          obtain ⟨ys, hrow7, hrows7⟩ := HA6.out.row
          clear hb6 hli HC C
          go_wp2_with (at_builtin; refine wpList_append_lies _ (by rfl) _ _ _ (by rfl) w.heap.size 92 i0 _ 2 32 Tryd.underlying47 hi0 hz0 hz1 hz2 rfl (by omega) (.slice ra outs.length rc) outs.length ys (by rfl) (row_grow hrow7 (by (repeat (first | (with_reducible exact Below.refl _ _) | (with_reducible assumption) | ((with_reducible refine Below.alloc ?_ ?_ _); rotate_left; focus ((try simp only [World.size_alloc, size_setCell, World.heap_drewN]); (try omega); done)) | ((with_reducible refine Below.setCell ?_ ?_ _); rotate_left; focus ((try simp only [World.size_alloc, size_setCell, World.heap_drewN]); (try omega); done)) | (with_reducible refine Below.drewN' ?_) | (with_reducible refine Below.drew ?_))))) ⟨w6.heap.size, 0, none⟩ 1 1 [.bool true, .slice ia si.length ic] (by rfl) (by rfl) (news_lies (heap_at _ _ _ rfl) (by simp)) (by simp [Value.oneCell']) (by omega) (by have := HOL.out; unfold maxLen; omega) (by have := HOL.out; omega) (by have := HA6.out.bel.size; simp only [World.size_alloc]; omega) _ rfl ?_; intro g cap2 w8 hown hgrow hat hlt8)
          have HB : Hid (WIn w (runsG cutN oneN df (l.take (k + 1))).1 (runsG cutN oneN df (l.take (k + 1))).2 (.slice (some ⟨g, 0, none⟩) (outs.length + 1) cap2) (.slice ia si.length ic) w8) := Lib.hid (by
            rw [HRN.out]
            have hb8 : Below w6.heap.size w6 (w6.alloc (.cells #[.bool true, .slice ia si.length ic] 92)) := by (repeat (first | (with_reducible exact Below.refl _ _) | (with_reducible assumption) | ((with_reducible refine Below.alloc ?_ ?_ _); rotate_left; focus ((try simp only [World.size_alloc, size_setCell, World.heap_drewN]); (try omega); done)) | ((with_reducible refine Below.setCell ?_ ?_ _); rotate_left; focus ((try simp only [World.size_alloc, size_setCell, World.heap_drewN]); (try omega); done)) | (with_reducible refine Below.drewN' ?_) | (with_reducible refine Below.drew ?_)))
            exact (HA6.out.later hb8).told (row_grow hrow7 hb8) (hrows7.later fun o cs hi => hi.grown fun b _ _ hb' => hb8.block b (lt_of_block hb')) hgrow true hown)
          have HLN2 : Hid ((runsG cutN oneN df (l.take (k + 1))).1.2.length ≤ 1048577 * ((k + 1) + 1)) := Lib.hid (by rw [HRN.out]; exact HLQ.out)
          have HBN : Hid (false = (runsG cutN oneN df (l.take (k + 1))).1.1) := Lib.hid (by rw [HRN.out])
          clear hown hgrow hat hlt8 hrow7 hrows7
          go_wp2_with fail
          go_roundw
          case rel => first | exact ⟨k + 1, by omega, by go_num, HLN2.out, by rw [← HBN.out], HB.out⟩ | ((repeat apply Exists.intro); exact ⟨⟨k + 1, by omega, by go_num, HLN2.out, by rw [← HBN.out], HB.out⟩, rfl⟩)
          case measure => simp [intOf]; omega
        | some nw =>
          simp only at HLQ HRN
          simp only [Option.isNone_some, isN, Bool.false_eq_true, if_false] at C
          go_wp2_with fail
          refine C.out.mono ?_
          rintro e w6 ⟨v14, rfl, hli, hb6⟩
          have ho6 : w6.ownsRow _ 2 1 v14 nw.length (nw.map (Value.int .i64)) := hli
          have HA6 := Lib.hid (HC.out.later hb6)
          have hx6 : w6.heap[wr.heap.size]? = some (.cells #[.int .i64 2, .string xs', .slice ta tn tc] 57 (0, 0)) := (hb6.block _ (by simp only [World.size_alloc]; omega)).trans (by (repeat (first | (with_reducible assumption) | ((with_reducible refine heap_past' ?_ ?_); focus ((try simp only [World.size_alloc, size_setCell, World.heap_drewN]); (try omega); done)) | ((with_reducible refine heap_at _ _ _ ?_); focus ((try simp only [World.size_alloc, size_setCell, World.heap_drewN]); (try omega); done)) | ((with_reducible refine heap_ne' ?_ ?_); focus ((try simp only [World.size_alloc, size_setCell, World.heap_drewN]); (try omega); done)) | (with_reducible refine heap_drew' ?_))))
          have dx6 := cell_of hx6 0 _ rfl
          have HX6 := Lib.hid hx6
          obtain ⟨na, nc, rfl⟩ := row_form ho6
          have HPn : Hid (∀ W, Below w6.heap.size w6 W → Vals W (.slice na nw.length nc) (nw.map (Value.int .i64))) := Lib.hid (fun W h => by have := (Vals.owned ho6).later h.block; exact this)
          have HQo : Hid (∀ W, Below w6.heap.size w6 W → Vals W (.slice none 0 0) (([] : List Int).map (Value.int .i64))) := Lib.hid (fun W h => ⟨none, 0, rfl, .inl rfl⟩)
          have hlo : ([] : List Int).length ≤ 1048577 * (k + 1) := by have := HLE.out; first | omega | (simp; done)
          have hln : nw.length ≤ 1048577 := HPL.out nw rfl
          have HST : Hid (runsG cutN oneN df (l.take (k + 1)) = ((false, ([] : List Int) ++ nw), outs ++ [(false, ([] : List Int) ++ nw)])) := Lib.hid (by rw [HRN.out] <;> simp)
          have HLL : Hid ((([] : List Int) ++ nw).length ≤ 1048577 * (k + 2)) := Lib.hid (by have := HLQ.out; simpa using this)
          clear hx6 ho6 hli hb6 HC C HLQ HRN HPL
          go_wp2_with (first
            | (at_builtin; refine wpList_append_fresh (by rfl) _ _ 39 2 (by rfl) Tryd.underlying39 infoL rfl _ (by rfl) (heap_at _ _ _ (by (simp only [World.size_alloc, size_setCell, World.heap_drewN]))) _ (by rfl) (([] : List Int).map (Value.int .i64)) (HQo.out _ (by (repeat (first | (with_reducible exact Below.refl _ _) | (with_reducible assumption) | ((with_reducible refine Below.alloc ?_ ?_ _); rotate_left; focus ((try simp only [World.size_alloc, size_setCell, World.heap_drewN]); (try omega); done)) | ((with_reducible refine Below.setCell ?_ ?_ _); rotate_left; focus ((try simp only [World.size_alloc, size_setCell, World.heap_drewN]); (try omega); done)) | (with_reducible refine Below.drewN' ?_) | (with_reducible refine Below.drew ?_))))) (by simp [Value.oneCell']) (by unfold maxLen; rw [List.length_map]; omega) (by rw [List.length_map]; omega) ?_; intro v5 w5 hf5)
            | (at_builtin; refine wpList_append_vals (by rfl) _ _ 39 2 (by rfl) Tryd.underlying39 infoL rfl w6.heap.size v5 _ (([] : List Int).map (Value.int .i64)) (by rfl) hf5.2.1 (Nat.le_trans (Nat.le_of_lt (by simp only [World.size_alloc]; omega)) hf5.below.size) _ (by rfl) (nw.map (Value.int .i64)) (HPn.out _ (Below.after (b := w6.alloc (.cells #[] 2)) (by (repeat (first | (with_reducible exact Below.refl _ _) | (with_reducible assumption) | ((with_reducible refine Below.alloc ?_ ?_ _); rotate_left; focus ((try simp only [World.size_alloc, size_setCell, World.heap_drewN]); (try omega); done)) | ((with_reducible refine Below.setCell ?_ ?_ _); rotate_left; focus ((try simp only [World.size_alloc, size_setCell, World.heap_drewN]); (try omega); done)) | (with_reducible refine Below.drewN' ?_) | (with_reducible refine Below.drew ?_)))) hf5.below)) (by simp [Value.oneCell']) (by unfold maxLen; simp only [List.length_map]; omega) (by simp only [List.length_map]; omega) ?_; intro v7 w7 ho7 hg7 hat7; obtain ⟨NL, hNL⟩ : ∃ NL, (([] : List Int).map (Value.int .i64)).length + (nw.map (Value.int .i64)).length = NL := ⟨_, rfl⟩; rw [hNL] at ho7; obtain ⟨pa, pc, rfl⟩ := row_form ho7; obtain ⟨hw7, hb7⟩ := wants_step (old := ([] : List Int)) (nw := nw) HA6.out hf5 hg7 ho7 false; have HW7 := Lib.hid hw7; have dx7 := cell_of ((hb7.block _ (lt_of_block HX6.out)).trans HX6.out) 0 _ rfl; obtain ⟨ys, hrow7, hrows7⟩ := HW7.out.row)
            | (at_builtin; refine wpList_append_lies _ (by rfl) _ _ _ (by rfl) w.heap.size 92 i0 _ 2 32 Tryd.underlying47 hi0 hz0 hz1 hz2 rfl (by omega) (.slice ra outs.length rc) outs.length ys (by rfl) (row_grow hrow7 (by (repeat (first | (with_reducible exact Below.refl _ _) | (with_reducible assumption) | ((with_reducible refine Below.alloc ?_ ?_ _); rotate_left; focus ((try simp only [World.size_alloc, size_setCell, World.heap_drewN]); (try omega); done)) | ((with_reducible refine Below.setCell ?_ ?_ _); rotate_left; focus ((try simp only [World.size_alloc, size_setCell, World.heap_drewN]); (try omega); done)) | (with_reducible refine Below.drewN' ?_) | (with_reducible refine Below.drew ?_))))) ⟨w7.heap.size, 0, none⟩ 1 1 [.bool false, .slice pa NL pc] (by rfl) (by rfl) (news_lies (heap_at _ _ _ rfl) (by simp)) (by simp [Value.oneCell']) (by omega) (by have := HOL.out; unfold maxLen; omega) (by have := HOL.out; omega) (by have := HW7.out.bel.size; simp only [World.size_alloc]; omega) _ rfl ?_; intro g cap2 w8 hown hgrow hat hlt8))
          have HB : Hid (WIn w (runsG cutN oneN df (l.take (k + 1))).1 (runsG cutN oneN df (l.take (k + 1))).2 (.slice (some ⟨g, 0, none⟩) (outs.length + 1) cap2) (.slice pa NL pc) w8) := Lib.hid (by
            rw [HST.out]
            have hb8 : Below w7.heap.size w7 (w7.alloc (.cells #[.bool false, .slice pa NL pc] 92)) := by (repeat (first | (with_reducible exact Below.refl _ _) | (with_reducible assumption) | ((with_reducible refine Below.alloc ?_ ?_ _); rotate_left; focus ((try simp only [World.size_alloc, size_setCell, World.heap_drewN]); (try omega); done)) | ((with_reducible refine Below.setCell ?_ ?_ _); rotate_left; focus ((try simp only [World.size_alloc, size_setCell, World.heap_drewN]); (try omega); done)) | (with_reducible refine Below.drewN' ?_) | (with_reducible refine Below.drew ?_)))
            exact (HW7.out.later hb8).told (row_grow hrow7 hb8) (hrows7.later fun o cs hi => hi.grown fun b _ _ hb' => hb8.block b (lt_of_block hb')) hgrow false hown)
          have HLN2 : Hid ((runsG cutN oneN df (l.take (k + 1))).1.2.length ≤ 1048577 * ((k + 1) + 1)) := Lib.hid (by rw [HST.out]; exact HLL.out)
          have HBN : Hid (false = (runsG cutN oneN df (l.take (k + 1))).1.1) := Lib.hid (by rw [HST.out])
          clear hown hgrow hat hlt8 dx7 dx6 hrow7 hrows7
          go_wp2_with fail
          go_roundw
          case rel => first | exact ⟨k + 1, by omega, by go_num, HLN2.out, by rw [← HBN.out], HB.out⟩ | ((repeat apply Exists.intro); exact ⟨⟨k + 1, by omega, by go_num, HLN2.out, by rw [← HBN.out], HB.out⟩, rfl⟩)
          case measure => simp [intOf]; omega
      | true =>
        have HC : Hid (WIn w (true, si) outs (.slice ra outs.length rc) (.slice ia si.length ic) ((wr.alloc (.cells #[.int .i64 2, .string xs', .slice ta tn tc] 57)))) := Lib.hid (HR.out.later (by (repeat (first | (with_reducible exact Below.refl _ _) | (with_reducible assumption) | ((with_reducible refine Below.alloc ?_ ?_ _); rotate_left; focus ((try simp only [World.size_alloc, size_setCell, World.heap_drewN]); (try omega); done)) | ((with_reducible refine Below.setCell ?_ ?_ _); rotate_left; focus ((try simp only [World.size_alloc, size_setCell, World.heap_drewN]); (try omega); done)) | (with_reducible refine Below.drewN' ?_) | (with_reducible refine Below.drew ?_)))))
        have C := Lib.hid (eachN_any (.slice ta tn tc) xl ((wr.alloc (.cells #[.int .i64 2, .string xs', .slice ta tn tc] 57))) (H3.out.alloc _) (Nat.le_trans HSM.out.2.1 (by decide)) (fun t ht => Nat.le_trans (HSM.out.2.2 t ht) (by decide)))
        have HSE := Lib.hid (stepN2 (true, si) xs' xl)
        have HLQ : Hid ((stepG cutN oneN (true, si) ⟨2, xs', xl⟩).2.2.length ≤ 1048577 * (k + 2)) := Lib.hid (by have h1 := step_len (true, si) ⟨2, xs', xl⟩ HSM.out.1 HSM.out.2.1; have h2 := HLE.out; simp only at h1; omega)
        have HRN : Hid (runsG cutN oneN df (l.take (k + 1)) = ((stepG cutN oneN (true, si) ⟨2, xs', xl⟩).2, outs ++ [((stepG cutN oneN (true, si) ⟨2, xs', xl⟩).1, (stepG cutN oneN (true, si) ⟨2, xs', xl⟩).2.2)])) := Lib.hid (by rw [HN.out, runG_yes (.inr (.inr rfl))])
        have HPL : Hid (∀ nw, eachG oneN xl = some nw → nw.length ≤ 1048577) := Lib.hid (fun nw h => by have he := each_len h; have := HSM.out.2.1; simp only at this; omega)
        rw [HSE.out] at HLQ HRN
        clear HSE HN
        generalize eachG oneN xl = R at *
        obtain ⟨i0, hi0, hz0, hz1, hz2⟩ := info_parts infoW
        cases R with
        | none =>
          simp only at HLQ HRN
          simp only [Option.isNone_none, isN, if_true] at C
          go_wp2_with fail
          refine C.out.mono ?_
          rintro e w6 ⟨v14, rfl, hli, hb6⟩
          have h14 : v14 = .slice none 0 0 := hli
          subst h14
          have HA6 := Lib.hid (HC.out.later hb6)
          obtain ⟨ys, hrow7, hrows7⟩ := HA6.out.row
          clear hb6 hli HC C
          go_wp2_with (at_builtin; refine wpList_append_lies _ (by rfl) _ _ _ (by rfl) w.heap.size 92 i0 _ 2 32 Tryd.underlying47 hi0 hz0 hz1 hz2 rfl (by omega) (.slice ra outs.length rc) outs.length ys (by rfl) (row_grow hrow7 (by (repeat (first | (with_reducible exact Below.refl _ _) | (with_reducible assumption) | ((with_reducible refine Below.alloc ?_ ?_ _); rotate_left; focus ((try simp only [World.size_alloc, size_setCell, World.heap_drewN]); (try omega); done)) | ((with_reducible refine Below.setCell ?_ ?_ _); rotate_left; focus ((try simp only [World.size_alloc, size_setCell, World.heap_drewN]); (try omega); done)) | (with_reducible refine Below.drewN' ?_) | (with_reducible refine Below.drew ?_))))) ⟨w6.heap.size, 0, none⟩ 1 1 [.bool true, .slice ia si.length ic] (by rfl) (by rfl) (news_lies (heap_at _ _ _ rfl) (by simp)) (by simp [Value.oneCell']) (by omega) (by have := HOL.out; unfold maxLen; omega) (by have := HOL.out; omega) (by have := HA6.out.bel.size; simp only [World.size_alloc]; omega) _ rfl ?_; intro g cap2 w8 hown hgrow hat hlt8)
          have HB : Hid (WIn w (runsG cutN oneN df (l.take (k + 1))).1 (runsG cutN oneN df (l.take (k + 1))).2 (.slice (some ⟨g, 0, none⟩) (outs.length + 1) cap2) (.slice ia si.length ic) w8) := Lib.hid (by
            rw [HRN.out]
            have hb8 : Below w6.heap.size w6 (w6.alloc (.cells #[.bool true, .slice ia si.length ic] 92)) := by (repeat (first | (with_reducible exact Below.refl _ _) | (with_reducible assumption) | ((with_reducible refine Below.alloc ?_ ?_ _); rotate_left; focus ((try simp only [World.size_alloc, size_setCell, World.heap_drewN]); (try omega); done)) | ((with_reducible refine Below.setCell ?_ ?_ _); rotate_left; focus ((try simp only [World.size_alloc, size_setCell, World.heap_drewN]); (try omega); done)) | (with_reducible refine Below.drewN' ?_) | (with_reducible refine Below.drew ?_)))
            exact (HA6.out.later hb8).told (row_grow hrow7 hb8) (hrows7.later fun o cs hi => hi.grown fun b _ _ hb' => hb8.block b (lt_of_block hb')) hgrow true hown)
          have HLN2 : Hid ((runsG cutN oneN df (l.take (k + 1))).1.2.length ≤ 1048577 * ((k + 1) + 1)) := Lib.hid (by rw [HRN.out]; exact HLQ.out)
          have HBN : Hid (true = (runsG cutN oneN df (l.take (k + 1))).1.1) := Lib.hid (by rw [HRN.out])
          clear hown hgrow hat hlt8 hrow7 hrows7
          go_wp2_with fail
          go_roundw
          case rel => first | exact ⟨k + 1, by omega, by go_num, HLN2.out, by rw [← HBN.out], HB.out⟩ | ((repeat apply Exists.intro); exact ⟨⟨k + 1, by omega, by go_num, HLN2.out, by rw [← HBN.out], HB.out⟩, rfl⟩)
          case measure => simp [intOf]; omega
        | some nw =>
          simp only at HLQ HRN
          simp only [Option.isNone_some, isN, Bool.false_eq_true, if_false] at C
          go_wp2_with fail
          refine C.out.mono ?_
          rintro e w6 ⟨v14, rfl, hli, hb6⟩
          have ho6 : w6.ownsRow _ 2 1 v14 nw.length (nw.map (Value.int .i64)) := hli
          have HA6 := Lib.hid (HC.out.later hb6)
          have hx6 : w6.heap[wr.heap.size]? = some (.cells #[.int .i64 2, .string xs', .slice ta tn tc] 57 (0, 0)) := (hb6.block _ (by simp only [World.size_alloc]; omega)).trans (by (repeat (first | (with_reducible assumption) | ((with_reducible refine heap_past' ?_ ?_); focus ((try simp only [World.size_alloc, size_setCell, World.heap_drewN]); (try omega); done)) | ((with_reducible refine heap_at _ _ _ ?_); focus ((try simp only [World.size_alloc, size_setCell, World.heap_drewN]); (try omega); done)) | ((with_reducible refine heap_ne' ?_ ?_); focus ((try simp only [World.size_alloc, size_setCell, World.heap_drewN]); (try omega); done)) | (with_reducible refine heap_drew' ?_))))
          have dx6 := cell_of hx6 0 _ rfl
          have HX6 := Lib.hid hx6
          obtain ⟨na, nc, rfl⟩ := row_form ho6
          have HPn : Hid (∀ W, Below w6.heap.size w6 W → Vals W (.slice na nw.length nc) (nw.map (Value.int .i64))) := Lib.hid (fun W h => by have := (Vals.owned ho6).later h.block; exact this)
          have HQo : Hid (∀ W, Below w6.heap.size w6 W → Vals W (.slice none 0 0) (([] : List Int).map (Value.int .i64))) := Lib.hid (fun W h => ⟨none, 0, rfl, .inl rfl⟩)
          have hlo : ([] : List Int).length ≤ 1048577 * (k + 1) := by have := HLE.out; first | omega | (simp; done)
          have hln : nw.length ≤ 1048577 := HPL.out nw rfl
          have HST : Hid (runsG cutN oneN df (l.take (k + 1)) = ((true, ([] : List Int) ++ nw), outs ++ [(false, ([] : List Int) ++ nw)])) := Lib.hid (by rw [HRN.out] <;> simp)
          have HLL : Hid ((([] : List Int) ++ nw).length ≤ 1048577 * (k + 2)) := Lib.hid (by have := HLQ.out; simpa using this)
          clear hx6 ho6 hli hb6 HC C HLQ HRN HPL
          go_wp2_with (first
            | (at_builtin; refine wpList_append_fresh (by rfl) _ _ 39 2 (by rfl) Tryd.underlying39 infoL rfl _ (by rfl) (heap_at _ _ _ (by (simp only [World.size_alloc, size_setCell, World.heap_drewN]))) _ (by rfl) (([] : List Int).map (Value.int .i64)) (HQo.out _ (by (repeat (first | (with_reducible exact Below.refl _ _) | (with_reducible assumption) | ((with_reducible refine Below.alloc ?_ ?_ _); rotate_left; focus ((try simp only [World.size_alloc, size_setCell, World.heap_drewN]); (try omega); done)) | ((with_reducible refine Below.setCell ?_ ?_ _); rotate_left; focus ((try simp only [World.size_alloc, size_setCell, World.heap_drewN]); (try omega); done)) | (with_reducible refine Below.drewN' ?_) | (with_reducible refine Below.drew ?_))))) (by simp [Value.oneCell']) (by unfold maxLen; rw [List.length_map]; omega) (by rw [List.length_map]; omega) ?_; intro v5 w5 hf5)
            | (at_builtin; refine wpList_append_vals (by rfl) _ _ 39 2 (by rfl) Tryd.underlying39 infoL rfl w6.heap.size v5 _ (([] : List Int).map (Value.int .i64)) (by rfl) hf5.2.1 (Nat.le_trans (Nat.le_of_lt (by simp only [World.size_alloc]; omega)) hf5.below.size) _ (by rfl) (nw.map (Value.int .i64)) (HPn.out _ (Below.after (b := w6.alloc (.cells #[] 2)) (by (repeat (first | (with_reducible exact Below.refl _ _) | (with_reducible assumption) | ((with_reducible refine Below.alloc ?_ ?_ _); rotate_left; focus ((try simp only [World.size_alloc, size_setCell, World.heap_drewN]); (try omega); done)) | ((with_reducible refine Below.setCell ?_ ?_ _); rotate_left; focus ((try simp only [World.size_alloc, size_setCell, World.heap_drewN]); (try omega); done)) | (with_reducible refine Below.drewN' ?_) | (with_reducible refine Below.drew ?_)))) hf5.below)) (by simp [Value.oneCell']) (by unfold maxLen; simp only [List.length_map]; omega) (by simp only [List.length_map]; omega) ?_; intro v7 w7 ho7 hg7 hat7; obtain ⟨NL, hNL⟩ : ∃ NL, (([] : List Int).map (Value.int .i64)).length + (nw.map (Value.int .i64)).length = NL := ⟨_, rfl⟩; rw [hNL] at ho7; obtain ⟨pa, pc, rfl⟩ := row_form ho7; obtain ⟨hw7, hb7⟩ := wants_step (old := ([] : List Int)) (nw := nw) HA6.out hf5 hg7 ho7 true; have HW7 := Lib.hid hw7; have dx7 := cell_of ((hb7.block _ (lt_of_block HX6.out)).trans HX6.out) 0 _ rfl; obtain ⟨ys, hrow7, hrows7⟩ := HW7.out.row)
            | (at_builtin; refine wpList_append_lies _ (by rfl) _ _ _ (by rfl) w.heap.size 92 i0 _ 2 32 Tryd.underlying47 hi0 hz0 hz1 hz2 rfl (by omega) (.slice ra outs.length rc) outs.length ys (by rfl) (row_grow hrow7 (by (repeat (first | (with_reducible exact Below.refl _ _) | (with_reducible assumption) | ((with_reducible refine Below.alloc ?_ ?_ _); rotate_left; focus ((try simp only [World.size_alloc, size_setCell, World.heap_drewN]); (try omega); done)) | ((with_reducible refine Below.setCell ?_ ?_ _); rotate_left; focus ((try simp only [World.size_alloc, size_setCell, World.heap_drewN]); (try omega); done)) | (with_reducible refine Below.drewN' ?_) | (with_reducible refine Below.drew ?_))))) ⟨w7.heap.size, 0, none⟩ 1 1 [.bool false, .slice pa NL pc] (by rfl) (by rfl) (news_lies (heap_at _ _ _ rfl) (by simp)) (by simp [Value.oneCell']) (by omega) (by have := HOL.out; unfold maxLen; omega) (by have := HOL.out; omega) (by have := HW7.out.bel.size; simp only [World.size_alloc]; omega) _ rfl ?_; intro g cap2 w8 hown hgrow hat hlt8))
          have HB : Hid (WIn w (runsG cutN oneN df (l.take (k + 1))).1 (runsG cutN oneN df (l.take (k + 1))).2 (.slice (some ⟨g, 0, none⟩) (outs.length + 1) cap2) (.slice pa NL pc) w8) := Lib.hid (by
            rw [HST.out]
            have hb8 : Below w7.heap.size w7 (w7.alloc (.cells #[.bool false, .slice pa NL pc] 92)) := by (repeat (first | (with_reducible exact Below.refl _ _) | (with_reducible assumption) | ((with_reducible refine Below.alloc ?_ ?_ _); rotate_left; focus ((try simp only [World.size_alloc, size_setCell, World.heap_drewN]); (try omega); done)) | ((with_reducible refine Below.setCell ?_ ?_ _); rotate_left; focus ((try simp only [World.size_alloc, size_setCell, World.heap_drewN]); (try omega); done)) | (with_reducible refine Below.drewN' ?_) | (with_reducible refine Below.drew ?_)))
            exact (HW7.out.later hb8).told (row_grow hrow7 hb8) (hrows7.later fun o cs hi => hi.grown fun b _ _ hb' => hb8.block b (lt_of_block hb')) hgrow false hown)
          have HLN2 : Hid ((runsG cutN oneN df (l.take (k + 1))).1.2.length ≤ 1048577 * ((k + 1) + 1)) := Lib.hid (by rw [HST.out]; exact HLL.out)
          have HBN : Hid (true = (runsG cutN oneN df (l.take (k + 1))).1.1) := Lib.hid (by rw [HST.out])
          clear hown hgrow hat hlt8 dx7 dx6 hrow7 hrows7
          go_wp2_with fail
          go_roundw
          case rel => first | exact ⟨k + 1, by omega, by go_num, HLN2.out, by rw [← HBN.out], HB.out⟩ | ((repeat apply Exists.intro); exact ⟨⟨k + 1, by omega, by go_num, HLN2.out, by rw [← HBN.out], HB.out⟩, rfl⟩)
          case measure => simp [intOf]; omega
    · have e0 : decide (xd = 0) = false := decide_eq_false d0
      have e1 : decide (xd = 1) = false := decide_eq_false d1
      have e2 : decide (xd = 2) = false := decide_eq_false d2
      have HB : Hid (WIn w (runsG cutN oneN df (l.take (k + 1))).1 (runsG cutN oneN df (l.take (k + 1))).2 (.slice ra outs.length rc) (.slice ia si.length ic) (wr.alloc (.cells #[.int .i64 xd, .string xs', .slice ta tn tc] 57))) := Lib.hid (by
        rw [HN.out, runG_no d0 d1 d2]
        exact HR.out.later (by (repeat (first | (with_reducible exact Below.refl _ _) | (with_reducible assumption) | ((with_reducible refine Below.alloc ?_ ?_ _); rotate_left; focus ((try simp only [World.size_alloc, size_setCell, World.heap_drewN]); (try omega); done)) | ((with_reducible refine Below.setCell ?_ ?_ _); rotate_left; focus ((try simp only [World.size_alloc, size_setCell, World.heap_drewN]); (try omega); done)) | (with_reducible refine Below.drewN' ?_) | (with_reducible refine Below.drew ?_)))))
      have HLN2 : Hid ((runsG cutN oneN df (l.take (k + 1))).1.2.length ≤ 1048577 * ((k + 1) + 1)) := Lib.hid (by rw [HN.out, runG_no d0 d1 d2]; have := HLE.out; simp only; omega)
      have HBN : Hid (bs = (runsG cutN oneN df (l.take (k + 1))).1.1) := Lib.hid (by rw [HN.out, runG_no d0 d1 d2])
      go_wp2_with fail
      go_roundw
      case rel => first | exact ⟨k + 1, by omega, by go_num, HLN2.out, by rw [HBN.out], HB.out⟩ | ((repeat apply Exists.intro); exact ⟨⟨k + 1, by omega, by go_num, HLN2.out, by rw [HBN.out], HB.out⟩, rfl⟩)
      case measure => simp [intOf]; omega
end Go.Proofs.YtlnnmionbflolaaDoor
