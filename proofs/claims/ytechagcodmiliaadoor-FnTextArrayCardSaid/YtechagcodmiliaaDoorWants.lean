/- What a list of texts is to be behind each step: wants29 at texts that are not cut. (Printed by gen_want.py.) -/
import Derived.Test.YtechagcodmiliaaDoorArrays
import Derived.Test.YtechagcodmiliaaDoorKeeps
import Derived.Test.YtechagcodmiliaaDoorOpenP
namespace Go.Proofs.YtechagcodmiliaaDoor
open Go.RowKit
set_option linter.unusedVariables false
set_option linter.unusedSimpArgs false

theorem infoW : (Tryd.prog.info? 43).map (fun i => (i.zero, i.size, i.bytes)) = some (some (.agg #[.bool false, .slice none 0 0]), 2, 32) := by kernel_rfl
theorem itself_any (t : ByteArray) (w : World) : Calls Tryd.prog 15 #[.string t] w fun e w' => e = .returned (.tuple #[.string t, .int .i64 1]) ∧ w = w' := by
  go_enter Tryd.func15, Tryd.ntmps15
  go_wp2
  go_ret2
  exact ⟨rfl, rfl⟩
theorem cut_any (t : ByteArray) (w : World) : Calls Tryd.prog 8 #[.string t] w fun e w' => ∃ v, e = .returned (.tuple #[v, .int .i64 1]) ∧ w'.ownsRow w.heap.size 9 1 v 1 [.string t] ∧ Below w.heap.size w w' := by
  go_enter Tryd.func8, Tryd.ntmps8
  go_wp2
  go_ret2
  exact ⟨_, rfl, ⟨rfl, .inr ⟨w.heap.size, 1, #[.string t], rfl, Nat.le_refl _, heap_at _ _ _ rfl, Nat.le_refl _, by decide, rfl, rfl⟩⟩, by (repeat (first | (with_reducible exact Below.refl _ _) | (with_reducible assumption) | ((with_reducible refine Below.alloc ?_ ?_ _); rotate_left; focus ((try simp only [World.size_alloc, size_setCell, World.heap_drewN]); (try omega); done)) | ((with_reducible refine Below.setCell ?_ ?_ _); rotate_left; focus ((try simp only [World.size_alloc, size_setCell, World.heap_drewN]); (try omega); done)) | (with_reducible refine Below.drewN' ?_) | (with_reducible refine Below.drew ?_)))⟩

set_option maxRecDepth 100000 in
theorem each_any (v : Value) (l : List ByteArray) (w : World) (hv : Strs w v l) (hl : l.length ≤ 2147483647) :
    Calls Tryd.prog 18 #[v, .func (.func 15) #[] #[]] w fun e w' => ∃ rv, e = .returned (.tuple #[rv, .int .i64 1]) ∧ w'.ownsRow w.heap.size 9 1 rv l.length (l.map .string) ∧ Below w.heap.size w w' := by
  obtain ⟨a, cap, rfl⟩ := hv.len
  have HV := Lib.hid (fun W (h : Below w.heap.size w W) => hv.later h.block)
  clear hv
  go_enter Tryd.func18, Tryd.ntmps18
  have H0 : Hid ((w.alloc (.cells #[] 9)).ownsRow w.heap.size 9 1 (.slice (some ⟨w.heap.size, 0, none⟩) 0 0) 0 [] ∧ Below w.heap.size w (w.alloc (.cells #[] 9))) := Lib.hid
    ⟨⟨rfl, .inr ⟨w.heap.size, 0, #[], rfl, Nat.le_refl _, heap_at _ _ _ rfl, Nat.le_refl _, Nat.zero_le _, rfl, rfl⟩⟩, (Below.refl _ _).alloc (Nat.le_refl _) _⟩
  go_wp2_with fail
  go_loopw [6, 14] (fun vo vi wr => ∃ k : Nat, k ≤ l.length ∧ vi = .int .i64 k ∧ wr.ownsRow w.heap.size 9 1 vo k ((l.take k).map .string) ∧ Below w.heap.size w wr) (fun _ vi _ => l.length - (intOf vi).toNat)
  case atStart => exact ⟨0, Nat.zero_le _, rfl, H0.out⟩
  case round =>
    obtain ⟨k, hk, rfl, hr⟩ := hrel
    obtain ⟨ra, rc, rfl⟩ := row_form hr.1
    have HR := Lib.hid hr
    clear hr
    by_cases hlt : k < l.length
    case neg =>
      have ek : k = l.length := by omega
      have HF : Hid (wr.ownsRow w.heap.size 9 1 (.slice ra k rc) l.length (l.map .string) ∧ Below w.heap.size w wr) := Lib.hid (by
        subst ek
        have := HR.out
        rw [List.take_length] at this
        exact this)
      clear ek
      go_wp2_with fail
      go_ret2
      exact ⟨_, rfl, HF.out⟩
    obtain ⟨tb, tof, rfl, hc⟩ := (HV.out wr HR.out.2).cell (by omega)
    have hck := hc k hlt
    clear hc
    have HT : Hid ((l.take (k + 1)).map Value.string = (l.take k).map .string ++ [.string l[k]]) := Lib.hid (by rw [List.take_succ_eq_append_getElem hlt, List.map_append]; rfl)
    generalize l[k] = t at *
    obtain ⟨i0, hi0, hz0, hz1, hz2⟩ := info_parts infoStr
    go_wp2_with (first | (go_at_call 15; refine (itself_any t _).mono ?_; rintro e w' ⟨rfl, rfl⟩) | (at_builtin; refine wpList_append_lies _ (by rfl) _ _ _ (by rfl) w.heap.size 9 i0 _ 1 16 Tryd.underlying22 hi0 hz0 hz1 hz2 rfl (by omega) (.slice ra k rc) k ((l.take k).map .string) (by rfl) (row_grow HR.out.1 (by (repeat (first | (with_reducible exact Below.refl _ _) | (with_reducible assumption) | ((with_reducible refine Below.alloc ?_ ?_ _); rotate_left; focus ((try simp only [World.size_alloc, size_setCell, World.heap_drewN]); (try omega); done)) | ((with_reducible refine Below.setCell ?_ ?_ _); rotate_left; focus ((try simp only [World.size_alloc, size_setCell, World.heap_drewN]); (try omega); done)) | (with_reducible refine Below.drewN' ?_) | (with_reducible refine Below.drew ?_))))) ⟨wr.heap.size, 0, none⟩ 1 1 [.string t] (by rfl) (by rfl) (news_lies (heap_at _ _ _ rfl) (by rfl)) (by simp [Value.oneCell']) (by omega) (by unfold maxLen; omega) (by omega) (by have := HR.out.2.size; simp only [World.size_alloc]; omega) _ rfl ?_; intro g cap2 w2 hown hgrow hat hlt2))
    have HB : Hid (w2.ownsRow w.heap.size 9 1 (.slice (some ⟨g, 0, none⟩) (k + 1) cap2) (k + 1) ((l.take (k + 1)).map .string) ∧ Below w.heap.size w w2) := Lib.hid (by
      rw [HT.out]
      refine ⟨hown, ?_⟩
      have hb1 : Below wr.heap.size wr (wr.alloc (.cells #[.string t] 9)) := by (repeat (first | (with_reducible exact Below.refl _ _) | (with_reducible assumption) | ((with_reducible refine Below.alloc ?_ ?_ _); rotate_left; focus ((try simp only [World.size_alloc, size_setCell, World.heap_drewN]); (try omega); done)) | ((with_reducible refine Below.setCell ?_ ?_ _); rotate_left; focus ((try simp only [World.size_alloc, size_setCell, World.heap_drewN]); (try omega); done)) | (with_reducible refine Below.drewN' ?_) | (with_reducible refine Below.drew ?_)))
      exact grown_below (HR.out.2.trans (hb1.mono HR.out.2.size)) (Nat.le_trans HR.out.2.size hb1.size) (row_grow HR.out.1 hb1) hgrow)
    clear hown hgrow hat hlt2
    go_wp2_with fail
    go_roundw
    case rel => exact ⟨k + 1, by omega, by go_num, HB.out⟩
    case measure => simp [intOf]; omega

/-- What is wanted behind a step. -/
def IW (o : Bool × List ByteArray) (cs : List Value) (w : World) : Prop :=
  ∃ v1, cs = [.bool o.1, v1] ∧ Snap 9 w (fun _ => False) v1 (o.2.map .string)
theorem IW.grown {o : Bool × List ByteArray} {cs : List Value} {w w' : World} (h : IW o cs w) (hg : ∀ (b : Nat) (cs : Array Value) (fz : Nat × Nat), w.heap[b]? = some (.cells cs 9 fz) → w'.heap[b]? = w.heap[b]?) : IW o cs w' := by
  obtain ⟨v1, e, h1⟩ := h
  exact ⟨v1, e, h1.later fun b cs fz hb _ => ⟨hg b cs fz hb, fun q => q⟩⟩
structure WIn (w0 : World) (st : Bool × List ByteArray) (outs : List (Bool × List ByteArray)) (vo v9 : Value) (wr : World) : Prop where
  bel : Below w0.heap.size w0 wr
  it : Snap 9 wr (fun _ => False) v9 (st.2.map .string)
  row : ∃ xs, wr.ownsRow w0.heap.size 43 2 vo outs.length xs ∧ RowsOf 2 IW wr xs outs
theorem WIn.later {w0 : World} {st : Bool × List ByteArray} {outs : List (Bool × List ByteArray)} {vo v9 : Value} {wr w' : World} (h : WIn w0 st outs vo v9 wr) (hb : Below wr.heap.size wr w') : WIn w0 st outs vo v9 w' := by
  obtain ⟨xs, h1, h2⟩ := h.row
  exact ⟨h.bel.trans (hb.mono h.bel.size), h.it.later fun b _ _ hb' _ => ⟨hb.block b (lt_of_block hb'), fun q => q⟩, xs, row_grow h1 hb, h2.later fun o cs hi => hi.grown fun b _ _ hb' => hb.block b (lt_of_block hb')⟩
/-- New items. -/
theorem WIn.items {w0 : World} {st st' : Bool × List ByteArray} {outs : List (Bool × List ByteArray)} {vo v9 v9' : Value} {wr : World} (h : WIn w0 st outs vo v9 wr) (hi : Snap 9 wr (fun _ => False) v9' (st'.2.map .string)) : WIn w0 st' outs vo v9' wr := ⟨h.bel, hi, h.row⟩
/-- Behind what is wanted. -/
theorem WIn.told {w0 : World} {st : Bool × List ByteArray} {outs : List (Bool × List ByteArray)} {vo vo' v9 : Value} {wr w' : World} {xs : List Value} (h : WIn w0 st outs vo v9 wr) (hr : wr.ownsRow w0.heap.size 43 2 vo outs.length xs) (h2 : RowsOf 2 IW wr xs outs) (hg : wr.grownBy w' vo.ownBlock) (bad : Bool) (ho : w'.ownsRow w0.heap.size 43 2 vo' (outs.length + 1) (xs ++ [.bool bad, v9])) : WIn w0 st (outs ++ [(bad, st.2)]) vo' v9 w' := by
  have hk : ∀ (b : Nat) (cs : Array Value) (fz : Nat × Nat), wr.heap[b]? = some (.cells cs 9 fz) → w'.heap[b]? = wr.heap[b]? := fun b cs fz hb => hg.block b (lt_of_block hb) (fun q => row_ne hb hr (by decide) q.symm)
  have hit : Snap 9 w' (fun _ => False) v9 (st.2.map .string) := h.it.later fun b cs fz hb _ => ⟨hk b cs fz hb, fun q => q⟩
  exact ⟨grown_below h.bel h.bel.size hr hg, hit, xs ++ [.bool bad, v9], by simpa using ho, RowsOf.snoc (h2.later fun o cs hi => hi.grown hk) ⟨v9, rfl, hit⟩ rfl⟩
/-- The new items. -/
theorem wants_step {w w6 w5 w7 : World} {st : Bool × List ByteArray} {outs : List (Bool × List ByteArray)} {vo v9 v5 v7 : Value} {n : Nat} {old nw : List ByteArray} (hA : WIn w st outs vo v9 w6) (hf : Fresh 9 w6.heap.size (old.map .string) (w6.alloc (.cells #[] 9)) v5 w5) (hg : w5.grownBy w7 v5.ownBlock) (ho : w7.ownsRow w6.heap.size 9 1 v7 n (old.map .string ++ nw.map .string)) (nb : Bool) : WIn w (nb, old ++ nw) outs vo v7 w7 ∧ Below w6.heap.size w6 w7 := by
  have hb5 : Below w6.heap.size w6 w5 := Below.after (b := w6.alloc (.cells #[] 9)) (by (repeat (first | (with_reducible exact Below.refl _ _) | (with_reducible assumption) | ((with_reducible refine Below.alloc ?_ ?_ _); rotate_left; focus ((try simp only [World.size_alloc, size_setCell, World.heap_drewN]); (try omega); done)) | ((with_reducible refine Below.setCell ?_ ?_ _); rotate_left; focus ((try simp only [World.size_alloc, size_setCell, World.heap_drewN]); (try omega); done)) | (with_reducible refine Below.drewN' ?_) | (with_reducible refine Below.drew ?_)))) hf.below
  have hb7 : Below w6.heap.size w6 w7 := hb5.trans (grownBy_below hg (fun b hb => (ownsRow_cells hf.2.1 hb).1) hb5.size)
  exact ⟨(hA.later hb7).items (by simpa using Snap.owned ho), hb7⟩

set_option maxRecDepth 100000 in
set_option maxHeartbeats 3200000 in
theorem wants_any (dv : Value) (df : List ByteArray) (sv : Value) (l : List StepD) (w : World) (hd : Strs w dv df) (hs : Steps w sv l) (hdl : df.length ≤ 2147483647) (hll : l.length ≤ 2147483647) (hx : ∀ x ∈ l, x.l.length ≤ 2147483647) :
    Calls Tryd.prog 14 #[dv, sv, .func (.func 8) #[] #[], .func (.func 15) #[] #[]] w fun e w' => ∃ rv xs, e = .returned rv ∧ w'.ownsRow w.heap.size 43 2 rv (runsG cutA oneA df l).2.length xs ∧ RowsOf 2 IW w' xs (runsG cutA oneA df l).2 ∧ Below w.heap.size w w' := by
  obtain ⟨sa, sc, rfl⟩ := hs.len
  obtain ⟨da, dc, rfl⟩ := hd.len
  have HS := Lib.hid (fun W (h : Below w.heap.size w W) => hs.later h)
  have HD := Lib.hid (fun W (h : Below w.heap.size w W) => hd.later h.block)
  have HX := Lib.hid hx
  clear hd hs hx
  go_enter Tryd.func14, Tryd.ntmps14
  go_wp2_with (at_builtin; refine wpList_append_fresh (by rfl) _ _ 22 9 (by rfl) Tryd.underlying22 infoStr rfl _ (by rfl) (heap_at _ _ _ (by (simp only [World.size_alloc, size_setCell, World.heap_drewN]))) _ (by rfl) (df.map .string) (Strs.vals (HD.out _ (by (repeat (first | (with_reducible exact Below.refl _ _) | (with_reducible assumption) | ((with_reducible refine Below.alloc ?_ ?_ _); rotate_left; focus ((try simp only [World.size_alloc, size_setCell, World.heap_drewN]); (try omega); done)) | ((with_reducible refine Below.setCell ?_ ?_ _); rotate_left; focus ((try simp only [World.size_alloc, size_setCell, World.heap_drewN]); (try omega); done)) | (with_reducible refine Below.drewN' ?_) | (with_reducible refine Below.drew ?_)))))) (by simp [Value.oneCell']) (by unfold maxLen; rw [List.length_map]; omega) (by rw [List.length_map]; omega) ?_; intro v1 w1 hf1)
  have HA : Hid (WIn w (false, df) [] (.slice none 0 0) v1 w1) := Lib.hid ⟨Below.after (b := w.alloc (.cells #[] 9)) (by (repeat (first | (with_reducible exact Below.refl _ _) | (with_reducible assumption) | ((with_reducible refine Below.alloc ?_ ?_ _); rotate_left; focus ((try simp only [World.size_alloc, size_setCell, World.heap_drewN]); (try omega); done)) | ((with_reducible refine Below.setCell ?_ ?_ _); rotate_left; focus ((try simp only [World.size_alloc, size_setCell, World.heap_drewN]); (try omega); done)) | (with_reducible refine Below.drewN' ?_) | (with_reducible refine Below.drew ?_)))) hf1.below, Snap.owned hf1.2.1, [], World.ownsRow_nil _ _ _ _, RowsOf.nil _ _ _⟩
  obtain ⟨va, vc, hva⟩ := row_form hf1.2.1
  rw [List.length_map] at hva
  subst hva
  clear hf1
  go_wp2_with fail
  go_loopw [9, 10, 11, 21] (fun v9 v10 vo vi wr => ∃ k : Nat, k ≤ l.length ∧ vi = .int .i64 k ∧ (runsG cutA oneA df (l.take k)).1.2.length ≤ 2147483647 + k ∧ v10 = .bool (runsG cutA oneA df (l.take k)).1.1 ∧ WIn w (runsG cutA oneA df (l.take k)).1 (runsG cutA oneA df (l.take k)).2 vo v9 wr) (fun _ _ _ vi _ => l.length - (intOf vi).toNat)
  case atStart => exact ⟨0, Nat.zero_le _, rfl, hdl, rfl, HA.out⟩
  case round =>
    obtain ⟨k, hk, rfl, hlen, hv10, hr⟩ := hrel
    have HOL : Hid ((runsG cutA oneA df (l.take k)).2.length ≤ k) := Lib.hid (by rw [runsG_len]; exact Nat.le_trans (List.length_filter_le _ _) (by simp; omega))
    by_cases hlt : k < l.length
    case neg =>
      obtain ⟨xs, hrow, hrows⟩ := hr.row
      obtain ⟨ra, rc, rfl⟩ := row_form hrow
      obtain ⟨ia, ic, hia⟩ := hr.it.form
      subst hia
      have ek : k = l.length := by omega
      have HF : Hid (wr.ownsRow w.heap.size 43 2 (.slice ra (runsG cutA oneA df (l.take k)).2.length rc) (runsG cutA oneA df l).2.length xs ∧ RowsOf 2 IW wr xs (runsG cutA oneA df l).2 ∧ Below w.heap.size w wr) := Lib.hid (by
        subst ek
        rw [List.take_length] at hrow hrows ⊢
        exact ⟨hrow, hrows, hr.bel⟩)
      subst hv10
      clear ek hr hrow hrows hlen HOL
      go_wp2_with fail
      go_ret
      exact ⟨_, xs, rfl, HF.out⟩
    obtain ⟨sb, so, rfl, hst⟩ := (HS.out wr hr.bel).at k hlt
    obtain ⟨s0, s1, ta, tn, tc, s2, s3⟩ := hst
    have slt := lt_of_cell s0
    have hxl := HX.out l[k] (List.getElem_mem hlt)
    have hnx := runsG_next cutA oneA df l k hlt
    obtain ⟨⟨xd, xs', xl⟩, hxe⟩ : ∃ x, l[k] = x := ⟨_, rfl⟩
    rw [hxe] at s0 s1 s3 hxl hnx
    simp only at s0 s1 s3 hxl
    clear hxe
    obtain ⟨⟨⟨bs, si⟩, outs⟩, hrun⟩ : ∃ r, runsG cutA oneA df (l.take k) = r := ⟨_, rfl⟩
    rw [hrun] at hlen hv10 hr hnx HOL
    simp only at hlen hv10 hr HOL
    clear hrun
    subst hv10
    obtain ⟨xs, hrow, hrows⟩ := hr.row
    obtain ⟨ra, rc, rfl⟩ := row_form hrow
    obtain ⟨ia, ic, hia⟩ := hr.it.form
    rw [List.length_map] at hia
    subst hia
    have HR := Lib.hid hr
    have HLE := Lib.hid hlen
    have HN := Lib.hid hnx
    have H3 := Lib.hid s3
    clear hnx s3 hr hrow hrows hlen
    by_cases d0 : xd = 0
    · subst d0
      cases bs with
      | false =>
        have HC : Hid (WIn w (false, si) outs (.slice ra outs.length rc) (.slice ia si.length ic) (wr.alloc (.cells #[.int .i64 0, .string xs', .slice ta tn tc] 36))) := Lib.hid (HR.out.later (by (repeat (first | (with_reducible exact Below.refl _ _) | (with_reducible assumption) | ((with_reducible refine Below.alloc ?_ ?_ _); rotate_left; focus ((try simp only [World.size_alloc, size_setCell, World.heap_drewN]); (try omega); done)) | ((with_reducible refine Below.setCell ?_ ?_ _); rotate_left; focus ((try simp only [World.size_alloc, size_setCell, World.heap_drewN]); (try omega); done)) | (with_reducible refine Below.drewN' ?_) | (with_reducible refine Below.drew ?_)))))
        have C := Lib.hid (cut_any xs' (wr.alloc (.cells #[.int .i64 0, .string xs', .slice ta tn tc] 36)))
        go_wp2_with fail
        refine C.out.mono ?_
        rintro e w6 ⟨v14, rfl, ho6, hb6⟩
        have HA6 := Lib.hid (HC.out.later hb6)
        have hx6 : w6.heap[wr.heap.size]? = some (.cells #[.int .i64 0, .string xs', .slice ta tn tc] 36 (0, 0)) := (hb6.block _ (by simp only [World.size_alloc]; omega)).trans (by (repeat (first | (with_reducible assumption) | ((with_reducible refine heap_past' ?_ ?_); focus ((try simp only [World.size_alloc, size_setCell, World.heap_drewN]); (try omega); done)) | ((with_reducible refine heap_at _ _ _ ?_); focus ((try simp only [World.size_alloc, size_setCell, World.heap_drewN]); (try omega); done)) | ((with_reducible refine heap_ne' ?_ ?_); focus ((try simp only [World.size_alloc, size_setCell, World.heap_drewN]); (try omega); done)) | (with_reducible refine heap_drew' ?_))))
        have dx6 := cell_of hx6 0 _ rfl
        have HX6 := Lib.hid hx6
        clear hx6
        obtain ⟨na, nc, rfl⟩ := row_form ho6
        have HPn : Hid (∀ W, Below w6.heap.size w6 W → Vals W (.slice na 1 nc) ([xs'].map .string)) := Lib.hid (fun W h => (Vals.owned ho6).later h.block)
        have HQo : Hid (∀ W, Below w6.heap.size w6 W → Vals W (.slice none 0 0) (([] : List ByteArray).map .string)) := Lib.hid (fun W h => ⟨none, 0, rfl, .inl rfl⟩)
        have HST : Hid (runsG cutA oneA df (l.take (k + 1)) = ((true, ([] : List ByteArray) ++ [xs']), outs ++ [(false, ([] : List ByteArray) ++ [xs'])])) := Lib.hid (by rw [HN.out, runG_yes (.inl rfl)]; simp [stepG, cutA, oneA, eachA])
        have HLL : Hid ((([] : List ByteArray) ++ [xs']).length ≤ 2147483647 + (k + 1)) := Lib.hid (by have := HLE.out; simp; omega)
        have hlo : ([] : List ByteArray).length ≤ 2147483647 + k := by have := HLE.out; first | omega | (simp; done)
        have hln : [xs'].length ≤ 2147483647 := by first | omega | (simp; done)
        clear ho6 hb6 HC C HN
        obtain ⟨i0, hi0, hz0, hz1, hz2⟩ := info_parts infoW
        go_wp2_with (first
          | (at_builtin; refine wpList_append_fresh (by rfl) _ _ 22 9 (by rfl) Tryd.underlying22 infoStr rfl _ (by rfl) (heap_at _ _ _ (by (simp only [World.size_alloc, size_setCell, World.heap_drewN]))) _ (by rfl) (([] : List ByteArray).map .string) (HQo.out _ (by (repeat (first | (with_reducible exact Below.refl _ _) | (with_reducible assumption) | ((with_reducible refine Below.alloc ?_ ?_ _); rotate_left; focus ((try simp only [World.size_alloc, size_setCell, World.heap_drewN]); (try omega); done)) | ((with_reducible refine Below.setCell ?_ ?_ _); rotate_left; focus ((try simp only [World.size_alloc, size_setCell, World.heap_drewN]); (try omega); done)) | (with_reducible refine Below.drewN' ?_) | (with_reducible refine Below.drew ?_))))) (by simp [Value.oneCell']) (by unfold maxLen; rw [List.length_map]; omega) (by rw [List.length_map]; omega) ?_; intro v5 w5 hf5)
          | (at_builtin; refine wpList_append_vals (by rfl) _ _ 22 9 (by rfl) Tryd.underlying22 infoStr rfl w6.heap.size v5 _ (([] : List ByteArray).map .string) (by rfl) hf5.2.1 (Nat.le_trans (Nat.le_of_lt (by simp only [World.size_alloc]; omega)) hf5.below.size) _ (by rfl) ([xs'].map .string) (HPn.out _ (Below.after (b := w6.alloc (.cells #[] 9)) (by (repeat (first | (with_reducible exact Below.refl _ _) | (with_reducible assumption) | ((with_reducible refine Below.alloc ?_ ?_ _); rotate_left; focus ((try simp only [World.size_alloc, size_setCell, World.heap_drewN]); (try omega); done)) | ((with_reducible refine Below.setCell ?_ ?_ _); rotate_left; focus ((try simp only [World.size_alloc, size_setCell, World.heap_drewN]); (try omega); done)) | (with_reducible refine Below.drewN' ?_) | (with_reducible refine Below.drew ?_)))) hf5.below)) (by simp [Value.oneCell']) (by unfold maxLen; simp only [List.length_map]; omega) (by simp only [List.length_map]; omega) ?_; intro v7 w7 ho7 hg7 hat7; obtain ⟨NL, hNL⟩ : ∃ NL, (([] : List ByteArray).map Value.string).length + ([xs'].map Value.string).length = NL := ⟨_, rfl⟩; rw [hNL] at ho7; obtain ⟨pa, pc, rfl⟩ := row_form ho7; obtain ⟨hw7, hb7⟩ := wants_step (old := ([] : List ByteArray)) (nw := [xs']) HA6.out hf5 hg7 ho7 true; have HW7 := Lib.hid hw7; have dx7 := cell_of ((hb7.block _ (lt_of_block HX6.out)).trans HX6.out) 0 _ rfl; obtain ⟨ys, hrow7, hrows7⟩ := HW7.out.row)
          | (at_builtin; refine wpList_append_lies _ (by rfl) _ _ _ (by rfl) w.heap.size 43 i0 _ 2 32 Tryd.underlying39 hi0 hz0 hz1 hz2 rfl (by omega) (.slice ra outs.length rc) outs.length ys (by rfl) (row_grow hrow7 (by (repeat (first | (with_reducible exact Below.refl _ _) | (with_reducible assumption) | ((with_reducible refine Below.alloc ?_ ?_ _); rotate_left; focus ((try simp only [World.size_alloc, size_setCell, World.heap_drewN]); (try omega); done)) | ((with_reducible refine Below.setCell ?_ ?_ _); rotate_left; focus ((try simp only [World.size_alloc, size_setCell, World.heap_drewN]); (try omega); done)) | (with_reducible refine Below.drewN' ?_) | (with_reducible refine Below.drew ?_))))) ⟨w7.heap.size, 0, none⟩ 1 1 [.bool false, .slice pa NL pc] (by rfl) (by rfl) (news_lies (heap_at _ _ _ rfl) (by simp)) (by simp [Value.oneCell']) (by omega) (by have := HOL.out; unfold maxLen; omega) (by have := HOL.out; omega) (by have := HW7.out.bel.size; simp only [World.size_alloc]; omega) _ rfl ?_; intro g cap2 w8 hown hgrow hat hlt8))
        have HB : Hid (WIn w (runsG cutA oneA df (l.take (k + 1))).1 (runsG cutA oneA df (l.take (k + 1))).2 (.slice (some ⟨g, 0, none⟩) (outs.length + 1) cap2) (.slice pa NL pc) w8) := Lib.hid (by
          rw [HST.out]
          have hb8 : Below w7.heap.size w7 (w7.alloc (.cells #[.bool false, .slice pa NL pc] 43)) := by (repeat (first | (with_reducible exact Below.refl _ _) | (with_reducible assumption) | ((with_reducible refine Below.alloc ?_ ?_ _); rotate_left; focus ((try simp only [World.size_alloc, size_setCell, World.heap_drewN]); (try omega); done)) | ((with_reducible refine Below.setCell ?_ ?_ _); rotate_left; focus ((try simp only [World.size_alloc, size_setCell, World.heap_drewN]); (try omega); done)) | (with_reducible refine Below.drewN' ?_) | (with_reducible refine Below.drew ?_)))
          exact (HW7.out.later hb8).told (row_grow hrow7 hb8) (hrows7.later fun o cs hi => hi.grown fun b _ _ hb' => hb8.block b (lt_of_block hb')) hgrow false hown)
        have HLN2 : Hid ((runsG cutA oneA df (l.take (k + 1))).1.2.length ≤ 2147483647 + (k + 1)) := Lib.hid (by rw [HST.out]; exact HLL.out)
        have HBN : Hid (true = (runsG cutA oneA df (l.take (k + 1))).1.1) := Lib.hid (by rw [HST.out])
        clear hown hgrow hat hlt8 dx7 dx6 hrow7 hrows7
        go_wp2_with fail
        go_roundw
        case rel => first | exact ⟨k + 1, by omega, by go_num, HLN2.out, by rw [← HBN.out], HB.out⟩ | ((repeat apply Exists.intro); exact ⟨⟨k + 1, by omega, by go_num, HLN2.out, by rw [← HBN.out], HB.out⟩, rfl⟩)
        case measure => simp [intOf]; omega
      | true =>
        have HC : Hid (WIn w (true, si) outs (.slice ra outs.length rc) (.slice ia si.length ic) (wr.alloc (.cells #[.int .i64 0, .string xs', .slice ta tn tc] 36))) := Lib.hid (HR.out.later (by (repeat (first | (with_reducible exact Below.refl _ _) | (with_reducible assumption) | ((with_reducible refine Below.alloc ?_ ?_ _); rotate_left; focus ((try simp only [World.size_alloc, size_setCell, World.heap_drewN]); (try omega); done)) | ((with_reducible refine Below.setCell ?_ ?_ _); rotate_left; focus ((try simp only [World.size_alloc, size_setCell, World.heap_drewN]); (try omega); done)) | (with_reducible refine Below.drewN' ?_) | (with_reducible refine Below.drew ?_)))))
        have C := Lib.hid (cut_any xs' (wr.alloc (.cells #[.int .i64 0, .string xs', .slice ta tn tc] 36)))
        go_wp2_with fail
        refine C.out.mono ?_
        rintro e w6 ⟨v14, rfl, ho6, hb6⟩
        have HA6 := Lib.hid (HC.out.later hb6)
        have hx6 : w6.heap[wr.heap.size]? = some (.cells #[.int .i64 0, .string xs', .slice ta tn tc] 36 (0, 0)) := (hb6.block _ (by simp only [World.size_alloc]; omega)).trans (by (repeat (first | (with_reducible assumption) | ((with_reducible refine heap_past' ?_ ?_); focus ((try simp only [World.size_alloc, size_setCell, World.heap_drewN]); (try omega); done)) | ((with_reducible refine heap_at _ _ _ ?_); focus ((try simp only [World.size_alloc, size_setCell, World.heap_drewN]); (try omega); done)) | ((with_reducible refine heap_ne' ?_ ?_); focus ((try simp only [World.size_alloc, size_setCell, World.heap_drewN]); (try omega); done)) | (with_reducible refine heap_drew' ?_))))
        have dx6 := cell_of hx6 0 _ rfl
        have HX6 := Lib.hid hx6
        clear hx6
        obtain ⟨na, nc, rfl⟩ := row_form ho6
        have HPn : Hid (∀ W, Below w6.heap.size w6 W → Vals W (.slice na 1 nc) ([xs'].map .string)) := Lib.hid (fun W h => (Vals.owned ho6).later h.block)
        have HQo : Hid (∀ W, Below w6.heap.size w6 W → Vals W (.slice ia si.length ic) (si.map .string)) := Lib.hid (fun W h => (HA6.out.it.vals).later h.block)
        have HST : Hid (runsG cutA oneA df (l.take (k + 1)) = ((true, si ++ [xs']), outs ++ [(false, si ++ [xs'])])) := Lib.hid (by rw [HN.out, runG_yes (.inl rfl)]; simp [stepG, cutA, oneA, eachA])
        have HLL : Hid ((si ++ [xs']).length ≤ 2147483647 + (k + 1)) := Lib.hid (by have := HLE.out; simp; omega)
        have hlo : si.length ≤ 2147483647 + k := by have := HLE.out; first | omega | (simp; done)
        have hln : [xs'].length ≤ 2147483647 := by first | omega | (simp; done)
        clear ho6 hb6 HC C HN
        obtain ⟨i0, hi0, hz0, hz1, hz2⟩ := info_parts infoW
        go_wp2_with (first
          | (at_builtin; refine wpList_append_fresh (by rfl) _ _ 22 9 (by rfl) Tryd.underlying22 infoStr rfl _ (by rfl) (heap_at _ _ _ (by (simp only [World.size_alloc, size_setCell, World.heap_drewN]))) _ (by rfl) (si.map .string) (HQo.out _ (by (repeat (first | (with_reducible exact Below.refl _ _) | (with_reducible assumption) | ((with_reducible refine Below.alloc ?_ ?_ _); rotate_left; focus ((try simp only [World.size_alloc, size_setCell, World.heap_drewN]); (try omega); done)) | ((with_reducible refine Below.setCell ?_ ?_ _); rotate_left; focus ((try simp only [World.size_alloc, size_setCell, World.heap_drewN]); (try omega); done)) | (with_reducible refine Below.drewN' ?_) | (with_reducible refine Below.drew ?_))))) (by simp [Value.oneCell']) (by unfold maxLen; rw [List.length_map]; omega) (by rw [List.length_map]; omega) ?_; intro v5 w5 hf5)
          | (at_builtin; refine wpList_append_vals (by rfl) _ _ 22 9 (by rfl) Tryd.underlying22 infoStr rfl w6.heap.size v5 _ (si.map .string) (by rfl) hf5.2.1 (Nat.le_trans (Nat.le_of_lt (by simp only [World.size_alloc]; omega)) hf5.below.size) _ (by rfl) ([xs'].map .string) (HPn.out _ (Below.after (b := w6.alloc (.cells #[] 9)) (by (repeat (first | (with_reducible exact Below.refl _ _) | (with_reducible assumption) | ((with_reducible refine Below.alloc ?_ ?_ _); rotate_left; focus ((try simp only [World.size_alloc, size_setCell, World.heap_drewN]); (try omega); done)) | ((with_reducible refine Below.setCell ?_ ?_ _); rotate_left; focus ((try simp only [World.size_alloc, size_setCell, World.heap_drewN]); (try omega); done)) | (with_reducible refine Below.drewN' ?_) | (with_reducible refine Below.drew ?_)))) hf5.below)) (by simp [Value.oneCell']) (by unfold maxLen; simp only [List.length_map]; omega) (by simp only [List.length_map]; omega) ?_; intro v7 w7 ho7 hg7 hat7; obtain ⟨NL, hNL⟩ : ∃ NL, (si.map Value.string).length + ([xs'].map Value.string).length = NL := ⟨_, rfl⟩; rw [hNL] at ho7; obtain ⟨pa, pc, rfl⟩ := row_form ho7; obtain ⟨hw7, hb7⟩ := wants_step (old := si) (nw := [xs']) HA6.out hf5 hg7 ho7 true; have HW7 := Lib.hid hw7; have dx7 := cell_of ((hb7.block _ (lt_of_block HX6.out)).trans HX6.out) 0 _ rfl; obtain ⟨ys, hrow7, hrows7⟩ := HW7.out.row)
          | (at_builtin; refine wpList_append_lies _ (by rfl) _ _ _ (by rfl) w.heap.size 43 i0 _ 2 32 Tryd.underlying39 hi0 hz0 hz1 hz2 rfl (by omega) (.slice ra outs.length rc) outs.length ys (by rfl) (row_grow hrow7 (by (repeat (first | (with_reducible exact Below.refl _ _) | (with_reducible assumption) | ((with_reducible refine Below.alloc ?_ ?_ _); rotate_left; focus ((try simp only [World.size_alloc, size_setCell, World.heap_drewN]); (try omega); done)) | ((with_reducible refine Below.setCell ?_ ?_ _); rotate_left; focus ((try simp only [World.size_alloc, size_setCell, World.heap_drewN]); (try omega); done)) | (with_reducible refine Below.drewN' ?_) | (with_reducible refine Below.drew ?_))))) ⟨w7.heap.size, 0, none⟩ 1 1 [.bool false, .slice pa NL pc] (by rfl) (by rfl) (news_lies (heap_at _ _ _ rfl) (by simp)) (by simp [Value.oneCell']) (by omega) (by have := HOL.out; unfold maxLen; omega) (by have := HOL.out; omega) (by have := HW7.out.bel.size; simp only [World.size_alloc]; omega) _ rfl ?_; intro g cap2 w8 hown hgrow hat hlt8))
        have HB : Hid (WIn w (runsG cutA oneA df (l.take (k + 1))).1 (runsG cutA oneA df (l.take (k + 1))).2 (.slice (some ⟨g, 0, none⟩) (outs.length + 1) cap2) (.slice pa NL pc) w8) := Lib.hid (by
          rw [HST.out]
          have hb8 : Below w7.heap.size w7 (w7.alloc (.cells #[.bool false, .slice pa NL pc] 43)) := by (repeat (first | (with_reducible exact Below.refl _ _) | (with_reducible assumption) | ((with_reducible refine Below.alloc ?_ ?_ _); rotate_left; focus ((try simp only [World.size_alloc, size_setCell, World.heap_drewN]); (try omega); done)) | ((with_reducible refine Below.setCell ?_ ?_ _); rotate_left; focus ((try simp only [World.size_alloc, size_setCell, World.heap_drewN]); (try omega); done)) | (with_reducible refine Below.drewN' ?_) | (with_reducible refine Below.drew ?_)))
          exact (HW7.out.later hb8).told (row_grow hrow7 hb8) (hrows7.later fun o cs hi => hi.grown fun b _ _ hb' => hb8.block b (lt_of_block hb')) hgrow false hown)
        have HLN2 : Hid ((runsG cutA oneA df (l.take (k + 1))).1.2.length ≤ 2147483647 + (k + 1)) := Lib.hid (by rw [HST.out]; exact HLL.out)
        have HBN : Hid (true = (runsG cutA oneA df (l.take (k + 1))).1.1) := Lib.hid (by rw [HST.out])
        clear hown hgrow hat hlt8 dx7 dx6 hrow7 hrows7
        go_wp2_with fail
        go_roundw
        case rel => first | exact ⟨k + 1, by omega, by go_num, HLN2.out, by rw [← HBN.out], HB.out⟩ | ((repeat apply Exists.intro); exact ⟨⟨k + 1, by omega, by go_num, HLN2.out, by rw [← HBN.out], HB.out⟩, rfl⟩)
        case measure => simp [intOf]; omega
    by_cases d1 : xd = 1
    · subst d1
      cases bs with
      | false =>
        have HC : Hid (WIn w (false, si) outs (.slice ra outs.length rc) (.slice ia si.length ic) ((wr.alloc (.cells #[.int .i64 1, .string xs', .slice ta tn tc] 36)).alloc (.cells #[.string xs'] 9))) := Lib.hid (HR.out.later (by (repeat (first | (with_reducible exact Below.refl _ _) | (with_reducible assumption) | ((with_reducible refine Below.alloc ?_ ?_ _); rotate_left; focus ((try simp only [World.size_alloc, size_setCell, World.heap_drewN]); (try omega); done)) | ((with_reducible refine Below.setCell ?_ ?_ _); rotate_left; focus ((try simp only [World.size_alloc, size_setCell, World.heap_drewN]); (try omega); done)) | (with_reducible refine Below.drewN' ?_) | (with_reducible refine Below.drew ?_)))))
        have C := Lib.hid (each_any (.slice (some ⟨wr.heap.size + 1, 0, none⟩) 1 1) [xs'] ((wr.alloc (.cells #[.int .i64 1, .string xs', .slice ta tn tc] 36)).alloc (.cells #[.string xs'] 9)) (Strs.made [xs'] 1 (heap_at _ _ _ (by (simp only [World.size_alloc, size_setCell, World.heap_drewN])))) (by simp))
        go_wp2_with fail
        refine C.out.mono ?_
        rintro e w6 ⟨v14, rfl, ho6, hb6⟩
        have HA6 := Lib.hid (HC.out.later hb6)
        have hx6 : w6.heap[wr.heap.size]? = some (.cells #[.int .i64 1, .string xs', .slice ta tn tc] 36 (0, 0)) := (hb6.block _ (by simp only [World.size_alloc]; omega)).trans (by (repeat (first | (with_reducible assumption) | ((with_reducible refine heap_past' ?_ ?_); focus ((try simp only [World.size_alloc, size_setCell, World.heap_drewN]); (try omega); done)) | ((with_reducible refine heap_at _ _ _ ?_); focus ((try simp only [World.size_alloc, size_setCell, World.heap_drewN]); (try omega); done)) | ((with_reducible refine heap_ne' ?_ ?_); focus ((try simp only [World.size_alloc, size_setCell, World.heap_drewN]); (try omega); done)) | (with_reducible refine heap_drew' ?_))))
        have dx6 := cell_of hx6 0 _ rfl
        have HX6 := Lib.hid hx6
        clear hx6
        obtain ⟨na, nc, rfl⟩ := row_form ho6
        have HPn : Hid (∀ W, Below w6.heap.size w6 W → Vals W (.slice na 1 nc) ([xs'].map .string)) := Lib.hid (fun W h => (Vals.owned ho6).later h.block)
        have HQo : Hid (∀ W, Below w6.heap.size w6 W → Vals W (.slice ia si.length ic) (si.map .string)) := Lib.hid (fun W h => (HA6.out.it.vals).later h.block)
        have HST : Hid (runsG cutA oneA df (l.take (k + 1)) = ((false, si ++ [xs']), outs ++ [(false, si ++ [xs'])])) := Lib.hid (by rw [HN.out, runG_yes (.inr (.inl rfl))]; simp [stepG, cutA, oneA, eachA])
        have HLL : Hid ((si ++ [xs']).length ≤ 2147483647 + (k + 1)) := Lib.hid (by have := HLE.out; simp; omega)
        have hlo : si.length ≤ 2147483647 + k := by have := HLE.out; first | omega | (simp; done)
        have hln : [xs'].length ≤ 2147483647 := by first | omega | (simp; done)
        clear ho6 hb6 HC C HN
        obtain ⟨i0, hi0, hz0, hz1, hz2⟩ := info_parts infoW
        go_wp2_with (first
          | (at_builtin; refine wpList_append_fresh (by rfl) _ _ 22 9 (by rfl) Tryd.underlying22 infoStr rfl _ (by rfl) (heap_at _ _ _ (by (simp only [World.size_alloc, size_setCell, World.heap_drewN]))) _ (by rfl) (si.map .string) (HQo.out _ (by (repeat (first | (with_reducible exact Below.refl _ _) | (with_reducible assumption) | ((with_reducible refine Below.alloc ?_ ?_ _); rotate_left; focus ((try simp only [World.size_alloc, size_setCell, World.heap_drewN]); (try omega); done)) | ((with_reducible refine Below.setCell ?_ ?_ _); rotate_left; focus ((try simp only [World.size_alloc, size_setCell, World.heap_drewN]); (try omega); done)) | (with_reducible refine Below.drewN' ?_) | (with_reducible refine Below.drew ?_))))) (by simp [Value.oneCell']) (by unfold maxLen; rw [List.length_map]; omega) (by rw [List.length_map]; omega) ?_; intro v5 w5 hf5)
          | (at_builtin; refine wpList_append_vals (by rfl) _ _ 22 9 (by rfl) Tryd.underlying22 infoStr rfl w6.heap.size v5 _ (si.map .string) (by rfl) hf5.2.1 (Nat.le_trans (Nat.le_of_lt (by simp only [World.size_alloc]; omega)) hf5.below.size) _ (by rfl) ([xs'].map .string) (HPn.out _ (Below.after (b := w6.alloc (.cells #[] 9)) (by (repeat (first | (with_reducible exact Below.refl _ _) | (with_reducible assumption) | ((with_reducible refine Below.alloc ?_ ?_ _); rotate_left; focus ((try simp only [World.size_alloc, size_setCell, World.heap_drewN]); (try omega); done)) | ((with_reducible refine Below.setCell ?_ ?_ _); rotate_left; focus ((try simp only [World.size_alloc, size_setCell, World.heap_drewN]); (try omega); done)) | (with_reducible refine Below.drewN' ?_) | (with_reducible refine Below.drew ?_)))) hf5.below)) (by simp [Value.oneCell']) (by unfold maxLen; simp only [List.length_map]; omega) (by simp only [List.length_map]; omega) ?_; intro v7 w7 ho7 hg7 hat7; obtain ⟨NL, hNL⟩ : ∃ NL, (si.map Value.string).length + ([xs'].map Value.string).length = NL := ⟨_, rfl⟩; rw [hNL] at ho7; obtain ⟨pa, pc, rfl⟩ := row_form ho7; obtain ⟨hw7, hb7⟩ := wants_step (old := si) (nw := [xs']) HA6.out hf5 hg7 ho7 false; have HW7 := Lib.hid hw7; have dx7 := cell_of ((hb7.block _ (lt_of_block HX6.out)).trans HX6.out) 0 _ rfl; obtain ⟨ys, hrow7, hrows7⟩ := HW7.out.row)
          | (at_builtin; refine wpList_append_lies _ (by rfl) _ _ _ (by rfl) w.heap.size 43 i0 _ 2 32 Tryd.underlying39 hi0 hz0 hz1 hz2 rfl (by omega) (.slice ra outs.length rc) outs.length ys (by rfl) (row_grow hrow7 (by (repeat (first | (with_reducible exact Below.refl _ _) | (with_reducible assumption) | ((with_reducible refine Below.alloc ?_ ?_ _); rotate_left; focus ((try simp only [World.size_alloc, size_setCell, World.heap_drewN]); (try omega); done)) | ((with_reducible refine Below.setCell ?_ ?_ _); rotate_left; focus ((try simp only [World.size_alloc, size_setCell, World.heap_drewN]); (try omega); done)) | (with_reducible refine Below.drewN' ?_) | (with_reducible refine Below.drew ?_))))) ⟨w7.heap.size, 0, none⟩ 1 1 [.bool false, .slice pa NL pc] (by rfl) (by rfl) (news_lies (heap_at _ _ _ rfl) (by simp)) (by simp [Value.oneCell']) (by omega) (by have := HOL.out; unfold maxLen; omega) (by have := HOL.out; omega) (by have := HW7.out.bel.size; simp only [World.size_alloc]; omega) _ rfl ?_; intro g cap2 w8 hown hgrow hat hlt8))
        have HB : Hid (WIn w (runsG cutA oneA df (l.take (k + 1))).1 (runsG cutA oneA df (l.take (k + 1))).2 (.slice (some ⟨g, 0, none⟩) (outs.length + 1) cap2) (.slice pa NL pc) w8) := Lib.hid (by
          rw [HST.out]
          have hb8 : Below w7.heap.size w7 (w7.alloc (.cells #[.bool false, .slice pa NL pc] 43)) := by (repeat (first | (with_reducible exact Below.refl _ _) | (with_reducible assumption) | ((with_reducible refine Below.alloc ?_ ?_ _); rotate_left; focus ((try simp only [World.size_alloc, size_setCell, World.heap_drewN]); (try omega); done)) | ((with_reducible refine Below.setCell ?_ ?_ _); rotate_left; focus ((try simp only [World.size_alloc, size_setCell, World.heap_drewN]); (try omega); done)) | (with_reducible refine Below.drewN' ?_) | (with_reducible refine Below.drew ?_)))
          exact (HW7.out.later hb8).told (row_grow hrow7 hb8) (hrows7.later fun o cs hi => hi.grown fun b _ _ hb' => hb8.block b (lt_of_block hb')) hgrow false hown)
        have HLN2 : Hid ((runsG cutA oneA df (l.take (k + 1))).1.2.length ≤ 2147483647 + (k + 1)) := Lib.hid (by rw [HST.out]; exact HLL.out)
        have HBN : Hid (false = (runsG cutA oneA df (l.take (k + 1))).1.1) := Lib.hid (by rw [HST.out])
        clear hown hgrow hat hlt8 dx7 dx6 hrow7 hrows7
        go_wp2_with fail
        go_roundw
        case rel => first | exact ⟨k + 1, by omega, by go_num, HLN2.out, by rw [← HBN.out], HB.out⟩ | ((repeat apply Exists.intro); exact ⟨⟨k + 1, by omega, by go_num, HLN2.out, by rw [← HBN.out], HB.out⟩, rfl⟩)
        case measure => simp [intOf]; omega
      | true =>
        have HC : Hid (WIn w (true, si) outs (.slice ra outs.length rc) (.slice ia si.length ic) ((wr.alloc (.cells #[.int .i64 1, .string xs', .slice ta tn tc] 36)).alloc (.cells #[.string xs'] 9))) := Lib.hid (HR.out.later (by (repeat (first | (with_reducible exact Below.refl _ _) | (with_reducible assumption) | ((with_reducible refine Below.alloc ?_ ?_ _); rotate_left; focus ((try simp only [World.size_alloc, size_setCell, World.heap_drewN]); (try omega); done)) | ((with_reducible refine Below.setCell ?_ ?_ _); rotate_left; focus ((try simp only [World.size_alloc, size_setCell, World.heap_drewN]); (try omega); done)) | (with_reducible refine Below.drewN' ?_) | (with_reducible refine Below.drew ?_)))))
        have C := Lib.hid (each_any (.slice (some ⟨wr.heap.size + 1, 0, none⟩) 1 1) [xs'] ((wr.alloc (.cells #[.int .i64 1, .string xs', .slice ta tn tc] 36)).alloc (.cells #[.string xs'] 9)) (Strs.made [xs'] 1 (heap_at _ _ _ (by (simp only [World.size_alloc, size_setCell, World.heap_drewN])))) (by simp))
        go_wp2_with fail
        refine C.out.mono ?_
        rintro e w6 ⟨v14, rfl, ho6, hb6⟩
        have HA6 := Lib.hid (HC.out.later hb6)
        have hx6 : w6.heap[wr.heap.size]? = some (.cells #[.int .i64 1, .string xs', .slice ta tn tc] 36 (0, 0)) := (hb6.block _ (by simp only [World.size_alloc]; omega)).trans (by (repeat (first | (with_reducible assumption) | ((with_reducible refine heap_past' ?_ ?_); focus ((try simp only [World.size_alloc, size_setCell, World.heap_drewN]); (try omega); done)) | ((with_reducible refine heap_at _ _ _ ?_); focus ((try simp only [World.size_alloc, size_setCell, World.heap_drewN]); (try omega); done)) | ((with_reducible refine heap_ne' ?_ ?_); focus ((try simp only [World.size_alloc, size_setCell, World.heap_drewN]); (try omega); done)) | (with_reducible refine heap_drew' ?_))))
        have dx6 := cell_of hx6 0 _ rfl
        have HX6 := Lib.hid hx6
        clear hx6
        obtain ⟨na, nc, rfl⟩ := row_form ho6
        have HPn : Hid (∀ W, Below w6.heap.size w6 W → Vals W (.slice na 1 nc) ([xs'].map .string)) := Lib.hid (fun W h => (Vals.owned ho6).later h.block)
        have HQo : Hid (∀ W, Below w6.heap.size w6 W → Vals W (.slice ia si.length ic) (si.map .string)) := Lib.hid (fun W h => (HA6.out.it.vals).later h.block)
        have HST : Hid (runsG cutA oneA df (l.take (k + 1)) = ((true, si ++ [xs']), outs ++ [(false, si ++ [xs'])])) := Lib.hid (by rw [HN.out, runG_yes (.inr (.inl rfl))]; simp [stepG, cutA, oneA, eachA])
        have HLL : Hid ((si ++ [xs']).length ≤ 2147483647 + (k + 1)) := Lib.hid (by have := HLE.out; simp; omega)
        have hlo : si.length ≤ 2147483647 + k := by have := HLE.out; first | omega | (simp; done)
        have hln : [xs'].length ≤ 2147483647 := by first | omega | (simp; done)
        clear ho6 hb6 HC C HN
        obtain ⟨i0, hi0, hz0, hz1, hz2⟩ := info_parts infoW
        go_wp2_with (first
          | (at_builtin; refine wpList_append_fresh (by rfl) _ _ 22 9 (by rfl) Tryd.underlying22 infoStr rfl _ (by rfl) (heap_at _ _ _ (by (simp only [World.size_alloc, size_setCell, World.heap_drewN]))) _ (by rfl) (si.map .string) (HQo.out _ (by (repeat (first | (with_reducible exact Below.refl _ _) | (with_reducible assumption) | ((with_reducible refine Below.alloc ?_ ?_ _); rotate_left; focus ((try simp only [World.size_alloc, size_setCell, World.heap_drewN]); (try omega); done)) | ((with_reducible refine Below.setCell ?_ ?_ _); rotate_left; focus ((try simp only [World.size_alloc, size_setCell, World.heap_drewN]); (try omega); done)) | (with_reducible refine Below.drewN' ?_) | (with_reducible refine Below.drew ?_))))) (by simp [Value.oneCell']) (by unfold maxLen; rw [List.length_map]; omega) (by rw [List.length_map]; omega) ?_; intro v5 w5 hf5)
          | (at_builtin; refine wpList_append_vals (by rfl) _ _ 22 9 (by rfl) Tryd.underlying22 infoStr rfl w6.heap.size v5 _ (si.map .string) (by rfl) hf5.2.1 (Nat.le_trans (Nat.le_of_lt (by simp only [World.size_alloc]; omega)) hf5.below.size) _ (by rfl) ([xs'].map .string) (HPn.out _ (Below.after (b := w6.alloc (.cells #[] 9)) (by (repeat (first | (with_reducible exact Below.refl _ _) | (with_reducible assumption) | ((with_reducible refine Below.alloc ?_ ?_ _); rotate_left; focus ((try simp only [World.size_alloc, size_setCell, World.heap_drewN]); (try omega); done)) | ((with_reducible refine Below.setCell ?_ ?_ _); rotate_left; focus ((try simp only [World.size_alloc, size_setCell, World.heap_drewN]); (try omega); done)) | (with_reducible refine Below.drewN' ?_) | (with_reducible refine Below.drew ?_)))) hf5.below)) (by simp [Value.oneCell']) (by unfold maxLen; simp only [List.length_map]; omega) (by simp only [List.length_map]; omega) ?_; intro v7 w7 ho7 hg7 hat7; obtain ⟨NL, hNL⟩ : ∃ NL, (si.map Value.string).length + ([xs'].map Value.string).length = NL := ⟨_, rfl⟩; rw [hNL] at ho7; obtain ⟨pa, pc, rfl⟩ := row_form ho7; obtain ⟨hw7, hb7⟩ := wants_step (old := si) (nw := [xs']) HA6.out hf5 hg7 ho7 true; have HW7 := Lib.hid hw7; have dx7 := cell_of ((hb7.block _ (lt_of_block HX6.out)).trans HX6.out) 0 _ rfl; obtain ⟨ys, hrow7, hrows7⟩ := HW7.out.row)
          | (at_builtin; refine wpList_append_lies _ (by rfl) _ _ _ (by rfl) w.heap.size 43 i0 _ 2 32 Tryd.underlying39 hi0 hz0 hz1 hz2 rfl (by omega) (.slice ra outs.length rc) outs.length ys (by rfl) (row_grow hrow7 (by (repeat (first | (with_reducible exact Below.refl _ _) | (with_reducible assumption) | ((with_reducible refine Below.alloc ?_ ?_ _); rotate_left; focus ((try simp only [World.size_alloc, size_setCell, World.heap_drewN]); (try omega); done)) | ((with_reducible refine Below.setCell ?_ ?_ _); rotate_left; focus ((try simp only [World.size_alloc, size_setCell, World.heap_drewN]); (try omega); done)) | (with_reducible refine Below.drewN' ?_) | (with_reducible refine Below.drew ?_))))) ⟨w7.heap.size, 0, none⟩ 1 1 [.bool false, .slice pa NL pc] (by rfl) (by rfl) (news_lies (heap_at _ _ _ rfl) (by simp)) (by simp [Value.oneCell']) (by omega) (by have := HOL.out; unfold maxLen; omega) (by have := HOL.out; omega) (by have := HW7.out.bel.size; simp only [World.size_alloc]; omega) _ rfl ?_; intro g cap2 w8 hown hgrow hat hlt8))
        have HB : Hid (WIn w (runsG cutA oneA df (l.take (k + 1))).1 (runsG cutA oneA df (l.take (k + 1))).2 (.slice (some ⟨g, 0, none⟩) (outs.length + 1) cap2) (.slice pa NL pc) w8) := Lib.hid (by
          rw [HST.out]
          have hb8 : Below w7.heap.size w7 (w7.alloc (.cells #[.bool false, .slice pa NL pc] 43)) := by (repeat (first | (with_reducible exact Below.refl _ _) | (with_reducible assumption) | ((with_reducible refine Below.alloc ?_ ?_ _); rotate_left; focus ((try simp only [World.size_alloc, size_setCell, World.heap_drewN]); (try omega); done)) | ((with_reducible refine Below.setCell ?_ ?_ _); rotate_left; focus ((try simp only [World.size_alloc, size_setCell, World.heap_drewN]); (try omega); done)) | (with_reducible refine Below.drewN' ?_) | (with_reducible refine Below.drew ?_)))
          exact (HW7.out.later hb8).told (row_grow hrow7 hb8) (hrows7.later fun o cs hi => hi.grown fun b _ _ hb' => hb8.block b (lt_of_block hb')) hgrow false hown)
        have HLN2 : Hid ((runsG cutA oneA df (l.take (k + 1))).1.2.length ≤ 2147483647 + (k + 1)) := Lib.hid (by rw [HST.out]; exact HLL.out)
        have HBN : Hid (true = (runsG cutA oneA df (l.take (k + 1))).1.1) := Lib.hid (by rw [HST.out])
        clear hown hgrow hat hlt8 dx7 dx6 hrow7 hrows7
        go_wp2_with fail
        go_roundw
        case rel => first | exact ⟨k + 1, by omega, by go_num, HLN2.out, by rw [← HBN.out], HB.out⟩ | ((repeat apply Exists.intro); exact ⟨⟨k + 1, by omega, by go_num, HLN2.out, by rw [← HBN.out], HB.out⟩, rfl⟩)
        case measure => simp [intOf]; omega
    by_cases d2 : xd = 2
    · subst d2
      cases bs with
      | false =>
        have HC : Hid (WIn w (false, si) outs (.slice ra outs.length rc) (.slice ia si.length ic) (wr.alloc (.cells #[.int .i64 2, .string xs', .slice ta tn tc] 36))) := Lib.hid (HR.out.later (by (repeat (first | (with_reducible exact Below.refl _ _) | (with_reducible assumption) | ((with_reducible refine Below.alloc ?_ ?_ _); rotate_left; focus ((try simp only [World.size_alloc, size_setCell, World.heap_drewN]); (try omega); done)) | ((with_reducible refine Below.setCell ?_ ?_ _); rotate_left; focus ((try simp only [World.size_alloc, size_setCell, World.heap_drewN]); (try omega); done)) | (with_reducible refine Below.drewN' ?_) | (with_reducible refine Below.drew ?_)))))
        have C := Lib.hid (each_any (.slice ta tn tc) xl (wr.alloc (.cells #[.int .i64 2, .string xs', .slice ta tn tc] 36)) (H3.out.alloc _) (by omega))
        go_wp2_with fail
        refine C.out.mono ?_
        rintro e w6 ⟨v14, rfl, ho6, hb6⟩
        have HA6 := Lib.hid (HC.out.later hb6)
        have hx6 : w6.heap[wr.heap.size]? = some (.cells #[.int .i64 2, .string xs', .slice ta tn tc] 36 (0, 0)) := (hb6.block _ (by simp only [World.size_alloc]; omega)).trans (by (repeat (first | (with_reducible assumption) | ((with_reducible refine heap_past' ?_ ?_); focus ((try simp only [World.size_alloc, size_setCell, World.heap_drewN]); (try omega); done)) | ((with_reducible refine heap_at _ _ _ ?_); focus ((try simp only [World.size_alloc, size_setCell, World.heap_drewN]); (try omega); done)) | ((with_reducible refine heap_ne' ?_ ?_); focus ((try simp only [World.size_alloc, size_setCell, World.heap_drewN]); (try omega); done)) | (with_reducible refine heap_drew' ?_))))
        have dx6 := cell_of hx6 0 _ rfl
        have HX6 := Lib.hid hx6
        clear hx6
        obtain ⟨na, nc, rfl⟩ := row_form ho6
        have HPn : Hid (∀ W, Below w6.heap.size w6 W → Vals W (.slice na xl.length nc) (xl.map .string)) := Lib.hid (fun W h => (Vals.owned ho6).later h.block)
        have HQo : Hid (∀ W, Below w6.heap.size w6 W → Vals W (.slice none 0 0) (([] : List ByteArray).map .string)) := Lib.hid (fun W h => ⟨none, 0, rfl, .inl rfl⟩)
        have HST : Hid (runsG cutA oneA df (l.take (k + 1)) = ((false, ([] : List ByteArray) ++ xl), outs ++ [(false, ([] : List ByteArray) ++ xl)])) := Lib.hid (by rw [HN.out, runG_yes (.inr (.inr rfl))]; simp [stepG, cutA, oneA, eachA])
        have HLL : Hid ((([] : List ByteArray) ++ xl).length ≤ 2147483647 + (k + 1)) := Lib.hid (by have := HLE.out; simp; omega)
        have hlo : ([] : List ByteArray).length ≤ 2147483647 + k := by have := HLE.out; first | omega | (simp; done)
        have hln : xl.length ≤ 2147483647 := by first | omega | (simp; done)
        clear ho6 hb6 HC C HN
        obtain ⟨i0, hi0, hz0, hz1, hz2⟩ := info_parts infoW
        go_wp2_with (first
          | (at_builtin; refine wpList_append_fresh (by rfl) _ _ 22 9 (by rfl) Tryd.underlying22 infoStr rfl _ (by rfl) (heap_at _ _ _ (by (simp only [World.size_alloc, size_setCell, World.heap_drewN]))) _ (by rfl) (([] : List ByteArray).map .string) (HQo.out _ (by (repeat (first | (with_reducible exact Below.refl _ _) | (with_reducible assumption) | ((with_reducible refine Below.alloc ?_ ?_ _); rotate_left; focus ((try simp only [World.size_alloc, size_setCell, World.heap_drewN]); (try omega); done)) | ((with_reducible refine Below.setCell ?_ ?_ _); rotate_left; focus ((try simp only [World.size_alloc, size_setCell, World.heap_drewN]); (try omega); done)) | (with_reducible refine Below.drewN' ?_) | (with_reducible refine Below.drew ?_))))) (by simp [Value.oneCell']) (by unfold maxLen; rw [List.length_map]; omega) (by rw [List.length_map]; omega) ?_; intro v5 w5 hf5)
          | (at_builtin; refine wpList_append_vals (by rfl) _ _ 22 9 (by rfl) Tryd.underlying22 infoStr rfl w6.heap.size v5 _ (([] : List ByteArray).map .string) (by rfl) hf5.2.1 (Nat.le_trans (Nat.le_of_lt (by simp only [World.size_alloc]; omega)) hf5.below.size) _ (by rfl) (xl.map .string) (HPn.out _ (Below.after (b := w6.alloc (.cells #[] 9)) (by (repeat (first | (with_reducible exact Below.refl _ _) | (with_reducible assumption) | ((with_reducible refine Below.alloc ?_ ?_ _); rotate_left; focus ((try simp only [World.size_alloc, size_setCell, World.heap_drewN]); (try omega); done)) | ((with_reducible refine Below.setCell ?_ ?_ _); rotate_left; focus ((try simp only [World.size_alloc, size_setCell, World.heap_drewN]); (try omega); done)) | (with_reducible refine Below.drewN' ?_) | (with_reducible refine Below.drew ?_)))) hf5.below)) (by simp [Value.oneCell']) (by unfold maxLen; simp only [List.length_map]; omega) (by simp only [List.length_map]; omega) ?_; intro v7 w7 ho7 hg7 hat7; obtain ⟨NL, hNL⟩ : ∃ NL, (([] : List ByteArray).map Value.string).length + (xl.map Value.string).length = NL := ⟨_, rfl⟩; rw [hNL] at ho7; obtain ⟨pa, pc, rfl⟩ := row_form ho7; obtain ⟨hw7, hb7⟩ := wants_step (old := ([] : List ByteArray)) (nw := xl) HA6.out hf5 hg7 ho7 false; have HW7 := Lib.hid hw7; have dx7 := cell_of ((hb7.block _ (lt_of_block HX6.out)).trans HX6.out) 0 _ rfl; obtain ⟨ys, hrow7, hrows7⟩ := HW7.out.row)
          | (at_builtin; refine wpList_append_lies _ (by rfl) _ _ _ (by rfl) w.heap.size 43 i0 _ 2 32 Tryd.underlying39 hi0 hz0 hz1 hz2 rfl (by omega) (.slice ra outs.length rc) outs.length ys (by rfl) (row_grow hrow7 (by (repeat (first | (with_reducible exact Below.refl _ _) | (with_reducible assumption) | ((with_reducible refine Below.alloc ?_ ?_ _); rotate_left; focus ((try simp only [World.size_alloc, size_setCell, World.heap_drewN]); (try omega); done)) | ((with_reducible refine Below.setCell ?_ ?_ _); rotate_left; focus ((try simp only [World.size_alloc, size_setCell, World.heap_drewN]); (try omega); done)) | (with_reducible refine Below.drewN' ?_) | (with_reducible refine Below.drew ?_))))) ⟨w7.heap.size, 0, none⟩ 1 1 [.bool false, .slice pa NL pc] (by rfl) (by rfl) (news_lies (heap_at _ _ _ rfl) (by simp)) (by simp [Value.oneCell']) (by omega) (by have := HOL.out; unfold maxLen; omega) (by have := HOL.out; omega) (by have := HW7.out.bel.size; simp only [World.size_alloc]; omega) _ rfl ?_; intro g cap2 w8 hown hgrow hat hlt8))
        have HB : Hid (WIn w (runsG cutA oneA df (l.take (k + 1))).1 (runsG cutA oneA df (l.take (k + 1))).2 (.slice (some ⟨g, 0, none⟩) (outs.length + 1) cap2) (.slice pa NL pc) w8) := Lib.hid (by
          rw [HST.out]
          have hb8 : Below w7.heap.size w7 (w7.alloc (.cells #[.bool false, .slice pa NL pc] 43)) := by (repeat (first | (with_reducible exact Below.refl _ _) | (with_reducible assumption) | ((with_reducible refine Below.alloc ?_ ?_ _); rotate_left; focus ((try simp only [World.size_alloc, size_setCell, World.heap_drewN]); (try omega); done)) | ((with_reducible refine Below.setCell ?_ ?_ _); rotate_left; focus ((try simp only [World.size_alloc, size_setCell, World.heap_drewN]); (try omega); done)) | (with_reducible refine Below.drewN' ?_) | (with_reducible refine Below.drew ?_)))
          exact (HW7.out.later hb8).told (row_grow hrow7 hb8) (hrows7.later fun o cs hi => hi.grown fun b _ _ hb' => hb8.block b (lt_of_block hb')) hgrow false hown)
        have HLN2 : Hid ((runsG cutA oneA df (l.take (k + 1))).1.2.length ≤ 2147483647 + (k + 1)) := Lib.hid (by rw [HST.out]; exact HLL.out)
        have HBN : Hid (false = (runsG cutA oneA df (l.take (k + 1))).1.1) := Lib.hid (by rw [HST.out])
        clear hown hgrow hat hlt8 dx7 dx6 hrow7 hrows7
        go_wp2_with fail
        go_roundw
        case rel => first | exact ⟨k + 1, by omega, by go_num, HLN2.out, by rw [← HBN.out], HB.out⟩ | ((repeat apply Exists.intro); exact ⟨⟨k + 1, by omega, by go_num, HLN2.out, by rw [← HBN.out], HB.out⟩, rfl⟩)
        case measure => simp [intOf]; omega
      | true =>
        have HC : Hid (WIn w (true, si) outs (.slice ra outs.length rc) (.slice ia si.length ic) (wr.alloc (.cells #[.int .i64 2, .string xs', .slice ta tn tc] 36))) := Lib.hid (HR.out.later (by (repeat (first | (with_reducible exact Below.refl _ _) | (with_reducible assumption) | ((with_reducible refine Below.alloc ?_ ?_ _); rotate_left; focus ((try simp only [World.size_alloc, size_setCell, World.heap_drewN]); (try omega); done)) | ((with_reducible refine Below.setCell ?_ ?_ _); rotate_left; focus ((try simp only [World.size_alloc, size_setCell, World.heap_drewN]); (try omega); done)) | (with_reducible refine Below.drewN' ?_) | (with_reducible refine Below.drew ?_)))))
        have C := Lib.hid (each_any (.slice ta tn tc) xl (wr.alloc (.cells #[.int .i64 2, .string xs', .slice ta tn tc] 36)) (H3.out.alloc _) (by omega))
        go_wp2_with fail
        refine C.out.mono ?_
        rintro e w6 ⟨v14, rfl, ho6, hb6⟩
        have HA6 := Lib.hid (HC.out.later hb6)
        have hx6 : w6.heap[wr.heap.size]? = some (.cells #[.int .i64 2, .string xs', .slice ta tn tc] 36 (0, 0)) := (hb6.block _ (by simp only [World.size_alloc]; omega)).trans (by (repeat (first | (with_reducible assumption) | ((with_reducible refine heap_past' ?_ ?_); focus ((try simp only [World.size_alloc, size_setCell, World.heap_drewN]); (try omega); done)) | ((with_reducible refine heap_at _ _ _ ?_); focus ((try simp only [World.size_alloc, size_setCell, World.heap_drewN]); (try omega); done)) | ((with_reducible refine heap_ne' ?_ ?_); focus ((try simp only [World.size_alloc, size_setCell, World.heap_drewN]); (try omega); done)) | (with_reducible refine heap_drew' ?_))))
        have dx6 := cell_of hx6 0 _ rfl
        have HX6 := Lib.hid hx6
        clear hx6
        obtain ⟨na, nc, rfl⟩ := row_form ho6
        have HPn : Hid (∀ W, Below w6.heap.size w6 W → Vals W (.slice na xl.length nc) (xl.map .string)) := Lib.hid (fun W h => (Vals.owned ho6).later h.block)
        have HQo : Hid (∀ W, Below w6.heap.size w6 W → Vals W (.slice none 0 0) (([] : List ByteArray).map .string)) := Lib.hid (fun W h => ⟨none, 0, rfl, .inl rfl⟩)
        have HST : Hid (runsG cutA oneA df (l.take (k + 1)) = ((true, ([] : List ByteArray) ++ xl), outs ++ [(false, ([] : List ByteArray) ++ xl)])) := Lib.hid (by rw [HN.out, runG_yes (.inr (.inr rfl))]; simp [stepG, cutA, oneA, eachA])
        have HLL : Hid ((([] : List ByteArray) ++ xl).length ≤ 2147483647 + (k + 1)) := Lib.hid (by have := HLE.out; simp; omega)
        have hlo : ([] : List ByteArray).length ≤ 2147483647 + k := by have := HLE.out; first | omega | (simp; done)
        have hln : xl.length ≤ 2147483647 := by first | omega | (simp; done)
        clear ho6 hb6 HC C HN
        obtain ⟨i0, hi0, hz0, hz1, hz2⟩ := info_parts infoW
        go_wp2_with (first
          | (at_builtin; refine wpList_append_fresh (by rfl) _ _ 22 9 (by rfl) Tryd.underlying22 infoStr rfl _ (by rfl) (heap_at _ _ _ (by (simp only [World.size_alloc, size_setCell, World.heap_drewN]))) _ (by rfl) (([] : List ByteArray).map .string) (HQo.out _ (by (repeat (first | (with_reducible exact Below.refl _ _) | (with_reducible assumption) | ((with_reducible refine Below.alloc ?_ ?_ _); rotate_left; focus ((try simp only [World.size_alloc, size_setCell, World.heap_drewN]); (try omega); done)) | ((with_reducible refine Below.setCell ?_ ?_ _); rotate_left; focus ((try simp only [World.size_alloc, size_setCell, World.heap_drewN]); (try omega); done)) | (with_reducible refine Below.drewN' ?_) | (with_reducible refine Below.drew ?_))))) (by simp [Value.oneCell']) (by unfold maxLen; rw [List.length_map]; omega) (by rw [List.length_map]; omega) ?_; intro v5 w5 hf5)
          | (at_builtin; refine wpList_append_vals (by rfl) _ _ 22 9 (by rfl) Tryd.underlying22 infoStr rfl w6.heap.size v5 _ (([] : List ByteArray).map .string) (by rfl) hf5.2.1 (Nat.le_trans (Nat.le_of_lt (by simp only [World.size_alloc]; omega)) hf5.below.size) _ (by rfl) (xl.map .string) (HPn.out _ (Below.after (b := w6.alloc (.cells #[] 9)) (by (repeat (first | (with_reducible exact Below.refl _ _) | (with_reducible assumption) | ((with_reducible refine Below.alloc ?_ ?_ _); rotate_left; focus ((try simp only [World.size_alloc, size_setCell, World.heap_drewN]); (try omega); done)) | ((with_reducible refine Below.setCell ?_ ?_ _); rotate_left; focus ((try simp only [World.size_alloc, size_setCell, World.heap_drewN]); (try omega); done)) | (with_reducible refine Below.drewN' ?_) | (with_reducible refine Below.drew ?_)))) hf5.below)) (by simp [Value.oneCell']) (by unfold maxLen; simp only [List.length_map]; omega) (by simp only [List.length_map]; omega) ?_; intro v7 w7 ho7 hg7 hat7; obtain ⟨NL, hNL⟩ : ∃ NL, (([] : List ByteArray).map Value.string).length + (xl.map Value.string).length = NL := ⟨_, rfl⟩; rw [hNL] at ho7; obtain ⟨pa, pc, rfl⟩ := row_form ho7; obtain ⟨hw7, hb7⟩ := wants_step (old := ([] : List ByteArray)) (nw := xl) HA6.out hf5 hg7 ho7 true; have HW7 := Lib.hid hw7; have dx7 := cell_of ((hb7.block _ (lt_of_block HX6.out)).trans HX6.out) 0 _ rfl; obtain ⟨ys, hrow7, hrows7⟩ := HW7.out.row)
          | (at_builtin; refine wpList_append_lies _ (by rfl) _ _ _ (by rfl) w.heap.size 43 i0 _ 2 32 Tryd.underlying39 hi0 hz0 hz1 hz2 rfl (by omega) (.slice ra outs.length rc) outs.length ys (by rfl) (row_grow hrow7 (by (repeat (first | (with_reducible exact Below.refl _ _) | (with_reducible assumption) | ((with_reducible refine Below.alloc ?_ ?_ _); rotate_left; focus ((try simp only [World.size_alloc, size_setCell, World.heap_drewN]); (try omega); done)) | ((with_reducible refine Below.setCell ?_ ?_ _); rotate_left; focus ((try simp only [World.size_alloc, size_setCell, World.heap_drewN]); (try omega); done)) | (with_reducible refine Below.drewN' ?_) | (with_reducible refine Below.drew ?_))))) ⟨w7.heap.size, 0, none⟩ 1 1 [.bool false, .slice pa NL pc] (by rfl) (by rfl) (news_lies (heap_at _ _ _ rfl) (by simp)) (by simp [Value.oneCell']) (by omega) (by have := HOL.out; unfold maxLen; omega) (by have := HOL.out; omega) (by have := HW7.out.bel.size; simp only [World.size_alloc]; omega) _ rfl ?_; intro g cap2 w8 hown hgrow hat hlt8))
        have HB : Hid (WIn w (runsG cutA oneA df (l.take (k + 1))).1 (runsG cutA oneA df (l.take (k + 1))).2 (.slice (some ⟨g, 0, none⟩) (outs.length + 1) cap2) (.slice pa NL pc) w8) := Lib.hid (by
          rw [HST.out]
          have hb8 : Below w7.heap.size w7 (w7.alloc (.cells #[.bool false, .slice pa NL pc] 43)) := by (repeat (first | (with_reducible exact Below.refl _ _) | (with_reducible assumption) | ((with_reducible refine Below.alloc ?_ ?_ _); rotate_left; focus ((try simp only [World.size_alloc, size_setCell, World.heap_drewN]); (try omega); done)) | ((with_reducible refine Below.setCell ?_ ?_ _); rotate_left; focus ((try simp only [World.size_alloc, size_setCell, World.heap_drewN]); (try omega); done)) | (with_reducible refine Below.drewN' ?_) | (with_reducible refine Below.drew ?_)))
          exact (HW7.out.later hb8).told (row_grow hrow7 hb8) (hrows7.later fun o cs hi => hi.grown fun b _ _ hb' => hb8.block b (lt_of_block hb')) hgrow false hown)
        have HLN2 : Hid ((runsG cutA oneA df (l.take (k + 1))).1.2.length ≤ 2147483647 + (k + 1)) := Lib.hid (by rw [HST.out]; exact HLL.out)
        have HBN : Hid (true = (runsG cutA oneA df (l.take (k + 1))).1.1) := Lib.hid (by rw [HST.out])
        clear hown hgrow hat hlt8 dx7 dx6 hrow7 hrows7
        go_wp2_with fail
        go_roundw
        case rel => first | exact ⟨k + 1, by omega, by go_num, HLN2.out, by rw [← HBN.out], HB.out⟩ | ((repeat apply Exists.intro); exact ⟨⟨k + 1, by omega, by go_num, HLN2.out, by rw [← HBN.out], HB.out⟩, rfl⟩)
        case measure => simp [intOf]; omega
    · have e0 : decide (xd = 0) = false := decide_eq_false d0
      have e1 : decide (xd = 1) = false := decide_eq_false d1
      have e2 : decide (xd = 2) = false := decide_eq_false d2
      have HB : Hid (WIn w (runsG cutA oneA df (l.take (k + 1))).1 (runsG cutA oneA df (l.take (k + 1))).2 (.slice ra outs.length rc) (.slice ia si.length ic) (wr.alloc (.cells #[.int .i64 xd, .string xs', .slice ta tn tc] 36))) := Lib.hid (by
        rw [HN.out, runG_no d0 d1 d2]
        exact HR.out.later (by (repeat (first | (with_reducible exact Below.refl _ _) | (with_reducible assumption) | ((with_reducible refine Below.alloc ?_ ?_ _); rotate_left; focus ((try simp only [World.size_alloc, size_setCell, World.heap_drewN]); (try omega); done)) | ((with_reducible refine Below.setCell ?_ ?_ _); rotate_left; focus ((try simp only [World.size_alloc, size_setCell, World.heap_drewN]); (try omega); done)) | (with_reducible refine Below.drewN' ?_) | (with_reducible refine Below.drew ?_)))))
      have HLN2 : Hid ((runsG cutA oneA df (l.take (k + 1))).1.2.length ≤ 2147483647 + (k + 1)) := Lib.hid (by rw [HN.out, runG_no d0 d1 d2]; exact Nat.le_succ_of_le HLE.out)
      have HBN : Hid (bs = (runsG cutA oneA df (l.take (k + 1))).1.1) := Lib.hid (by rw [HN.out, runG_no d0 d1 d2])
      go_wp2_with fail
      go_roundw
      case rel => first | exact ⟨k + 1, by omega, by go_num, HLN2.out, by rw [HBN.out], HB.out⟩ | ((repeat apply Exists.intro); exact ⟨⟨k + 1, by omega, by go_num, HLN2.out, by rw [HBN.out], HB.out⟩, rfl⟩)
      case measure => simp [intOf]; omega
end Go.Proofs.YtechagcodmiliaaDoor
