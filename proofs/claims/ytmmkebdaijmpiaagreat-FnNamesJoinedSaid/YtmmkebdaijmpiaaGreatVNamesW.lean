/- The reference's SortNames walked. -/
import Derived.Test.YtmmkebdaijmpiaaGreatVNames
namespace Go.Proofs.YtmmkebdaijmpiaaGreat
open Go.RowKit Go.Sort
set_option linter.unusedVariables false
set_option linter.unusedSimpArgs false

/-- A row of texts of the call's own. -/
structure SLo (w0 : World) (ov : Value) (out : List ByteArray) (w : World) : Prop where
  bel : Below w0.heap.size w0 w
  row : w.ownsRow w0.heap.size 9 1 ov out.length (out.map Value.string)
theorem SLo.later {w0 w w1 : World} {ov : Value} {out : List ByteArray} (h : SLo w0 ov out w) (hb : Below w.heap.size w w1) : SLo w0 ov out w1 := ⟨h.bel.trans (hb.mono h.bel.size), row_grow h.row hb⟩
theorem SLo.grow {w0 w w1 : World} {ov : Value} {out : List ByteArray} (h : SLo w0 ov out w) {o : Obj} (hg : (w.alloc o).grownBy w1 ov.ownBlock) {g cap : Nat} (x : ByteArray) (hr : w1.ownsRow w0.heap.size 9 1 (.slice (some ⟨g, 0, none⟩) (out.length + 1) cap) (out.length + 1) (out.map Value.string ++ [.string x])) : SLo w0 (.slice (some ⟨g, 0, none⟩) (out.length + 1) cap) (out ++ [x]) w1 := by
  have h1 := h.later ((Below.refl _ w).alloc (Nat.le_refl _) o)
  refine ⟨grown_below h1.bel h1.bel.size h1.row hg, ?_⟩
  rw [List.map_append, List.length_append, List.length_singleton]
  exact hr

theorem Drawn.below {w w' : World} (h : Drawn w w') : RowKit.Below w.heap.size w w' := by
  obtain ⟨n, rfl⟩ := h
  exact Below.drewN' (Below.refl _ _)
theorem SLo.at {w0 w : World} {a : Option Addr} {n c : Nat} {out : List ByteArray} (h : SLo w0 (.slice a n c) out w) (i : Nat) (hi : i < out.length) : ∃ g, a = some ⟨g, 0, none⟩ ∧ w.cell? ⟨g, i, none⟩ = some (.string out[i]) := by
  rcases h.row.2 with ⟨e, hn⟩ | ⟨b, cap, cur, e, hb, hh, hnc, hcm, hcs, ht⟩
  · exact absurd hn (by omega)
  · cases e
    refine ⟨b, rfl, cell_of hh _ _ ?_⟩
    have : (out.map Value.string)[i]? = some (.string out[i]) := by simp [hi]
    rw [← ht, List.getElem?_take, if_pos (by omega), Array.getElem?_toList] at this
    exact this

set_option maxRecDepth 100000 in
set_option maxHeartbeats 6400000 in
theorem sortNames_any (v : Value) (l : List ByteArray) (w : World) (hs : Strs w v l) (hl : l.length ≤ 1048576) (hz : ∀ x ∈ l, x.size ≤ 1048576) :
    Calls Tryz.prog 30 #[v] w fun e w' => ∃ ov, e = .returned ov ∧ SLo w ov (srt l) w' := by
  obtain ⟨i0, hi0, hz0, hz1, hz2⟩ := info_parts infoStrT
  obtain ⟨a, cap, rfl⟩ := hs.len
  have HS := Lib.hid (fun W (h : Below w.heap.size w W) => hs.below h)
  have HZ := Lib.hid hz
  have H0 := Lib.hid (show SLo w (.slice none 0 0) [] w from ⟨Below.refl _ _, World.ownsRow_nil _ _ _ _⟩)
  clear hs hz
  go_enter Tryz.func30, Tryz.ntmps30
  go_wp2_with fail
  go_loopw [3, 9] (fun v3 vi wr => ∃ (k : Nat) (out : List ByteArray), k ≤ l.length ∧ vi = .int .i64 k ∧ SLo w v3 out wr ∧ out.length = k ∧ out.Perm (l.take k) ∧ out.Pairwise (fun a b => ltB b a = false)) (fun _ vi _ => l.length - (intOf vi).toNat)
  case atStart => exact ⟨0, [], Nat.zero_le _, rfl, H0.out, rfl, List.Perm.refl _, List.Pairwise.nil⟩
  case round =>
    obtain ⟨k, out, hk, rfl, hsl, hol, hp, hpw⟩ := hrel
    have HSL := Lib.hid hsl
    have HP := Lib.hid hp
    have HPW := Lib.hid hpw
    have HOL := Lib.hid hol
    have hole : out.length ≤ 1048576 := by omega
    obtain ⟨oa, oc, rfl⟩ := row_form hsl.row
    clear hsl hp hpw hol
    by_cases hlt : k < l.length
    case neg =>
      have HF : Hid (out = srt l) := Lib.hid (srt_eq (by have := HP.out; rwa [List.take_of_length_le (by omega)] at this) HPW.out)
      go_wp2_with fail
      go_ret
      exact ⟨_, rfl, by rw [← HF.out]; exact HSL.out⟩
    obtain ⟨b, off, rfl, hc⟩ := (HS.out wr HSL.out.bel).cell (by omega)
    have c1 := hc k hlt
    have HT := Lib.hid (show l.take (k + 1) = l.take k ++ [l[k]] from List.take_succ_eq_append_getElem hlt)
    have hxz := HZ.out _ (List.getElem_mem hlt)
    generalize l[k] = x at *
    have HOZ := Lib.hid (fun i (hi : i < out.length) => HZ.out _ (List.mem_of_mem_take (HP.out.mem_iff.1 (List.getElem_mem hi))))
    have HOC := Lib.hid (fun w2 (hd : Drawn wr w2) i (hi : i < out.length) => SLo.at (HSL.out.later hd.below) i hi)
    clear hc
    obtain ⟨wO, rfl⟩ : ∃ z : World, z = wr := ⟨_, rfl⟩
    go_upto_block 2 with fail
    go_cut [6] from 13 to 27 (fun v6 wx => ∃ j : Nat, j ≤ out.length ∧ v6 = .int .i64 j ∧ Drawn wO wx ∧ (∀ i (hi : i < out.length), i < j → ltB x out[i] = false) ∧ ∀ h : j < out.length, ltB x out[j] = true)
    case first =>
      go_wp2_with fail
      go_loopw [6] (fun vj w2 => ∃ j : Nat, j ≤ out.length ∧ vj = .int .i64 j ∧ Drawn wO w2 ∧ ∀ i (hi : i < out.length), i < j → ltB x out[i] = false) (fun vj _ => out.length - (intOf vj).toNat)
      case atStart => exact ⟨0, Nat.zero_le _, rfl, ⟨0, rfl⟩, fun i _ hi => absurd hi (Nat.not_lt_zero _)⟩
      case round =>
        obtain ⟨j, hj, rfl, hdr, hx⟩ := hrel
        have HI := Lib.hid hx
        have HDR := Lib.hid hdr
        clear hdr hx
        by_cases hjl : j < out.length
        · obtain ⟨gO, rfl, hcj⟩ := HOC.out wr HDR.out j hjl
          have HNX := Lib.hid (fun (e : ltB x out[j] = false) i (hi : i < out.length) (hi' : i < j + 1) => if q : i = j then (by subst q; exact e : ltB x out[i] = false) else HI.out i hi (by omega))
          have hyz := HOZ.out j hjl
          obtain ⟨y, hy⟩ : ∃ y, out[j] = y := ⟨_, rfl⟩
          rw [hy] at hcj HNX hyz
          have CB := Lib.hid (below_any x y wr hxz hyz)
          have HY := Lib.hid hy
          clear hy
          go_wp2_with fail
          refine CB.out.mono ?_
          rintro e w3 ⟨rfl, hd3⟩
          have HD3 := Lib.hid (HDR.out.trans hd3)
          clear CB hd3
          cases hq : ltB x y with
          | false =>
            have HF := Lib.hid (HNX.out hq)
            go_wp2_with fail
            go_roundw
            case rel => exact ⟨j + 1, by omega, by go_num, HD3.out, HF.out⟩
            case measure => simp [intOf]; omega
          | true =>
            have HT2 := Lib.hid (fun (h : j < out.length) => show ltB x out[j] = true by rw [HY.out]; exact hq)
            clear HNX
            go_wp2_with fail
            go_meet
            exact ⟨j, hj, rfl, HD3.out, HI.out, HT2.out⟩
        · have HT2 := Lib.hid (fun (h : j < out.length) => show ltB x out[j] = true from absurd h hjl)
          go_wp2_with fail
          go_meet
          exact ⟨j, hj, rfl, HDR.out, HI.out, HT2.out⟩
    case rest =>
    obtain ⟨j, hj, rfl, hdr, hx, ht2⟩ := hcut
    obtain ⟨w2, rfl⟩ : ∃ z : World, z = wc := ⟨_, rfl⟩
    have HI := Lib.hid hx
    have HT2 := Lib.hid ht2
    have HDB := Lib.hid hdr.below
    clear hdr hx ht2
    have HD2 := Lib.hid (HSL.out.later HDB.out)
    have hrow := HD2.out.row
    have hs0 := HD2.out.bel.size
    have HP2 := Lib.hid (insAt_sorted HPW.out hj HI.out HT2.out)
    go_wp2_with (
      at_builtin
      refine wpList_append_lies _ (by rfl) _ _ _ (by rfl) w.heap.size 9 i0 _ 1 16 Tryz.underlying23 hi0 hz0 hz1 hz2 rfl (by omega) (.slice oa out.length oc) out.length (out.map Value.string) (by rfl) (hrow.alloc _)
        ⟨w2.heap.size, 0, none⟩ 1 1 [.string ⟨#[]⟩] (by rfl) (by rfl) (World.news_of_block (cs := #[.string ⟨#[]⟩]) (t := 9) (fr := (0, 0)) (heap_alloc_new w2 _)) (by simp [Value.oneCell'])
        (by omega) (by unfold maxLen; omega) (by omega) (by simp only [World.size_alloc]; exact Nat.le_succ_of_le hs0) (w2.heap.size + 1) (by simp only [World.size_alloc]) ?_
      intro gg cap5 w5 hown1 hgrow hat hlt5)
    have HO5 := Lib.hid (HD2.out.grow hgrow ⟨#[]⟩ hown1)
    have hr5 := hown1.2
    obtain ⟨cur, hb5, hh5, hn5, hcm5, hcs5, ht5⟩ : ∃ cur : Array Value, w.heap.size ≤ gg ∧ w5.heap[gg]? = some (.cells cur 9 (0, 0)) ∧ out.length + 1 ≤ cap5 ∧ cap5 ≤ maxLen ∧ cur.size = cap5 * 1 ∧ cur.toList.take ((out.length + 1) * 1) = out.map Value.string ++ [.string ⟨#[]⟩] := by
      rcases hr5 with ⟨e, _⟩ | ⟨g', cap', cur, e, h1, h2, h3, h4, h5, h6⟩
      · cases e
      · cases e; exact ⟨cur, h1, h2, h3, h4, h5, h6⟩
    have HCUR := Lib.hid (show w5.drew.heap[gg]? = some (.cells cur.toList.toArray 9 (0, 0)) from hh5)
    have HTK := Lib.hid ht5
    have HB5 := Lib.hid (show RowKit.Below w.heap.size w w5.drew from HO5.out.bel.drew)
    have hcl : cur.toList.length = cap5 := by rw [Array.length_toList, hcs5, Nat.mul_one]
    have HRD : Hid (∀ j' v, ((out.drop j).map Value.string)[j']? = some v → w5.drew.cell? ((⟨gg, j, none⟩ : Addr).add j') = some v) := Lib.hid (fun j' v hv => by
      rw [show (⟨gg, j, none⟩ : Addr).add j' = ⟨gg, j + j', none⟩ by unfold Addr.add; split <;> simp_all]
      refine cell_of (show w5.drew.heap[gg]? = some (.cells cur 9 (0, 0)) from hh5) _ _ ?_
      rw [List.getElem?_map, List.getElem?_drop] at hv
      have hjl : j + j' < out.length := by
        rcases Nat.lt_or_ge (j + j') out.length with h | h
        · exact h
        · rw [List.getElem?_eq_none h] at hv; cases hv
      have := congrArg (fun l => l[j + j']?) HTK.out
      simp only [Nat.mul_one, List.getElem?_take, if_pos (show j + j' < out.length + 1 by omega)] at this
      rw [← Array.getElem?_toList, this, List.getElem?_append_left (by simpa using hjl), List.getElem?_map]
      exact hv)
    obtain ⟨cs, hcs⟩ : ∃ cs, cs = (out.drop j).map Value.string := ⟨_, rfl⟩
    have hcl2 : cs.length = out.length - j := by rw [hcs]; simp
    have hone : ∀ v ∈ cs, v.oneCell' = true := by
      rw [hcs]; intro v hv
      obtain ⟨x', _, rfl⟩ := List.mem_map.1 hv
      rfl
    rw [← hcs] at HRD
    have HCS := Lib.hid hcs
    clear hown1 hgrow hat hr5 hh5 ht5 hcs hrow
    have wj : IntKind.i64.wrap ((j : Int) + 1) = (j : Int) + 1 := by unfold IntKind.wrap; simp [IntKind.bits, IntKind.signed]; omega
    have q1 : (0 : Int) ≤ (j : Int) + 1 := by omega
    have q2 : (j : Int) + 1 ≤ (out.length : Int) + 1 := by omega
    have q3 : ((j : Int) + 1).toNat = j + 1 := by omega
    have q4 : (j : Int) ≤ (out.length : Int) + 1 := by omega
    have q5 : ¬ cap5 = j := by omega
    clear HOC HOZ HZ H0 HS HT2 HI HD2 HDB c1 hxz hk hs0
    go_region_law (
      refine step_copy_splice (by rfl) _ _ 23 23 (by rfl) 9 (by kernel_rfl) (by kernel_rfl) _ _ _ _ _ _ (by rfl) (by rfl) gg (j + 1) cur.toList 9 HCUR.out cs (by show cs.length = min _ _; omega) (fun hpos => ⟨if_neg (by omega), _, rfl, HRD.out⟩) (by omega) hone w.heap.size w HB5.out hb5 ?_
      intro w6 hg6 hb6)
    have hg := hg6.out
    have hlenS : (splice cur.toList (j + 1) cs).length = cap5 := by rw [length_splice _ _ _ (by omega)]; exact hcl
    obtain ⟨old, s1⟩ : ∃ old, w6.cell? ⟨gg, j, none⟩ = some old := ⟨(splice cur.toList (j + 1) cs)[j]'(by omega), cell_of hg j _ (by rw [List.getElem?_toArray, List.getElem?_eq_getElem])⟩
    have s2 := frozen_of hg j
    have s3 := lt_of_block hg
    have HSLn := Lib.hid (show SLo w (.slice (some ⟨gg, 0, none⟩) (out.length + 1) cap5) (insAt x j out) (w6.setCell ⟨gg, j, none⟩ (.string x)) from ⟨hb6.setCell hb5 _, by
      rw [insAt_length]
      refine ⟨by simp [insAt_length], .inr ⟨gg, cap5, _, rfl, hb5, heap_set hg j _, hn5, hcm5, by simp [hlenS], ?_⟩⟩
      rw [Nat.mul_one, Array.toList_setIfInBounds, HCS.out]
      exact row_ins cur.toList out x j hj (by have := HTK.out; rwa [Nat.mul_one] at this)⟩)
    have HLn := Lib.hid (show (insAt x j out).length = k + 1 by rw [insAt_length, HOL.out])
    have HPn := Lib.hid (show (insAt x j out).Perm (l.take (k + 1)) by rw [HT.out]; exact (insAt_perm x j out).trans (HP.out.append_right _))
    have hk1 : k < 1048576 := by have := HOL.out; omega
    clear hg hg6 hb6 hlenS HCUR HTK HB5 HRD hone HCS hcl hcl2 wj q3
    go_wp2_with fail
    go_roundw
    case rel => exact ⟨k + 1, insAt x j out, by omega, by go_num, HSLn.out, HLn.out, HPn.out, HP2.out⟩
    case measure => simp [intOf]; omega
end Go.Proofs.YtmmkebdaijmpiaaGreat
