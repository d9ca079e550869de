/- The walk of the law FnChanged. (Printed by gen_law.py.) -/
import Derived.Test.YtcpjdgbnfjdakaaSameL
import Derived.Deep.RegionHeld3
namespace Go.Proofs.Ytcpjdgbnfjdakaa
open Go.RowKit
set_option linter.unusedVariables false
set_option linter.unusedSimpArgs false

set_option maxRecDepth 100000 in
set_option maxHeartbeats 1600000 in
theorem fnChanged_law (fv v : Value) (plain unk : Bool) (fold : Int) (fs : List FlagD) (l : List ByteArray) (w : World) (hv : FlagRows w fv fs) (hfl : fs.length ≤ 9223372036854775807) (hbl : ∀ f ∈ fs, f.bad.length ≤ 9223372036854775807) (ht : Texts w v l) (hll : l.length ≤ 9223372036854775807) :
    Calls Try.prog 7 #[.agg #[fv, .bool plain, .bool unk, .int .i64 fold], v] w fun e w' => e = .returned (.bool true) ∧ Below w.heap.size w w' := by
  obtain ⟨fa, fc, rfl⟩ := hv.len
  obtain ⟨va, vc, rfl, hvc⟩ := ht.len
  obtain ⟨w1, hw1⟩ : ∃ w1, w.alloc (.cells #[.slice fa fs.length fc, .bool plain, .bool unk, .int .i64 fold] 24) = w1 := ⟨_, rfl⟩
  have hb1 : Below w.heap.size w w1 := by rw [← hw1]; (repeat (first | (with_reducible exact Below.refl _ _) | (with_reducible assumption) | ((with_reducible refine Below.alloc ?_ ?_ _); rotate_left; focus ((try simp only [World.size_alloc, size_setCell, World.heap_drewN]); (try omega); done)) | ((with_reducible refine Below.setCell ?_ ?_ _); rotate_left; focus ((try simp only [World.size_alloc, size_setCell, World.heap_drewN]); (try omega); done)) | (with_reducible refine Below.drewN' ?_) | (with_reducible refine Below.drew ?_)))
  have hX : w1.heap[w.heap.size]? = some (.cells #[.slice fa fs.length fc, .bool plain, .bool unk, .int .i64 fold] 24 (0, 0)) := by rw [← hw1]; exact heap_at _ _ _ rfl
  have cells : ∀ w', Below w1.heap.size w1 w' → w'.cell? ⟨w.heap.size, 0, none⟩ = some (.slice fa fs.length fc) ∧ w'.cell? ⟨w.heap.size, 1, none⟩ = some (.bool plain) ∧ w'.cell? ⟨w.heap.size, 2, none⟩ = some (.bool unk) ∧ w'.cell? ⟨w.heap.size, 3, none⟩ = some (.int .i64 fold) := fun w' h => by
    have e := (h.block _ (lt_of_block hX)).trans hX
    simp only [World.cell?, e]
    exact ⟨rfl, rfl, rfl, rfl⟩
  have hbW : ∀ w', Below w1.heap.size w1 w' → Below w.heap.size w w' := fun w' h => Below.after hb1 h
  have HC := Lib.hid cells
  have HW := Lib.hid hbW
  have HV := Lib.hid hv
  have HT := Lib.hid ht
  obtain ⟨a0, a1, a2, a3⟩ := cells w1 (Below.refl _ _)
  have F19 := fits19_any (.slice fa fs.length fc) plain unk fold fs w1 (hv.later hb1.block) hfl hbl
  clear cells hbW hv ht hX hb1
  go_enter Try.func7, Try.ntmps7
  go_wp2_with fail
  refine F19.mono ?_
  rintro e w2 ⟨⟨b2, rfl, hsf⟩, hb2⟩
  have HSF := Lib.hid hsf
  clear hsf F19 hw1 a0 a1 a2 a3
  cases b2 with
  | false =>
    go_wp2_with fail
    go_ret
    exact ⟨rfl, HW.out _ hb2⟩
  | true =>
    have HSF1 := Lib.hid (HSF.out (by trivial))
    clear HSF
    have F2 := fits2_any (.slice va l.length vc) l w2 ((HT.out.later (HW.out _ hb2).block).strs) hll
    go_wp2_with fail
    refine F2.mono ?_
    rintro e w3 ⟨⟨b3, rfl, hsl⟩, rfl⟩
    have HSL := Lib.hid hsl
    clear hsl F2
    cases b3 with
    | false =>
      go_wp2_with fail
      go_ret
      exact ⟨rfl, HW.out _ hb2⟩
    | true =>
      have HSL1 := Lib.hid (HSL.out (by trivial))
      clear HSL
      obtain ⟨a0, a1, a2, a3⟩ := HC.out _ hb2
      have FR := right_any (.slice fa fs.length fc) fs plain unk fold w3 (HV.out.later (HW.out _ hb2).block) HSF1.out.1 (fun f hf => ⟨(HSF1.out.2 f hf).1, (HSF1.out.2 f hf).2.1⟩)
      go_wp2_with fail
      refine FR.mono ?_
      rintro e w4 ⟨⟨b4, rfl, hr⟩, hb4⟩
      have hb4 := Below.after hb2 hb4
      have HR := Lib.hid hr
      clear hr FR a0 a1 a2 a3 hb2
      cases b4 with
      | false =>
        go_wp2_with fail
        go_ret
        exact ⟨rfl, HW.out _ hb4⟩
      | true =>
        have HR1 := Lib.hid (HR.out (by trivial))
        clear HR
        have hb5 := Below.after hb4 ((Below.refl _ w4).alloc (Nat.le_refl _) (.cells #[.slice va l.length vc] 25))
        have F14 := fits14_any (.slice (some ⟨w4.heap.size, 0, none⟩) 1 1) [l] (w4.alloc (.cells #[.slice va l.length vc] 25)) (StrRows.made1 (ty := 25) (fz := (0, 0)) 1 (heap_at _ _ _ rfl) (HT.out.later (HW.out _ hb5).block).strs) (by simp) (by intro l' h'; simp only [List.mem_singleton] at h'; subst h'; exact HSL1.out)
        go_wp2_with fail
        refine F14.mono ?_
        rintro e w5 ⟨rfl, rfl⟩
        cases hf : fitsF [l] with
        | false =>
          go_wp2_with fail
          go_ret
          exact ⟨rfl, HW.out _ hb5⟩
        | true =>
          have hbl2 := fits_one hf
          have hll2 : l.length ≤ 1048576 := Nat.le_trans (len_bytesOf l) hbl2
          obtain ⟨a0, a1, a2, a3⟩ := HC.out _ hb5
          obtain ⟨rq, r0, r3⟩ := HR1.out
          obtain ⟨e1, e2⟩ := and_bits fold r0 r3
          have RP := right_of (plain := plain) (unk := unk) rq r0 r3 HSF1.out
          generalize w4.alloc (.cells #[.slice va l.length vc] 25) = w5 at *
          have hIA := implParse_any (.slice fa fs.length fc) (.slice va l.length vc) plain unk fold (setD fs plain unk fold) w5 (HV.out.later (HW.out _ hb5).block) rfl rfl rfl rfl RP l (HT.out.later (HW.out _ hb5).block) HSL1.out.2 HSL1.out.1 (by omega)
          have HIA := Lib.hid hIA
          have HRZ := Lib.hid (run_sizes (setD fs plain unk fold) .sets l hbl2)
          clear F14 rq RP e1 e2 HR1 hIA hb4
          generalize goesF (setD fs plain unk fold) .sets l begin0 = r at *
          have HCZ := Lib.hid (show (chgU r.given fs.length).length ≤ 1099511627776 by have q := chgU_len r.given fs.length; have := HSF1.out.1; exact Nat.le_trans q (Nat.le_trans this (by omega)))
          go_wp2_with fail
          refine HIA.out.mono ?_
          rintro e w6 ⟨⟨gv, av, cv, rfl, hg1, ht1, hc1⟩, hb6⟩
          have hb6 := Below.after hb5 hb6
          obtain ⟨g1, g2, rfl, -⟩ := hg1.len
          obtain ⟨t1, t2, rfl, -⟩ := ht1.len
          obtain ⟨c1, c2, rfl⟩ := hc1.len
          have hfl2 : (setD fs plain unk fold).flags.length = fs.length := rfl
          rw [hfl2] at hc1 ⊢
          generalize hch : chgU r.given fs.length = ch at *
          have HCH := Lib.hid hch
          simp only [hCells]
          clear hfl2 hch a0 a1 a2 a3 ht1
          go_wp2_with fail
          have hb7 : Below w1.heap.size w1 (w6.alloc (.cells #[.int .i64 r.err.kind, .string r.err.name, .string r.err.shorts, .string r.err.value, .int .i64 r.err.place, .slice g1 r.given.length g2, .slice t1 r.args.length t2, .int .i64 r.dash, .slice c1 ch.length c2, .bool true, .bool false] 33)) := hb6.alloc hb6.size _
          have hb67 : Below w6.heap.size w6 (w6.alloc (.cells #[.int .i64 r.err.kind, .string r.err.name, .string r.err.shorts, .string r.err.value, .int .i64 r.err.place, .slice g1 r.given.length g2, .slice t1 r.args.length t2, .int .i64 r.dash, .slice c1 ch.length c2, .bool true, .bool false] 33)) := (Below.refl _ _).alloc (Nat.le_refl _) _
          have hN : (w6.alloc (.cells #[.int .i64 r.err.kind, .string r.err.name, .string r.err.shorts, .string r.err.value, .int .i64 r.err.place, .slice g1 r.given.length g2, .slice t1 r.args.length t2, .int .i64 r.dash, .slice c1 ch.length c2, .bool true, .bool false] 33)).heap[w6.heap.size]? = some (.cells #[.int .i64 r.err.kind, .string r.err.name, .string r.err.shorts, .string r.err.value, .int .i64 r.err.place, .slice g1 r.given.length g2, .slice t1 r.args.length t2, .int .i64 r.dash, .slice c1 ch.length c2, .bool true, .bool false] 33 (0, 0)) := heap_at _ _ _ rfl
          generalize w6.alloc (.cells #[.int .i64 r.err.kind, .string r.err.name, .string r.err.shorts, .string r.err.value, .int .i64 r.err.place, .slice g1 r.given.length g2, .slice t1 r.args.length t2, .int .i64 r.dash, .slice c1 ch.length c2, .bool true, .bool false] 33) = w7 at *
          have keep : ∀ wx, Below w7.heap.size w7 wx → (wx.cell? ⟨w.heap.size, 0, none⟩ = some (.slice fa fs.length fc) ∧ wx.cell? ⟨w.heap.size, 1, none⟩ = some (.bool plain) ∧ wx.cell? ⟨w.heap.size, 2, none⟩ = some (.bool unk) ∧ wx.cell? ⟨w.heap.size, 3, none⟩ = some (.int .i64 fold) ∧ wx.cell? ⟨w6.heap.size, 9, none⟩ = some (.bool true) ∧ wx.cell? ⟨w6.heap.size, 10, none⟩ = some (.bool false) ∧ wx.cell? ⟨w6.heap.size, 8, none⟩ = some (.slice c1 ch.length c2) ∧ wx.cell? ⟨w6.heap.size, 5, none⟩ = some (.slice g1 r.given.length g2)) := fun wx h => by
            obtain ⟨q0, q1, q2, q3⟩ := HC.out _ (Below.after hb7 h)
            have e := (h.block _ (lt_of_block hN)).trans hN
            exact ⟨q0, q1, q2, q3, cell_of e 9 _ rfl, cell_of e 10 _ rfl, cell_of e 8 _ rfl, cell_of e 5 _ rfl⟩
          have HK := Lib.hid keep
          have HCH2 := Lib.hid (changed_any (.slice fa fs.length fc) fs plain unk fold (.slice g1 r.given.length g2) r.given w7.drew (HV.out.later (HW.out _ hb7.drew).block) HSF1.out.1 ((hg1.later hb67.block).later (Below.refl _ w7).drew.block) HRZ.out.1)
          rw [HCH.out] at HCH2
          have HI := Lib.hid (fun (w8 : World) (h : Below w7.heap.size w7 w8) (cv : Value) (hr : Ints w8 cv ch) => sameInts_any (.slice c1 ch.length c2) cv ch ch w8 ((hc1.later hb67.block).later h.block) hr HCZ.out HCZ.out)
          simp only [decide_true] at HI
          have HB7 := Lib.hid hb7
          clear keep hN hb67 hb7 hb6 hg1 hc1 HIA
          go_region_held3 (fun wx => wx.cell? ⟨w.heap.size, 0, none⟩ = some (.slice fa fs.length fc) ∧ wx.cell? ⟨w.heap.size, 1, none⟩ = some (.bool plain) ∧ wx.cell? ⟨w.heap.size, 2, none⟩ = some (.bool unk) ∧ wx.cell? ⟨w.heap.size, 3, none⟩ = some (.int .i64 fold) ∧ wx.cell? ⟨w6.heap.size, 9, none⟩ = some (.bool true) ∧ wx.cell? ⟨w6.heap.size, 10, none⟩ = some (.bool false) ∧ wx.cell? ⟨w6.heap.size, 8, none⟩ = some (.slice c1 ch.length c2) ∧ wx.cell? ⟨w6.heap.size, 5, none⟩ = some (.slice g1 r.given.length g2))
            (first
              | (with_reducible exact HK.out _ (Below.refl _ _))
              | (with_reducible exact HK.out _ (Below.refl _ _).drew)
              | (with_reducible exact HK.out _ hb8)
              | (with_reducible exact HK.out _ hb9))
            (first
              | (go_simp; go_at_call 27; with_reducible refine HCH2.out.mono ?_; rintro e w8 ⟨cv, rfl, hr8, hb8⟩; have hb8 := Below.after (Below.refl w7.heap.size w7).drew hb8)
              | (go_simp; go_at_call 30; with_reducible refine (HI.out _ hb8 _ (Ints.ofRow hr8)).mono ?_; rintro e w9 ⟨rfl, hd9⟩; have hb9 := Below.after hb8 hd9.below))
          all_goals (go_wp2_with fail)
          all_goals go_ret
          all_goals exact ⟨rfl, HW.out _ (Below.after HB7.out hb9)⟩
end Go.Proofs.Ytcpjdgbnfjdakaa
