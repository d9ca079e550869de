/- The walk of the law FnParseAll. (Printed by gen_law.py.) -/
import Derived.Test.YtcpjdgbnfjdakaaSameL
import Derived.Test.YtcpjdgbnfjdakaaImplS
import Derived.Test.YtcpjdgbnfjdakaaSpecJ
import Derived.Deep.RegionHeld3
namespace Go.Proofs.Ytcpjdgbnfjdakaa
open Go.RowKit
set_option linter.unusedVariables false
set_option linter.unusedSimpArgs false

theorem fits_two {l m : List ByteArray} (h : fitsF [l, m] = true) : bytesOf l ≤ 1048576 ∧ bytesOf m ≤ 1048576 := by
  have : bytesOf l + bytesOf m ≤ 1048576 := by simpa [fitsF, bytesOfAll] using h
  omega
theorem StrRows.made2 {w : World} {b : Nat} {ty : TypeId} {fz : Nat × Nat} {v v' : Value} {l l' : List ByteArray} (cap : Nat) (h : w.heap[b]? = some (.cells #[v, v'] ty fz)) (hr : Strs w v l) (hr' : Strs w v' l') : StrRows w (.slice (some ⟨b, 0, none⟩) 2 cap) [l, l'] :=
  StrRows.made [v, v'] [l, l'] cap h rfl fun i h1 h2 => by
    match i, h1, h2 with
    | 0, _, _ => exact hr
    | 1, _, _ => exact hr'

set_option maxRecDepth 100000 in
set_option maxHeartbeats 1600000 in
theorem fnParseAll_law (fv v badV : Value) (plain unk : Bool) (fold : Int) (fs : List FlagD) (l : List ByteArray) (w : World) (hv : FlagRows w fv fs) (hfl : fs.length ≤ 9223372036854775807) (hbl : ∀ f ∈ fs, f.bad.length ≤ 9223372036854775807) (ht : Texts w v l) (hll : l.length ≤ 9223372036854775807) (bad : List ByteArray) (hbad : Strs w badV bad) (hbll : bad.length ≤ 9223372036854775807) :
    Calls Try.prog 4 #[.agg #[fv, .bool plain, .bool unk, .int .i64 fold], v, badV] w fun e w' => e = .returned (.bool true) ∧ Below w.heap.size w w' := by
  obtain ⟨fa, fc, rfl⟩ := hv.len
  obtain ⟨va, vc, rfl, hvc⟩ := ht.len
  obtain ⟨ba, bc, rfl⟩ := hbad.len
  obtain ⟨w1, hw1⟩ : ∃ w1, w.alloc (.cells #[.slice fa fs.length fc, .bool plain, .bool unk, .int .i64 fold] 24) = w1 := ⟨_, rfl⟩
  have hb1 : Below w.heap.size w w1 := by rw [← hw1]; (repeat (first | (with_reducible exact Below.refl _ _) | (with_reducible assumption) | ((with_reducible refine Below.alloc ?_ ?_ _); rotate_left; focus ((try simp only [World.size_alloc, size_setCell, World.heap_drewN]); (try omega); done)) | ((with_reducible refine Below.setCell ?_ ?_ _); rotate_left; focus ((try simp only [World.size_alloc, size_setCell, World.heap_drewN]); (try omega); done)) | (with_reducible refine Below.drewN' ?_) | (with_reducible refine Below.drew ?_)))
  have hX : w1.heap[w.heap.size]? = some (.cells #[.slice fa fs.length fc, .bool plain, .bool unk, .int .i64 fold] 24 (0, 0)) := by rw [← hw1]; exact heap_at _ _ _ rfl
  have cells : ∀ w', Below w1.heap.size w1 w' → w'.cell? ⟨w.heap.size, 0, none⟩ = some (.slice fa fs.length fc) ∧ w'.cell? ⟨w.heap.size, 1, none⟩ = some (.bool plain) ∧ w'.cell? ⟨w.heap.size, 2, none⟩ = some (.bool unk) ∧ w'.cell? ⟨w.heap.size, 3, none⟩ = some (.int .i64 fold) := fun w' h => by
    have e := (h.block _ (lt_of_block hX)).trans hX
    simp only [World.cell?, e]
    exact ⟨rfl, rfl, rfl, rfl⟩
  have hbW : ∀ w', Below w1.heap.size w1 w' → Below w.heap.size w w' := fun w' h => Below.after hb1 h
  have HC := Lib.hid cells
  have HW := Lib.hid hbW
  have HV := Lib.hid hv
  have HT := Lib.hid ht
  have HBAD := Lib.hid hbad
  obtain ⟨a0, a1, a2, a3⟩ := cells w1 (Below.refl _ _)
  have F19 := fits19_any (.slice fa fs.length fc) plain unk fold fs w1 (hv.later hb1.block) hfl hbl
  clear cells hbW hv ht hX hb1 hbad
  go_enter Try.func4, Try.ntmps4
  go_wp2_with fail
  refine F19.mono ?_
  rintro e w2 ⟨⟨b2, rfl, hsf⟩, hb2⟩
  have HSF := Lib.hid hsf
  clear hsf F19 hw1 a0 a1 a2 a3
  cases b2 with
  | false =>
    go_wp2_with fail
    go_ret
    exact ⟨rfl, HW.out _ hb2⟩
  | true =>
    have HSF1 := Lib.hid (HSF.out (by trivial))
    clear HSF
    have F2 := fits2_any (.slice va l.length vc) l w2 ((HT.out.later (HW.out _ hb2).block).strs) hll
    go_wp2_with fail
    refine F2.mono ?_
    rintro e w3 ⟨⟨b3, rfl, hsl⟩, rfl⟩
    have HSL := Lib.hid hsl
    clear hsl F2
    cases b3 with
    | false =>
      go_wp2_with fail
      go_ret
      exact ⟨rfl, HW.out _ hb2⟩
    | true =>
      have HSL1 := Lib.hid (HSL.out (by trivial))
      clear HSL
      have F2 := fits2_any (.slice ba bad.length bc) bad w3 (HBAD.out.later (HW.out _ hb2).block) hbll
      go_wp2_with fail
      refine F2.mono ?_
      rintro e w3b ⟨⟨b3, rfl, hsl⟩, rfl⟩
      have HSB := Lib.hid hsl
      clear hsl F2
      cases b3 with
      | false =>
        go_wp2_with fail
        go_ret
        exact ⟨rfl, HW.out _ hb2⟩
      | true =>
        have HSB1 := Lib.hid (HSB.out (by trivial))
        clear HSB
        obtain ⟨a0, a1, a2, a3⟩ := HC.out _ hb2
        have FR := right_any (.slice fa fs.length fc) fs plain unk fold w3b (HV.out.later (HW.out _ hb2).block) HSF1.out.1 (fun f hf => ⟨(HSF1.out.2 f hf).1, (HSF1.out.2 f hf).2.1⟩)
        go_wp2_with fail
        refine FR.mono ?_
        rintro e w4 ⟨⟨b4, rfl, hr⟩, hb4⟩
        have hb4 := Below.after hb2 hb4
        have HR := Lib.hid hr
        clear hr FR a0 a1 a2 a3 hb2
        cases b4 with
        | false =>
          go_wp2_with fail
          go_ret
          exact ⟨rfl, HW.out _ hb4⟩
        | true =>
          have HR1 := Lib.hid (HR.out (by trivial))
          clear HR
          have hb5 := Below.after hb4 ((Below.refl _ w4).alloc (Nat.le_refl _) (.cells #[.slice va l.length vc, .slice ba bad.length bc] 25))
          have F14 := fits14_any (.slice (some ⟨w4.heap.size, 0, none⟩) 2 2) [l, bad] (w4.alloc (.cells #[.slice va l.length vc, .slice ba bad.length bc] 25)) (StrRows.made2 (ty := 25) (fz := (0, 0)) 2 (heap_at _ _ _ rfl) (HT.out.later (HW.out _ hb5).block).strs (HBAD.out.later (HW.out _ hb5).block)) (by simp) (by intro l' h'; simp only [List.mem_cons, List.not_mem_nil, or_false] at h'; rcases h' with rfl | rfl; exact HSL1.out; exact HSB1.out)
          go_wp2_with fail
          refine F14.mono ?_
          rintro e w5 ⟨rfl, rfl⟩
          cases hf : fitsF [l, bad] with
          | false =>
            go_wp2_with fail
            go_ret
            exact ⟨rfl, HW.out _ hb5⟩
          | true =>
            have hbl2 := (fits_two hf).1
            have hll2 : l.length ≤ 1048576 := Nat.le_trans (len_bytesOf l) hbl2
            obtain ⟨a0, a1, a2, a3⟩ := HC.out _ hb5
            obtain ⟨rq, r0, r3⟩ := HR1.out
            obtain ⟨e1, e2⟩ := and_bits fold r0 r3
            have RP := right_of (plain := plain) (unk := unk) rq r0 r3 HSF1.out
            generalize w4.alloc (.cells #[.slice va l.length vc, .slice ba bad.length bc] 25) = w5 at *
            have hb5d := hb5.drew
            have hIA := implParseAll_any (.slice fa fs.length fc) (.slice va l.length vc) (.slice ba bad.length bc) plain unk fold (setD fs plain unk fold) w5.drew (HV.out.later (HW.out _ hb5d).block) rfl rfl rfl rfl RP l (HT.out.later (HW.out _ hb5d).block) HSL1.out.2 HSL1.out.1 (by omega) bad (HBAD.out.later (HW.out _ hb5d).block) HSB1.out.1
            have HIA := Lib.hid hIA
            have HSP := Lib.hid (fun w6 (hb6 : Below w1.heap.size w1 w6) => specParseAll_any (.slice fa fs.length fc) (.slice ba bad.length bc) plain unk fold (setD fs plain unk fold) w6 (HV.out.later (HW.out _ hb6).block) rfl rfl e1.symm e2.symm HSF1.out (.slice va l.length vc) l (HT.out.later (HW.out _ hb6).block) HSL1.out.2 HSL1.out.1 (by omega) bad (HBAD.out.later (HW.out _ hb6).block) HSB1.out.1)
            have HRZ := Lib.hid (run_sizes (setD fs plain unk fold) (.hands bad) l hbl2)
            clear F14 rq RP e1 e2 HR1 hIA a0 a1 a2 a3 hb4
            generalize goesF (setD fs plain unk fold) (.hands bad) l begin0 = r at *
            have HCZ := Lib.hid (show ([] : List Nat).length ≤ 1099511627776 by decide)
            go_wp2_with fail
            go_region_held3 (fun wx => wx.cell? ⟨w.heap.size, 0, none⟩ = some (.slice fa fs.length fc) ∧ wx.cell? ⟨w.heap.size, 1, none⟩ = some (.bool plain) ∧ wx.cell? ⟨w.heap.size, 2, none⟩ = some (.bool unk) ∧ wx.cell? ⟨w.heap.size, 3, none⟩ = some (.int .i64 fold))
              (first
                | (with_reducible exact HC.out _ hb5)
                | (with_reducible exact HC.out _ hb5d)
                | (with_reducible exact HC.out _ hb6)
                | (with_reducible exact HC.out _ hb7)
                | (with_reducible exact HC.out _ hb8))
              (first
                | (go_simp; go_at_call 22; refine HIA.out.mono ?_; rintro e w6 ⟨⟨gv, av, cv, rfl, hg1, ht1, hc1⟩, hb6⟩; have hb6 := Below.after hb5d hb6; simp only [hCells])
                | (go_simp; go_at_call 23; refine (HSP.out _ hb6).mono ?_; rintro e w7 ⟨⟨gv2, av2, cv2, rfl, hg2, ht2, hc2⟩, hb7'⟩; have hb7 := Below.after hb6 hb7'; simp only [hCells])
                | (go_simp; go_at_call 19; refine (same_any r.err r.dash true r.given r.args [] (hg1.later hb7'.block) hg2 (ht1.later hb7'.block) ht2 (hc1.later hb7'.block) hc2 HRZ.out.1 HRZ.out.2 HCZ.out).mono ?_; rintro e w8 ⟨rfl, hb8'⟩; have hb8 := Below.after hb7 hb8'))
            all_goals (go_wp2_with fail)
            all_goals go_ret
            all_goals exact ⟨rfl, HW.out _ hb8⟩
end Go.Proofs.Ytcpjdgbnfjdakaa
