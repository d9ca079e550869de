/- The walk of the law FnNext. (Printed by gen_law.py.) -/
import Derived.Test.YtcpjdgbnfjdakaaGoes
import Derived.Deep.RegionHeld3
namespace Go.Proofs.Ytcpjdgbnfjdakaa
open Go.RowKit
set_option linter.unusedVariables false
set_option linter.unusedSimpArgs false

theorem fits_two {l m : List ByteArray} (h : fitsF [l, m] = true) : bytesOf l ≤ 1048576 ∧ bytesOf m ≤ 1048576 := by
  have : bytesOf l + bytesOf m ≤ 1048576 := by simpa [fitsF, bytesOfAll] using h
  omega
theorem StrRows.made2 {w : World} {b : Nat} {ty : TypeId} {fz : Nat × Nat} {v v' : Value} {l l' : List ByteArray} (cap : Nat) (h : w.heap[b]? = some (.cells #[v, v'] ty fz)) (hr : Strs w v l) (hr' : Strs w v' l') : StrRows w (.slice (some ⟨b, 0, none⟩) 2 cap) [l, l'] :=
  StrRows.made [v, v'] [l, l'] cap h rfl fun i h1 h2 => by
    match i, h1, h2 with
    | 0, _, _ => exact hr
    | 1, _, _ => exact hr'
theorem list2_any {A B : List ByteArray} (va vb : Value) (W : World) (n : Nat) (hA : Strs W va A) (hB : Strs W vb B) (hl : (A ++ B).length ≤ 1099511627776) (hn : W.heap.size = n) :
    Calls Try.prog 33 #[.slice (some ⟨n, 0, none⟩) 2 2] (W.alloc (.cells #[va, vb] 25)) fun e w' => ∃ rv, e = .returned rv ∧ Texts w' rv (A ++ B) ∧ Below W.heap.size W w' := by
  subst hn
  have hA1 : Below W.heap.size W (W.alloc (.cells #[va, vb] 25)) := (Below.refl _ _).alloc (Nat.le_refl _) _
  have e : [A, B].flatten = A ++ B := by simp
  refine (list14_any (.slice (some ⟨W.heap.size, 0, none⟩) 2 2) [A, B] _ (StrRows.made2 (ty := 25) (fz := (0, 0)) 2 (heap_at _ _ _ rfl) (hA.later hA1.block) (hB.later hA1.block)) (by simp) (by rw [e]; exact hl)).mono ?_
  rintro e' w' ⟨rv, rfl, h1, h2⟩
  rw [e] at h1
  exact ⟨rv, rfl, Texts.ofRow h1, Below.after hA1 h2⟩
theorem below_alloc1 {w1 w2 : World} (h : Below w1.heap.size w1 w2) (o : Obj) : Below w1.heap.size w1 (w2.alloc o) := h.alloc h.size o

set_option maxRecDepth 100000 in
set_option maxHeartbeats 1600000 in
theorem fnNext_law (fv v : Value) (plain unk : Bool) (fold : Int) (fs : List FlagD) (l : List ByteArray) (w : World) (hv : FlagRows w fv fs) (hfl : fs.length ≤ 9223372036854775807) (hbl : ∀ f ∈ fs, f.bad.length ≤ 9223372036854775807) (ht : Texts w v l) (hll : l.length ≤ 9223372036854775807) (i : Int) (value : ByteArray) :
    Calls Try.prog 12 #[.agg #[fv, .bool plain, .bool unk, .int .i64 fold], .int .i64 i, .string value, v] w fun e w' => e = .returned (.bool true) ∧ Below w.heap.size w w' := by
  obtain ⟨fa, fc, rfl⟩ := hv.len
  obtain ⟨va, vc, rfl, hvc⟩ := ht.len
  obtain ⟨w1, hw1⟩ : ∃ w1, w.alloc (.cells #[.slice fa fs.length fc, .bool plain, .bool unk, .int .i64 fold] 24) = w1 := ⟨_, rfl⟩
  have hb1 : Below w.heap.size w w1 := by rw [← hw1]; (repeat (first | (with_reducible exact Below.refl _ _) | (with_reducible assumption) | ((with_reducible refine Below.alloc ?_ ?_ _); rotate_left; focus ((try simp only [World.size_alloc, size_setCell, World.heap_drewN]); (try omega); done)) | ((with_reducible refine Below.setCell ?_ ?_ _); rotate_left; focus ((try simp only [World.size_alloc, size_setCell, World.heap_drewN]); (try omega); done)) | (with_reducible refine Below.drewN' ?_) | (with_reducible refine Below.drew ?_)))
  have hX : w1.heap[w.heap.size]? = some (.cells #[.slice fa fs.length fc, .bool plain, .bool unk, .int .i64 fold] 24 (0, 0)) := by rw [← hw1]; exact heap_at _ _ _ rfl
  have cells : ∀ w', Below w1.heap.size w1 w' → w'.cell? ⟨w.heap.size, 0, none⟩ = some (.slice fa fs.length fc) ∧ w'.cell? ⟨w.heap.size, 1, none⟩ = some (.bool plain) ∧ w'.cell? ⟨w.heap.size, 2, none⟩ = some (.bool unk) ∧ w'.cell? ⟨w.heap.size, 3, none⟩ = some (.int .i64 fold) := fun w' h => by
    have e := (h.block _ (lt_of_block hX)).trans hX
    simp only [World.cell?, e]
    exact ⟨rfl, rfl, rfl, rfl⟩
  have hbW : ∀ w', Below w1.heap.size w1 w' → Below w.heap.size w w' := fun w' h => Below.after hb1 h
  have HC := Lib.hid cells
  have HW := Lib.hid hbW
  have HV := Lib.hid hv
  have HT := Lib.hid ht
  obtain ⟨a0, a1, a2, a3⟩ := cells w1 (Below.refl _ _)
  have F19 := fits19_any (.slice fa fs.length fc) plain unk fold fs w1 (hv.later hb1.block) hfl hbl
  clear cells hbW hv ht hX hb1
  go_enter Try.func12, Try.ntmps12
  go_wp2_with fail
  refine F19.mono ?_
  rintro e w2 ⟨⟨b2, rfl, hsf⟩, hb2⟩
  have HSF := Lib.hid hsf
  clear hsf F19 hw1 a0 a1 a2 a3
  cases b2 with
  | false =>
    go_wp2_with fail
    go_ret
    exact ⟨rfl, HW.out _ hb2⟩
  | true =>
    have HSF1 := Lib.hid (HSF.out (by trivial))
    clear HSF
    by_cases hvz : (value.size : Int) > 2147483647
    · go_wp2_with fail
      go_ret
      exact ⟨rfl, HW.out _ hb2⟩
    have F2 := fits2_any (.slice va l.length vc) l w2 ((HT.out.later (HW.out _ hb2).block).strs) hll
    go_wp2_with fail
    refine F2.mono ?_
    rintro e w3 ⟨⟨b3, rfl, hsl⟩, rfl⟩
    have HSL := Lib.hid hsl
    clear hsl F2
    cases b3 with
    | false =>
      go_wp2_with fail
      go_ret
      exact ⟨rfl, HW.out _ hb2⟩
    | true =>
      have HSL1 := Lib.hid (HSL.out (by trivial))
      clear HSL
      obtain ⟨a0, a1, a2, a3⟩ := HC.out _ hb2
      have FR := right_any (.slice fa fs.length fc) fs plain unk fold w3 (HV.out.later (HW.out _ hb2).block) HSF1.out.1 (fun f hf => ⟨(HSF1.out.2 f hf).1, (HSF1.out.2 f hf).2.1⟩)
      go_wp2_with fail
      refine FR.mono ?_
      rintro e w4 ⟨⟨b4, rfl, hr⟩, hb4⟩
      have hb4 := Below.after hb2 hb4
      have HR := Lib.hid hr
      clear hr FR a0 a1 a2 a3 hb2
      cases b4 with
      | false =>
        go_wp2_with fail
        refine (lives14_any _).mono ?_
        rintro e w9 ⟨rfl, hb9⟩
        go_wp2_with fail
        go_ret
        exact ⟨rfl, HW.out _ (Below.after hb4 hb9)⟩
      | true =>
        have HR1 := Lib.hid (HR.out (by trivial))
        clear HR
        have F38 := flag14_any fa fs.length fc (.bool plain) (.bool unk) (.int .i64 fold) i w4 HSF1.out.1
        obtain ⟨a0, a1, a2, a3⟩ := HC.out _ hb4
        go_wp2_with fail
        refine F38.mono ?_
        rintro e w5 ⟨rfl, hb5⟩
        have hb5 := Below.after hb4 hb5
        clear F38 a0 a1 a2 a3 hb4
        cases hfl : (decide (0 ≤ i) && decide (i < (fs.length : Int))) with
        | false =>
          go_wp2_with fail
          refine (lives14_any _).mono ?_
          rintro e w9 ⟨rfl, hb9⟩
          go_wp2_with fail
          go_ret
          exact ⟨rfl, HW.out _ (Below.after hb5 hb9)⟩
        | true =>
          simp only [Bool.and_eq_true, decide_eq_true_eq] at hfl
          obtain ⟨k, rfl⟩ : ∃ k : Nat, i = (k : Int) := ⟨i.toNat, by omega⟩
          have hk : k < fs.length := by omega
          obtain ⟨nb, nof, ba, bc, rfl, hnb, q0, q1, q2, -⟩ := HV.out.row hk
          have hcell : ∀ w', Below w.heap.size w w' → ∀ o, w'.cell? ⟨nb, o, none⟩ = w.cell? ⟨nb, o, none⟩ := fun w' h o => by simp only [World.cell?, h.block _ hnb]
          have q2 := (hcell _ (HW.out _ hb5) _).trans q2
          have HN : Hid (∀ w', Below w1.heap.size w1 w' → (w'.cell? ⟨w.heap.size, 0, none⟩ = some (.slice (some ⟨nb, nof, none⟩) fs.length fc) ∧ w'.cell? ⟨w.heap.size, 1, none⟩ = some (.bool plain) ∧ w'.cell? ⟨w.heap.size, 2, none⟩ = some (.bool unk) ∧ w'.cell? ⟨w.heap.size, 3, none⟩ = some (.int .i64 fold) ∧ w'.cell? ⟨nb, nof + k * 4, none⟩ = some (.string fs[k].name))) := Lib.hid (fun w' h => by
            obtain ⟨b0, b1, b2, b3⟩ := HC.out w' h
            exact ⟨b0, b1, b2, b3, (hcell _ (HW.out _ h) _).trans q0⟩)
          clear hcell q0 q1
          obtain ⟨a0, a1, a2, a3⟩ := HC.out _ hb5
          cases hno : fs[k].noopt.toList.isEmpty with
          | false =>
            go_wp2_with fail
            refine (lives14_any _).mono ?_
            rintro e w9 ⟨rfl, hb9⟩
            go_wp2_with fail
            go_ret
            exact ⟨rfl, HW.out _ (Below.after hb5 hb9)⟩
          | true =>
            have hno0 : fs[k].noopt.size = 0 := by
              by_cases h : 0 < fs[k].noopt.size
              · rw [isEmpty_no h] at hno; exact absurd hno (by decide)
              · omega
            have hb6 := below_alloc1 (below_alloc1 hb5 (.cells #[.string value] 9)) (.cells #[.slice va l.length vc, .slice (some ⟨w5.heap.size, 0, none⟩) 1 1] 25)
            have F14 := fits14_any (.slice (some ⟨w5.heap.size + 1, 0, none⟩) 2 2) [l, [value]] ((w5.alloc (.cells #[.string value] 9)).alloc (.cells #[.slice va l.length vc, .slice (some ⟨w5.heap.size, 0, none⟩) 1 1] 25)) (StrRows.made2 (ty := 25) (fz := (0, 0)) 2 (heap_at _ _ _ (by simp)) (HT.out.later (HW.out _ hb6).block).strs (Strs.made [value] 1 (heap_past' (by simp) (heap_at _ _ _ rfl)))) (by simp) (by intro l' h'; simp only [List.mem_cons, List.not_mem_nil, or_false] at h'; rcases h' with rfl | rfl; exact HSL1.out; exact ⟨by simp, by intro t h; simp only [List.mem_singleton] at h; subst h; omega⟩)
            go_wp2_with fail
            refine F14.mono ?_
            rintro e w7 ⟨rfl, rfl⟩
            cases hf : fitsF [l, [value]] with
            | false =>
              go_wp2_with fail
              refine (lives14_any _).mono ?_
              rintro e w9 ⟨rfl, hb9⟩
              go_wp2_with fail
              go_ret
              exact ⟨rfl, HW.out _ (Below.after hb6 hb9)⟩
            | true =>
              obtain ⟨f1, f2⟩ := fits_two hf
              have hvb : value.size ≤ 1048576 := by rw [bytesOf_cons] at f2; omega
              have hll2 : l.length ≤ 1048576 := Nat.le_trans (len_bytesOf l) f1
              obtain ⟨rq, r0, r3⟩ := HR1.out
              have RP := right_of (plain := plain) (unk := unk) rq r0 r3 HSF1.out
              have hn : fs[k].name.size ≤ 2147483647 := (HSF1.out.2 fs[k] (List.getElem_mem hk)).1
              have G1 : goesF (setD fs plain unk fold) .sets (((⟨#[45, 45]⟩ : ByteArray) ++ fs[k].name) :: value :: l) begin0 = goesF (setD fs plain unk fold) .sets l (giveF (setD fs plain unk fold) .sets k value begin0) := goes_next (s := setD fs plain unk fold) (w := .sets) RP rq hk hno0 value l begin0 rfl
              have G2 : goesF (setD fs plain unk fold) .sets (longT fs[k].name value :: l) begin0 = goesF (setD fs plain unk fold) .sets l (giveF (setD fs plain unk fold) .sets k value begin0) := goes_eq (s := setD fs plain unk fold) (w := .sets) RP rq hk value l begin0 rfl
              have z1 : ((⟨#[45, 45]⟩ : ByteArray) ++ fs[k].name).size ≤ 4294967295 := by rw [ByteArray.size_append, dd_size]; omega
              have z2 : (longT fs[k].name value).size ≤ 4294967295 := by rw [longT_size]; omega
              have hs1 : ∀ t ∈ ((⟨#[45, 45]⟩ : ByteArray) ++ fs[k].name) :: value :: l, t.size ≤ 4294967295 := by
                intro t ht
                simp only [List.mem_cons] at ht
                rcases ht with rfl | rfl | ht
                · exact z1
                · omega
                · exact wide HSL1.out.2 t ht
              have hs2 : ∀ t ∈ longT fs[k].name value :: l, t.size ≤ 4294967295 := by
                intro t ht
                simp only [List.mem_cons] at ht
                rcases ht with rfl | ht
                · exact z2
                · exact wide HSL1.out.2 t ht
              have y1 : bytesOf (((⟨#[45, 45]⟩ : ByteArray) ++ fs[k].name) :: value :: l) ≤ 1099511627776 := by rw [bytesOf_cons, bytesOf_cons]; omega
              have y2 : bytesOf (longT fs[k].name value :: l) ≤ 1099511627776 := by rw [bytesOf_cons]; omega
              have RZ : ∀ r : RunD, goesF (setD fs plain unk fold) .sets (longT fs[k].name value :: l) begin0 = r → r.given.length ≤ 1099511627776 ∧ r.args.length ≤ 1099511627776 := fun r e => by
                rw [← e]
                have q1 : (goesF (setD fs plain unk fold) .sets (longT fs[k].name value :: l) begin0).given.length ≤ begin0.given.length + bytesOf (longT fs[k].name value :: l) := goesN_given _ _ _ _ _
                have q2 : (goesF (setD fs plain unk fold) .sets (longT fs[k].name value :: l) begin0).args.length ≤ begin0.args.length + (longT fs[k].name value :: l).length := goes_args _ _ _ _ _
                simp only [begin0, List.length_nil, List.length_cons] at q1 q2 ⊢
                exact ⟨by omega, by omega⟩
              have RZ := RZ _ G2
              have P1 : ∀ W v, Below w1.heap.size w1 W → Texts W v (((⟨#[45, 45]⟩ : ByteArray) ++ fs[k].name) :: value :: l) → _ := fun W v hb ht => implParse_any (.slice (some ⟨nb, nof, none⟩) fs.length fc) v plain unk fold (setD fs plain unk fold) W (HV.out.later (HW.out _ hb).block) rfl rfl rfl rfl RP _ ht hs1 (by simp only [List.length_cons]; omega) y1
              have P2 : ∀ W v, Below w1.heap.size w1 W → Texts W v (longT fs[k].name value :: l) → _ := fun W v hb ht => implParse_any (.slice (some ⟨nb, nof, none⟩) fs.length fc) v plain unk fold (setD fs plain unk fold) W (HV.out.later (HW.out _ hb).block) rfl rfl rfl rfl RP _ ht hs2 (by simp only [List.length_cons]; omega) y2
              rw [G1] at P1
              rw [G2] at P2
              have HP1 := Lib.hid P1
              have HP2 := Lib.hid P2
              have HLG := Lib.hid (fun W (hb : Below w1.heap.size w1 W) => long14_any (.slice (some ⟨nb, nof, none⟩) fs.length fc) fs (.bool plain) (.bool unk) (.int .i64 fold) k value W (HV.out.later (HW.out _ hb).block) hk HSF1.out.1 hn (by omega))
              have HL1 : Hid (∀ W n, Below w1.heap.size w1 W → W.heap.size = n → Calls Try.prog 33 #[.slice (some ⟨n + 1, 0, none⟩) 2 2] ((W.alloc (.cells #[.string ((⟨#[45, 45]⟩ : ByteArray) ++ fs[k].name), .string value] 9)).alloc (.cells #[.slice (some ⟨n, 0, none⟩) 2 2, .slice va l.length vc] 25)) fun e w' => ∃ rv, e = .returned rv ∧ Texts w' rv (((⟨#[45, 45]⟩ : ByteArray) ++ fs[k].name) :: value :: l) ∧ Below W.heap.size W w') := Lib.hid (fun W n hb hn => by
                subst hn
                have hA : Below W.heap.size W (W.alloc (.cells #[.string ((⟨#[45, 45]⟩ : ByteArray) ++ fs[k].name), .string value] 9)) := (Below.refl _ _).alloc (Nat.le_refl _) _
                refine (list2_any (A := [(⟨#[45, 45]⟩ : ByteArray) ++ fs[k].name, value]) (B := l) _ _ _ _ (Strs.made [(⟨#[45, 45]⟩ : ByteArray) ++ fs[k].name, value] 2 (heap_at _ _ _ rfl)) ((HT.out.later (HW.out _ hb).block).later hA.block).strs (by simp only [List.length_append, List.length_cons, List.length_nil]; omega) (by simp)).mono ?_
                rintro e w' ⟨rv, rfl, h1, h2⟩
                exact ⟨rv, rfl, h1, Below.after hA h2⟩)
              have HL2 : Hid (∀ W n, Below w1.heap.size w1 W → W.heap.size = n → Calls Try.prog 33 #[.slice (some ⟨n + 1, 0, none⟩) 2 2] ((W.alloc (.cells #[.string (longT fs[k].name value)] 9)).alloc (.cells #[.slice (some ⟨n, 0, none⟩) 1 1, .slice va l.length vc] 25)) fun e w' => ∃ rv, e = .returned rv ∧ Texts w' rv (longT fs[k].name value :: l) ∧ Below W.heap.size W w') := Lib.hid (fun W n hb hn => by
                subst hn
                have hA : Below W.heap.size W (W.alloc (.cells #[.string (longT fs[k].name value)] 9)) := (Below.refl _ _).alloc (Nat.le_refl _) _
                refine (list2_any (A := [longT fs[k].name value]) (B := l) _ _ _ _ (Strs.made [longT fs[k].name value] 1 (heap_at _ _ _ rfl)) ((HT.out.later (HW.out _ hb).block).later hA.block).strs (by simp only [List.length_append, List.length_cons, List.length_nil]; omega) (by simp)).mono ?_
                rintro e w' ⟨rv, rfl, h1, h2⟩
                exact ⟨rv, rfl, h1, Below.after hA h2⟩)
              have n1 : ¬ 9223372036854775807 < 2 + fs[k].name.size := by omega
              have HRZ := Lib.hid RZ
              have HCZ : Hid (∀ r : RunD, (chgU r.given (setD fs plain unk fold).flags.length).length ≤ 1099511627776) := Lib.hid (fun r => by have q := chgU_len r.given (setD fs plain unk fold).flags.length; have := HSF1.out.1; exact Nat.le_trans q (Nat.le_trans this (by omega)))
              have hb6d := hb6.drew
              clear F14 rq RP HR1 a0 a1 a2 a3 G1 G2 z1 z2 hs1 hs2 y1 y2 RZ P1 P2 q2 hno hno0 hn hb5 f1 f2
              generalize goesF (setD fs plain unk fold) .sets l (giveF (setD fs plain unk fold) .sets k value begin0) = r at *
              generalize fs[k].name = name at *
              generalize (w5.alloc (.cells #[.string value] 9)).alloc (.cells #[.slice va l.length vc, .slice (some ⟨w5.heap.size, 0, none⟩) 1 1] 25) = wz at *
              go_wp2_with fail
              go_region_held3 (fun wx => wx.cell? ⟨w.heap.size, 0, none⟩ = some (.slice (some ⟨nb, nof, none⟩) fs.length fc) ∧ wx.cell? ⟨w.heap.size, 1, none⟩ = some (.bool plain) ∧ wx.cell? ⟨w.heap.size, 2, none⟩ = some (.bool unk) ∧ wx.cell? ⟨w.heap.size, 3, none⟩ = some (.int .i64 fold) ∧ wx.cell? ⟨nb, nof + k * 4, none⟩ = some (.string name))
                (first
                  | (with_reducible refine HN.out _ ?_; repeat (first | (with_reducible assumption) | (with_reducible refine below_alloc1 ?_ _) | (with_reducible refine Below.drew ?_))))
                (first
                  | (go_simp; go_at_call 33; refine (HL1.out _ _ hb6d (by simp)).mono ?_; rintro e wa ⟨rv, rfl, hta, hba'⟩; have hba := Below.after hb6d hba'; obtain ⟨ra, rc, rfl, -⟩ := hta.len)
                  | (go_simp; go_at_call 20; refine (HP1.out _ _ hba hta).mono ?_; rintro e w6 ⟨⟨gv, av, cv, rfl, hg1, ht1, hc1⟩, hb6'⟩; have hb6 := Below.after hba hb6'; simp only [hCells])
                  | (go_simp; go_at_call 39; refine (HLG.out _ hb6).mono ?_; rintro e w7 ⟨rfl, hb7'⟩; have hb7 := Below.after hb6 hb7')
                  | (go_simp; go_at_call 33; refine (HL2.out _ _ hb7 (by simp)).mono ?_; rintro e w8 ⟨rv2, rfl, htb, hb8'⟩; have hb8 := Below.after hb7 hb8'; obtain ⟨ra2, rc2, rfl, -⟩ := htb.len)
                  | (go_simp; go_at_call 20; refine (HP2.out _ _ hb8 htb).mono ?_; rintro e w9 ⟨⟨gv2, av2, cv2, rfl, hg2, ht2, hc2⟩, hb9'⟩; have hb9 := Below.after hb8 hb9'; have h69 := Below.after (Below.after hb7' hb8') hb9'; simp only [hCells])
                  | (go_simp; go_at_call 19; refine (same_any r.err r.dash true r.given r.args _ (hg1.later h69.block) hg2 (ht1.later h69.block) ht2 (hc1.later h69.block) hc2 HRZ.out.1 HRZ.out.2 (HCZ.out r)).mono ?_; rintro e w10 ⟨rfl, hb10'⟩; have hb10 := Below.after hb9 hb10')
                  | (go_simp; go_at_call 32; refine (lives14_any _).mono ?_; rintro e w11 ⟨rfl, hb11'⟩; have hb11 := Below.after hb10 hb11'))
              all_goals (go_wp2_with fail)
              all_goals go_ret
              all_goals exact ⟨rfl, HW.out _ hb11⟩
end Go.Proofs.Ytcpjdgbnfjdakaa
