/- The walk of the law FnGrows. (Printed by gen6.py.) -/
import Derived.Test.YtcpjdgbnfjdakaaOg
import Derived.Test.YtcpjdgbnfjdakaaGrows
import Derived.Deep.CutRange
namespace Go.Proofs.Ytcpjdgbnfjdakaa
open Go.RowKit
set_option linter.unusedVariables false
set_option linter.unusedSimpArgs false

def growsD : List Nat := [7, 8, 37, 38, 39, 40, 41, 42, 43, 44]
def growsVals (S V N K : Value) (r1 r2 : RunD) (c1 c2 : List Nat) : List OVal := [⟨0, 37, fun v _ => v = S⟩, ⟨1, 38, fun v _ => v = V⟩, ⟨2, 39, fun v _ => v = N⟩, ⟨3, 40, fun v _ => v = K⟩, ⟨4, 41, HVal r1 c1⟩, ⟨5, 42, fun v _ => v = S⟩, ⟨6, 43, fun v _ => v = V⟩, ⟨7, 44, HVal r2 c2⟩]
def growsVars (r1 r2 : RunD) (c1 c2 : List Nat) : List OVar := [⟨7, 8, 10, r1, c1⟩, ⟨8, 9, 11, r2, c2⟩]
theorem Givens.take {w : World} {a : Option Addr} {n cap : Nat} {g : List (Nat × ByteArray)} (h : Givens w (.slice a n cap) g) {k : Nat} (hk : k ≤ g.length) : Givens w (.slice a k cap) (g.take k) := by
  obtain ⟨a', cap', e, hc, h⟩ := h
  cases e
  refine ⟨a, cap, by rw [List.length_take, Nat.min_eq_left hk], by rw [List.length_take]; omega, ?_⟩
  rcases h with rfl | ⟨b, off, cs, ty, fz, e, hb, hc⟩
  · exact .inl (by simp)
  · refine .inr ⟨b, off, cs, ty, fz, e, hb, fun i hi => ?_⟩
    rw [List.length_take] at hi
    rw [List.getElem_take]
    exact hc i (by omega)
theorem kind_req {x : ErrD} : x.kind = 3 ↔ isReq x = true := by cases x <;> simp [ErrD.kind, isReq]
theorem grows_wf (S V N K : Value) (r1 r2 : RunD) (c1 c2 : List Nat) : OgWf (growsVals S V N K r1 r2 c1 c2) (growsVars r1 r2 c1 c2) := by
  refine ⟨fun x hx => ?_, fun x hx y hy e => ?_, fun x hx y hy e => ?_, fun x hx y hy => ?_, fun x hx y hy => ?_⟩
  · simp only [growsVals, List.mem_cons, List.not_mem_nil, or_false] at hx
    rcases hx with rfl | rfl | rfl | rfl | rfl | rfl | rfl | rfl
    all_goals first | exact stable_eq _ | exact stable_heard _ _
  · simp only [growsVals, List.mem_cons, List.not_mem_nil, or_false] at hx hy
    rcases hx with rfl | rfl | rfl | rfl | rfl | rfl | rfl | rfl <;> rcases hy with rfl | rfl | rfl | rfl | rfl | rfl | rfl | rfl <;> first | rfl | (simp at e; done)
  · simp only [growsVals, List.mem_cons, List.not_mem_nil, or_false] at hx hy
    rcases hx with rfl | rfl | rfl | rfl | rfl | rfl | rfl | rfl <;> rcases hy with rfl | rfl | rfl | rfl | rfl | rfl | rfl | rfl <;> first | rfl | (simp at e; done)
  · simp only [growsVals, growsVars, List.mem_cons, List.not_mem_nil, or_false] at hx hy
    rcases hx with rfl | rfl | rfl | rfl | rfl | rfl | rfl | rfl <;> rcases hy with rfl | rfl <;> simp
  · simp only [growsVars, List.mem_cons, List.not_mem_nil, or_false] at hx hy
    rcases hx with rfl | rfl <;> rcases hy with rfl | rfl <;> simp
theorem Texts.take {w : World} {a : Option Addr} {n cap : Nat} {l : List ByteArray} (h : Texts w (.slice a n cap) l) {k : Nat} (hk : k ≤ l.length) : Texts w (.slice a k cap) (l.take k) := by
  obtain ⟨⟨a0, c0, e, h⟩, a1, n1, c1, e1, hc1⟩ := h
  cases e
  cases e1
  refine ⟨⟨a, cap, by rw [List.length_take, Nat.min_eq_left hk], ?_⟩, a, k, cap, rfl, by omega⟩
  rcases h with rfl | ⟨b, off, cs, ty, fz, e, hb, hc⟩
  · exact .inl (by simp)
  · refine .inr ⟨b, off, cs, ty, fz, e, hb, fun i hi => ?_⟩
    rw [List.length_take] at hi
    rw [List.getElem_take]
    exact hc i (by omega)

set_option maxRecDepth 100000 in
set_option maxHeartbeats 3200000 in
theorem fnGrows_law (fv vA : Value) (plain unk : Bool) (fold : Int) (fs : List FlagD) (A : List ByteArray) (w : World) (hv : FlagRows w fv fs) (hfl : fs.length ≤ 9223372036854775807) (hbl : ∀ f ∈ fs, f.bad.length ≤ 9223372036854775807) (htA : Texts w vA A) (hlA : A.length ≤ 9223372036854775807) (i : Int) :
    Calls Try.prog 9 #[.agg #[fv, .bool plain, .bool unk, .int .i64 fold], vA, .int .i64 i] w fun e w' => e = .returned (.bool true) ∧ Below w.heap.size w w' := by
  obtain ⟨fa, fc, rfl⟩ := hv.len
  obtain ⟨aa, ac, rfl, hac⟩ := htA.len
  obtain ⟨w1, hw1⟩ : ∃ w1, w.alloc (.cells #[.slice fa fs.length fc, .bool plain, .bool unk, .int .i64 fold] 24) = w1 := ⟨_, rfl⟩
  have hb1 : Below w.heap.size w w1 := by rw [← hw1]; (repeat (first | (with_reducible exact Below.refl _ _) | (with_reducible assumption) | ((with_reducible refine Below.alloc ?_ ?_ _); rotate_left; focus ((try simp only [World.size_alloc, size_setCell, World.heap_drewN]); (try omega); done)) | ((with_reducible refine Below.setCell ?_ ?_ _); rotate_left; focus ((try simp only [World.size_alloc, size_setCell, World.heap_drewN]); (try omega); done)) | (with_reducible refine Below.drewN' ?_) | (with_reducible refine Below.drew ?_)))
  have hX : w1.heap[w.heap.size]? = some (.cells #[.slice fa fs.length fc, .bool plain, .bool unk, .int .i64 fold] 24 (0, 0)) := by rw [← hw1]; exact heap_at _ _ _ rfl
  have cells : ∀ w', Below w1.heap.size w1 w' → w'.cell? ⟨w.heap.size, 0, none⟩ = some (.slice fa fs.length fc) ∧ w'.cell? ⟨w.heap.size, 1, none⟩ = some (.bool plain) ∧ w'.cell? ⟨w.heap.size, 2, none⟩ = some (.bool unk) ∧ w'.cell? ⟨w.heap.size, 3, none⟩ = some (.int .i64 fold) := fun w' h => by
    have e := (h.block _ (lt_of_block hX)).trans hX
    simp only [World.cell?, e]
    exact ⟨rfl, rfl, rfl, rfl⟩
  have hbW : ∀ w', Below w1.heap.size w1 w' → Below w.heap.size w w' := fun w' h => Below.after hb1 h
  have HC := Lib.hid cells
  have HW := Lib.hid hbW
  have HV := Lib.hid (fun W (h : Below w1.heap.size w1 W) => hv.later (Below.after hb1 h).block)
  have HTA := Lib.hid (fun W (h : Below w1.heap.size w1 W) => htA.later (Below.after hb1 h).block)
  obtain ⟨a0, a1, a2, a3⟩ := cells w1 (Below.refl _ _)
  have F19 := fits19_any (.slice fa fs.length fc) plain unk fold fs w1 (hv.later hb1.block) hfl hbl
  clear cells hbW hv htA hX hb1
  go_enter Try.func9, Try.ntmps9
  go_wp2_with fail
  refine F19.mono ?_
  rintro e w2 ⟨⟨b2, rfl, hsf⟩, hb2⟩
  have HSF := Lib.hid hsf
  clear hsf F19 hw1 a0 a1 a2 a3
  obtain rfl | rfl : b2 = false ∨ b2 = true := by cases b2 <;> simp
  · go_wp2_with fail
    go_ret
    exact ⟨rfl, HW.out _ hb2⟩
  have HSF1 := Lib.hid (HSF.out (by trivial))
  clear HSF
  have F2 := fits2_any (.slice aa A.length ac) A w2 (HTA.out _ hb2).strs hlA
  go_wp2_with fail
  refine F2.mono ?_
  rintro e w2 ⟨⟨b3, rfl, hsl⟩, rfl⟩
  have HSL := Lib.hid hsl
  clear hsl F2
  obtain rfl | rfl : b3 = false ∨ b3 = true := by cases b3 <;> simp
  · go_wp2_with fail
    go_ret
    exact ⟨rfl, HW.out _ hb2⟩
  have HSLA := Lib.hid (HSL.out (by trivial))
  clear HSL
  obtain ⟨a0, a1, a2, a3⟩ := HC.out _ hb2
  have FR := right_any (.slice fa fs.length fc) fs plain unk fold w2 (HV.out _ hb2) HSF1.out.1 (fun f hf => ⟨(HSF1.out.2 f hf).1, (HSF1.out.2 f hf).2.1⟩)
  go_wp2_with fail
  refine FR.mono ?_
  rintro e w4 ⟨⟨b4, rfl, hr⟩, hb4⟩
  have hb4 := Below.after hb2 hb4
  have HR := Lib.hid hr
  clear hr FR a0 a1 a2 a3 hb2
  obtain rfl | rfl : b4 = false ∨ b4 = true := by cases b4 <;> simp
  · go_wp2_with fail
    refine (lives14_any _).mono ?_
    rintro e w9 ⟨rfl, hb9⟩
    go_wp2_with fail
    go_ret
    exact ⟨rfl, HW.out _ (Below.after hb4 hb9)⟩
  have HR1 := Lib.hid (HR.out (by trivial))
  clear HR
  have hb5 := Below.after hb4 ((Below.refl _ w4).alloc (Nat.le_refl _) (.cells #[.slice aa A.length ac] 25))
  have F14 := fits14_any (.slice (some ⟨w4.heap.size, 0, none⟩) 1 1) [A] (w4.alloc (.cells #[.slice aa A.length ac] 25)) (StrRows.made1 (ty := 25) (fz := (0, 0)) 1 (heap_at _ _ _ rfl) (HTA.out _ hb5).strs) (by simp) (by intro l' h'; simp only [List.mem_singleton] at h'; subst h'; exact HSLA.out)
  go_wp2_with fail
  refine F14.mono ?_
  rintro e w5 ⟨rfl, rfl⟩
  obtain hf | hf : fitsF [A] = false ∨ fitsF [A] = true := by cases fitsF [A] <;> simp
  · rw [hf]
    go_wp2_with fail
    refine (lives14_any _).mono ?_
    rintro e w9 ⟨rfl, hb9⟩
    go_wp2_with fail
    go_ret
    exact ⟨rfl, HW.out _ (Below.after hb5 hb9)⟩
  rw [hf]
  have fA := fits_one hf
  have hlA2 : A.length ≤ 1048576 := Nat.le_trans (len_bytesOf A) fA
  obtain ⟨a0, a1, a2, a3⟩ := HC.out _ hb5
  obtain ⟨rq, r0, r3⟩ := HR1.out
  have RP := right_of (plain := plain) (unk := unk) rq r0 r3 HSF1.out
  generalize w4.alloc (.cells #[.slice aa A.length ac] 25) = w5 at *
  have HRP := Lib.hid RP
  clear F14 rq RP HR1 hb4 hf
  by_cases hi0 : i < 0
  · go_wp2_with fail
    refine (lives14_any _).mono ?_
    rintro e w9 ⟨rfl, hb9⟩
    go_wp2_with fail
    go_ret
    exact ⟨rfl, HW.out _ (Below.after hb5 hb9)⟩
  by_cases hi1 : i > (A.length : Int)
  · go_wp2_with fail
    refine (lives14_any _).mono ?_
    rintro e w9 ⟨rfl, hb9⟩
    go_wp2_with fail
    go_ret
    exact ⟨rfl, HW.out _ (Below.after hb5 hb9)⟩
  obtain ⟨k, rfl⟩ : ∃ k : Nat, i = (k : Int) := ⟨i.toNat, by omega⟩
  have hk : k ≤ A.length := by omega
  have hbt : bytesOf (A.take k) ≤ bytesOf A := bytesOf_take_le A k
  have HP1 : Hid (∀ W v, Below w1.heap.size w1 W → Texts W v (A.take k) → Calls Try.prog 20 #[.agg #[.slice fa fs.length fc, .bool plain, .bool unk, .int .i64 fold], v] W fun e w' => HeardOwn e w' W.heap.size (goesF (setD fs plain unk fold) .sets (A.take k) begin0) (chgU (goesF (setD fs plain unk fold) .sets (A.take k) begin0).given fs.length) ∧ Below W.heap.size W w') :=
    Lib.hid (fun W v hb ht => implParse_own (.slice fa fs.length fc) v plain unk fold (setD fs plain unk fold) W (HV.out _ hb) rfl rfl rfl rfl HRP.out _ ht (fun t h => wide HSLA.out.2 t (List.mem_of_mem_take h)) (by rw [List.length_take]; omega) (by omega))
  have HP2 : Hid (∀ W v, Below w1.heap.size w1 W → Texts W v (A) → Calls Try.prog 20 #[.agg #[.slice fa fs.length fc, .bool plain, .bool unk, .int .i64 fold], v] W fun e w' => HeardOwn e w' W.heap.size (goesF (setD fs plain unk fold) .sets (A) begin0) (chgU (goesF (setD fs plain unk fold) .sets (A) begin0).given fs.length) ∧ Below W.heap.size W w') :=
    Lib.hid (fun W v hb ht => implParse_own (.slice fa fs.length fc) v plain unk fold (setD fs plain unk fold) W (HV.out _ hb) rfl rfl rfl rfl HRP.out _ ht (wide HSLA.out.2) (by omega) (by omega))
  have hgr : Grown (goesF (setD fs plain unk fold) .sets (A.take k) begin0) (goesF (setD fs plain unk fold) .sets A begin0) := by
    have q := goes_grown (setD fs plain unk fold) .sets (A.drop k) (A.take k).length (A.take k) begin0 (Nat.le_refl _)
    rwa [List.take_append_drop] at q
  have z1 := run_sizes (setD fs plain unk fold) .sets (A.take k) (by omega)
  have z2 := run_sizes (setD fs plain unk fold) .sets A fA
  have P1 := HP1.out
  have P2 := HP2.out
  generalize goesF (setD fs plain unk fold) .sets A begin0 = r2 at *
  generalize goesF (setD fs plain unk fold) .sets (A.take k) begin0 = r1 at *
  obtain ⟨c1, hc1⟩ : ∃ c, chgU r1.given fs.length = c := ⟨_, rfl⟩
  obtain ⟨c2, hc2⟩ : ∃ c, chgU r2.given fs.length = c := ⟨_, rfl⟩
  have HCZ : Hid (c1.length ≤ 1099511627776 ∧ c2.length ≤ 1099511627776 ∧ (r1 = r2 → c1 = c2)) := Lib.hid (by
    have q1 := chgU_len r1.given fs.length
    have q2 := chgU_len r2.given fs.length
    have := HSF1.out.1
    rw [hc1] at q1
    rw [hc2] at q2
    exact ⟨by omega, by omega, fun e => by rw [← hc1, ← hc2, e]⟩)
  rw [hc1] at P1
  rw [hc2] at P2
  have HQ1 := Lib.hid P1
  have HQ2 := Lib.hid P2
  have HZ1 := Lib.hid z1
  have HZ2 := Lib.hid z2
  have HGR := Lib.hid hgr
  have HTK := Lib.hid (fun W (h : Below w1.heap.size w1 W) => (HTA.out W h).take hk)
  have k0 : (0 : Int) ≤ (k : Int) := by omega
  have kc : (k : Int) ≤ (ac : Int) := by omega
  have hwbd := (Below.refl w5.heap.size w5).drew
  clear HP1 HP2 P1 P2 z1 z2 hgr hc1 hc2 hbt
  go_upto_region 5 with fail
  clear a0 a1 a2 a3
  go_cut [7, 8] from 37 to 44 (fun v7 v8 wx => HeardVar w5 w5.heap.size wx v7 r1 c1 ∧ HeardVar w5 w5.heap.size wx v8 r2 c2)
  case first =>
    rename_i J K' hR hK
    have WF := grows_wf (.agg #[.slice fa fs.length fc, .bool plain, .bool unk, .int .i64 fold]) (.slice aa A.length ac) (.int .i64 k) (.slice aa k ac) r1 r2 c1 c2
    refine wp_region_og growsD (OgI w5 w5.heap.size (growsVals (.agg #[.slice fa fs.length fc, .bool plain, .bool unk, .int .i64 fold]) (.slice aa A.length ac) (.int .i64 k) (.slice aa k ac) r1 r2 c1 c2) (growsVars r1 r2 c1 c2)) (by kernel_rfl) (by kernel_rfl) (OgI.start hwbd hwbd.size) ?_ ?_
    · intro i o ho L f wz hl hp hI
      have hi : i < 12 := (Array.getElem?_eq_some_iff.1 ho).1
      have hbw := Below.after hb5 hI.bel
      obtain ⟨s0, s1, s2, s3⟩ := HC.out _ hbw
      obtain rfl | rfl | rfl | rfl | rfl | rfl | rfl | rfl | rfl | rfl | rfl | rfl : i = 0 ∨ i = 1 ∨ i = 2 ∨ i = 3 ∨ i = 4 ∨ i = 5 ∨ i = 6 ∨ i = 7 ∨ i = 8 ∨ i = 9 ∨ i = 10 ∨ i = 11 := by omega
      all_goals obtain rfl := Option.some.inj ho
      · exact og_op rfl rfl (og_value (run_loadSet ((over_eval_out _ _ _ (by decide)).trans rfl) s0 s1 s2 s3) ⟨_, over_put _ _ _ (by decide) _, hI.value WF _ (List.mem_of_getElem? (i := 0) rfl) _ (Below.refl _ _) rfl⟩)
      · exact og_op rfl rfl (og_value (run_move ((over_eval_out _ _ _ (by decide)).trans rfl)) ⟨_, over_put _ _ _ (by decide) _, hI.value WF _ (List.mem_of_getElem? (i := 1) rfl) _ (Below.refl _ _) rfl⟩)
      · exact og_op rfl rfl (og_value (run_move ((over_eval_out _ _ _ (by decide)).trans rfl)) ⟨_, over_put _ _ _ (by decide) _, hI.value WF _ (List.mem_of_getElem? (i := 2) rfl) _ (Below.refl _ _) rfl⟩)
      · have e1 := hI.v _ (List.mem_of_getElem? (i := 1) rfl) (hp ⟨1, .data⟩ (by simp) rfl)
        have e2 := hI.v _ (List.mem_of_getElem? (i := 2) rfl) (hp ⟨2, .data⟩ (by simp) rfl)
        exact og_op rfl rfl (og_value (run_sliceHi ((over_eval _ _ _ (by decide) (by show 38 < 80; omega)).trans e1) ((over_eval _ _ _ (by decide) (by show 39 < 80; omega)).trans e2) k0 kc) ⟨_, over_put _ _ _ (by decide) _, hI.value WF _ (List.mem_of_getElem? (i := 3) rfl) _ (Below.refl _ _) rfl⟩)
      · have e1 := hI.v _ (List.mem_of_getElem? (i := 0) rfl) (hp ⟨0, .data⟩ (by simp) rfl)
        have e2 := hI.v _ (List.mem_of_getElem? (i := 3) rfl) (hp ⟨3, .data⟩ (by simp) rfl)
        refine og_op rfl rfl (og_call (run_call2 ((over_eval _ _ _ (by decide) (by show 37 < 80; omega)).trans e1) ((over_eval _ _ _ (by decide) (by show 40 < 80; omega)).trans e2) rfl (fun args => by simp [go_sem])) ?_)
        refine (HQ1.out wz _ hbw (HTK.out _ hbw)).mono ?_
        rintro e w' ⟨⟨ga, gc, qa, qc, ca, cc, rfl, hrows⟩, hb'⟩
        exact ⟨_, rfl, _, over_put _ _ _ (by decide) _, hI.value WF _ (List.mem_of_getElem? (i := 4) rfl) _ hb' ⟨ga, gc, qa, qc, ca, cc, rfl, hrows.lower (Nat.zero_le _)⟩⟩
      · exact og_op rfl rfl (og_value (run_loadSet ((over_eval_out _ _ _ (by decide)).trans rfl) s0 s1 s2 s3) ⟨_, over_put _ _ _ (by decide) _, hI.value WF _ (List.mem_of_getElem? (i := 5) rfl) _ (Below.refl _ _) rfl⟩)
      · exact og_op rfl rfl (og_value (run_move ((over_eval_out _ _ _ (by decide)).trans rfl)) ⟨_, over_put _ _ _ (by decide) _, hI.value WF _ (List.mem_of_getElem? (i := 6) rfl) _ (Below.refl _ _) rfl⟩)
      · have e1 := hI.v _ (List.mem_of_getElem? (i := 5) rfl) (hp ⟨5, .data⟩ (by simp) rfl)
        have e2 := hI.v _ (List.mem_of_getElem? (i := 6) rfl) (hp ⟨6, .data⟩ (by simp) rfl)
        refine og_op rfl rfl (og_call (run_call2 ((over_eval _ _ _ (by decide) (by show 42 < 80; omega)).trans e1) ((over_eval _ _ _ (by decide) (by show 43 < 80; omega)).trans e2) rfl (fun args => by simp [go_sem])) ?_)
        refine (HQ2.out wz _ hbw (HTA.out _ hbw)).mono ?_
        rintro e w' ⟨⟨ga, gc, qa, qc, ca, cc, rfl, hrows⟩, hb'⟩
        exact ⟨_, rfl, _, over_put _ _ _ (by decide) _, hI.value WF _ (List.mem_of_getElem? (i := 7) rfl) _ hb' ⟨ga, gc, qa, qc, ca, cc, rfl, hrows.lower (Nat.zero_le _)⟩⟩
      · exact og_op rfl rfl (og_value run_allocHeard ⟨_, over_put _ _ _ (by decide) _, hI.made WF _ (List.mem_of_getElem? (i := 0) rfl) hl⟩)
      · exact og_op rfl rfl (og_value run_allocHeard ⟨_, over_put _ _ _ (by decide) _, hI.made WF _ (List.mem_of_getElem? (i := 1) rfl) hl⟩)
      · have ha := hp ⟨8, .data⟩ (by simp) rfl
        obtain ⟨B, eB, hB1, hB2, hB3⟩ := (hI.p _ (List.mem_of_getElem? (i := 0) rfl)).at_ ha
        obtain ⟨ga, gc, qa, qc, ca, cc, e1, hrows⟩ := hI.v _ (List.mem_of_getElem? (i := 4) rfl) (hp ⟨4, .data⟩ (by simp) rfl)
        exact og_op rfl rfl (og_skip (run_storeHeard ((over_eval _ _ _ (by decide) (by show 7 < 80; omega)).trans eB) ((over_eval _ _ _ (by decide) (by show 41 < 80; omega)).trans e1) (hB3 hl) ⟨_, _, _, rfl⟩ ⟨_, _, _, rfl⟩ ⟨_, _, _, rfl⟩) ⟨f, rfl, hI.stored WF _ (List.mem_of_getElem? (i := 0) rfl) ha hl eB hrows⟩)
      · have ha := hp ⟨9, .data⟩ (by simp) rfl
        obtain ⟨B, eB, hB1, hB2, hB3⟩ := (hI.p _ (List.mem_of_getElem? (i := 1) rfl)).at_ ha
        obtain ⟨ga, gc, qa, qc, ca, cc, e1, hrows⟩ := hI.v _ (List.mem_of_getElem? (i := 7) rfl) (hp ⟨7, .data⟩ (by simp) rfl)
        exact og_op rfl rfl (og_skip (run_storeHeard ((over_eval _ _ _ (by decide) (by show 8 < 80; omega)).trans eB) ((over_eval _ _ _ (by decide) (by show 44 < 80; omega)).trans e1) (hB3 hl) ⟨_, _, _, rfl⟩ ⟨_, _, _, rfl⟩ ⟨_, _, _, rfl⟩) ⟨f, rfl, hI.stored WF _ (List.mem_of_getElem? (i := 1) rfl) ha hl eB hrows⟩)
    · intro L f wz hl hI
      have v1 := (hI.p _ (List.mem_of_getElem? (i := 0) rfl)).held (hl 10 (by show 10 < 12; omega))
      have v2 := (hI.p _ (List.mem_of_getElem? (i := 1) rfl)).held (hl 11 (by show 11 < 12; omega))
      refine hK _ _ (Met.intro (hR _ _ ?_))
      (repeat apply Exists.intro)
      refine ⟨⟨v1, v2⟩, ?_⟩
      rfl
  case rest =>
  obtain ⟨hv1, hv2⟩ := hcut
  obtain ⟨B1, ga, gc, qa, qc, ca, cc, rfl, hB1, HVC, HVR, hbA⟩ := hv1.cells
  obtain ⟨B2, ga2, gc2, qa2, qc2, ca2, cc2, rfl, hB2, HVC2, HVR2, -⟩ := hv2.cells
  obtain ⟨w6, rfl⟩ : ∃ w6 : World, w6 = wc := ⟨_, rfl⟩
  have hb6 := Below.after hb5 hbA
  obtain ⟨x, y, hcap, -⟩ : ∃ x y, gc2 = y ∧ r2.given.length ≤ gc2 := by
    obtain ⟨_, y, e, h⟩ := (HVR2 w6 (Below.refl _ _)).1.len
    cases e
    exact ⟨(), _, rfl, h⟩
  have hcap2 : r2.given.length ≤ gc2 := by
    obtain ⟨_, y, e, h⟩ := (HVR2 w6 (Below.refl _ _)).1.len
    cases e
    exact h
  clear hcap x y
  have hle : r1.given.length ≤ r2.given.length := HGR.out.1.length_le
  have htk : r2.given.take r1.given.length = r1.given := (List.prefix_iff_eq_take.1 HGR.out.1).symm
  have HSG : Hid (∀ W, Below w6.heap.size w6 W → Calls Try.prog 35 #[.slice ga r1.given.length gc, .slice ga2 r1.given.length gc2] W fun e w' => e = .returned (.bool true) ∧ Drawn W w') := Lib.hid (fun W h => by
    have q := sameGiven_any _ _ r1.given (r2.given.take r1.given.length) W (HVR W h).1 ((HVR2 W h).1.take hle) HZ1.out.1 (by rw [htk]; exact HZ1.out.1)
    rw [decide_eq_true htk.symm] at q
    exact q)
  have HCS := Lib.hid HVC
  have HCS2 := Lib.hid HVC2
  have HRS := Lib.hid HVR
  have HRS2 := Lib.hid HVR2
  have hle' : ¬ r2.given.length < r1.given.length := by omega
  have i1 : (0 : Int) ≤ (r1.given.length : Int) := by omega
  have i2 : (r1.given.length : Int) ≤ (gc2 : Int) := by omega
  have i3 : decide ((r1.given.length : Int) > (r2.given.length : Int)) = false := by simp; omega
  have i4 : decide (r2.given.length < r1.given.length) = false := by simp; omega
  have HW6 := Lib.hid hb6
  obtain ⟨-, -, -, -, -, y5, -⟩ := HVC w6 (Below.refl _ _)
  obtain ⟨-, -, -, -, -, z5, -⟩ := HVC2 w6 (Below.refl _ _)
  clear hv1 hv2 HVC HVC2 HVR HVR2 htk hB1 hB2 hcap2 hle
  go_upto_region 6 with fail
  go_quiet ((go_at_call 35; exact Calls.quiet_of (HSG.out _ (Below.drewN' (Below.refl _ _)))))
  clear y5 z5 i1 i2 i3 i4 hle' HSG
  have h7 : Below w6.heap.size w6 (w6.drewN nq) := Below.drewN' (Below.refl _ _)
  generalize w6.drewN nq = w7 at *
  have hb7 := Below.after HW6.out h7
  obtain ⟨y0, y1, y2, y3, y4, y5, y6, y7, y8, y9, y10⟩ := HCS.out _ h7
  obtain ⟨z0, z1, z2, z3, z4, z5, z6, z7, z8, z9, z10⟩ := HCS2.out _ h7
  by_cases hk0 : r1.err.kind = 0
  · have k1 : (r1.err.kind == 0) = true := by rw [hk0]; rfl
    clear hk0
    go_wp2_with fail
    refine (lives14_any _).mono ?_
    rintro e w9 ⟨rfl, hb9⟩
    go_wp2_with fail
    go_ret
    exact ⟨rfl, HW.out _ (Below.after hb7 hb9)⟩
  by_cases hk3 : r1.err.kind = 3
  · have k1 : (r1.err.kind == 0) = false := by rw [hk3]; rfl
    have k2 : (r1.err.kind == 3) = true := by rw [hk3]; rfl
    clear hk3 hk0
    go_wp2_with fail
    refine (lives14_any _).mono ?_
    rintro e w9 ⟨rfl, hb9⟩
    go_wp2_with fail
    go_ret
    exact ⟨rfl, HW.out _ (Below.after hb7 hb9)⟩
  have e : r2 = r1 := by
    rcases HGR.out.2 with q | q | q
    · exact absurd (kind_none.2 q) hk0
    · exact absurd (kind_req.2 q) hk3
    · exact q
  have k1 : (r1.err.kind == 0) = false := beq_eq_false_iff_ne.2 hk0
  have k2 : (r1.err.kind == 3) = false := beq_eq_false_iff_ne.2 hk3
  subst e
  have ec := HCZ.out.2.2 rfl
  subst ec
  have HSM := Lib.hid (same_any r2.err r2.dash true r2.given r2.args c1 (HRS.out w7 h7).1 (HRS2.out w7 h7).1 (HRS.out w7 h7).2.1 (HRS2.out w7 h7).2.1 (HRS.out w7 h7).2.2 (HRS2.out w7 h7).2.2 HZ1.out.1 HZ1.out.2 HCZ.out.1)
  clear hk0 hk3
  go_wp2_with fail
  refine HSM.out.mono ?_
  rintro e w8 ⟨rfl, hb8⟩
  have hb8 := Below.after hb7 hb8
  clear y0 y1 y2 y3 y4 y5 y6 y7 y8 y9 y10 z0 z1 z2 z3 z4 z5 z6 z7 z8 z9 z10
  go_wp2_with fail
  refine (lives14_any _).mono ?_
  rintro e w9 ⟨rfl, hb9⟩
  go_wp2_with fail
  go_ret
  exact ⟨rfl, HW.out _ (Below.after hb8 hb9)⟩
end Go.Proofs.Ytcpjdgbnfjdakaa
