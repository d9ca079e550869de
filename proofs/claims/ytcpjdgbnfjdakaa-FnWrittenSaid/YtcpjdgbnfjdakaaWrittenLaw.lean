/- The walk of the law FnWritten. (Printed by gen6.py.) -/
import Derived.Test.YtcpjdgbnfjdakaaWr14
namespace Go.Proofs.Ytcpjdgbnfjdakaa
open Go.RowKit
set_option linter.unusedVariables false
set_option linter.unusedSimpArgs false

theorem mem_bytesOf {t : ByteArray} {l : List ByteArray} (h : t ∈ l) : t.size ≤ bytesOf l := by
  induction l with
  | nil => cases h
  | cons x l ih =>
    rw [bytesOf_cons]
    rcases List.mem_cons.1 h with h | h
    · subst h; omega
    · have := ih h; omega
set_option maxRecDepth 100000 in
set_option maxHeartbeats 3200000 in
theorem fnWritten_law (fv vB : Value) (plain unk : Bool) (fold : Int) (fs : List FlagD) (B : List ByteArray) (w : World) (hv : FlagRows w fv fs) (hfl : fs.length ≤ 9223372036854775807) (hbl : ∀ f ∈ fs, f.bad.length ≤ 9223372036854775807) (htB : Texts w vB B) (hlB : B.length ≤ 9223372036854775807) (sv : Value) (l : List SaidD) (hsd : SaidRows w sv l) (hld : l.length ≤ 9223372036854775807) :
    Calls Try.prog 13 #[.agg #[fv, .bool plain, .bool unk, .int .i64 fold], sv, vB] w fun e w' => e = .returned (.bool true) ∧ Below w.heap.size w w' := by
  obtain ⟨fa, fc, rfl⟩ := hv.len
  obtain ⟨sa, sc, rfl⟩ := hsd.len
  obtain ⟨ba, bc, rfl, hbc⟩ := htB.len
  obtain ⟨w1, hw1⟩ : ∃ w1, w.alloc (.cells #[.slice fa fs.length fc, .bool plain, .bool unk, .int .i64 fold] 24) = w1 := ⟨_, rfl⟩
  have hb1 : Below w.heap.size w w1 := by rw [← hw1]; (repeat (first | (with_reducible exact Below.refl _ _) | (with_reducible assumption) | ((with_reducible refine Below.alloc ?_ ?_ _); rotate_left; focus ((try simp only [World.size_alloc, size_setCell, World.heap_drewN]); (try omega); done)) | ((with_reducible refine Below.setCell ?_ ?_ _); rotate_left; focus ((try simp only [World.size_alloc, size_setCell, World.heap_drewN]); (try omega); done)) | (with_reducible refine Below.drewN' ?_) | (with_reducible refine Below.drew ?_)))
  have hX : w1.heap[w.heap.size]? = some (.cells #[.slice fa fs.length fc, .bool plain, .bool unk, .int .i64 fold] 24 (0, 0)) := by rw [← hw1]; exact heap_at _ _ _ rfl
  have cells : ∀ w', Below w1.heap.size w1 w' → w'.cell? ⟨w.heap.size, 0, none⟩ = some (.slice fa fs.length fc) ∧ w'.cell? ⟨w.heap.size, 1, none⟩ = some (.bool plain) ∧ w'.cell? ⟨w.heap.size, 2, none⟩ = some (.bool unk) ∧ w'.cell? ⟨w.heap.size, 3, none⟩ = some (.int .i64 fold) := fun w' h => by
    have e := (h.block _ (lt_of_block hX)).trans hX
    simp only [World.cell?, e]
    exact ⟨rfl, rfl, rfl, rfl⟩
  have hbW : ∀ w', Below w1.heap.size w1 w' → Below w.heap.size w w' := fun w' h => Below.after hb1 h
  have HC := Lib.hid cells
  have HW := Lib.hid hbW
  have HV := Lib.hid (fun W (h : Below w1.heap.size w1 W) => hv.later (Below.after hb1 h).block)
  have HTB := Lib.hid (fun W (h : Below w1.heap.size w1 W) => htB.later (Below.after hb1 h).block)
  have HSA := Lib.hid (fun W (h : Below w1.heap.size w1 W) => hsd.later (Below.after hb1 h).block)
  clear hsd
  obtain ⟨a0, a1, a2, a3⟩ := cells w1 (Below.refl _ _)
  have F19 := fits19_any (.slice fa fs.length fc) plain unk fold fs w1 (hv.later hb1.block) hfl hbl
  clear cells hbW hv htB hX hb1
  go_enter Try.func13, Try.ntmps13
  go_wp2_with fail
  refine F19.mono ?_
  rintro e w2 ⟨⟨b2, rfl, hsf⟩, hb2⟩
  have HSF := Lib.hid hsf
  clear hsf F19 hw1 a0 a1 a2 a3
  obtain rfl | rfl : b2 = false ∨ b2 = true := by cases b2 <;> simp
  · go_wp2_with fail
    go_ret
    exact ⟨rfl, HW.out _ hb2⟩
  have HSF1 := Lib.hid (HSF.out (by trivial))
  clear HSF
  have F23 := fits23_any (.slice sa l.length sc) l w2 (HSA.out _ hb2) hld
  go_wp2_with fail
  refine F23.mono ?_
  rintro e w3 ⟨⟨b3, rfl, hss⟩, hb3⟩
  have hb3 := Below.after hb2 hb3
  have HSS := Lib.hid hss
  clear hss F23 hb2
  obtain rfl | rfl : b3 = false ∨ b3 = true := by cases b3 <;> simp
  · go_wp2_with fail
    go_ret
    exact ⟨rfl, HW.out _ hb3⟩
  have HSS1 := Lib.hid (HSS.out (by trivial))
  clear HSS
  have F2 := fits2_any (.slice ba B.length bc) B w3 (HTB.out _ hb3).strs hlB
  go_wp2_with fail
  refine F2.mono ?_
  rintro e w2 ⟨⟨b9, rfl, hsl⟩, rfl⟩
  have HSL := Lib.hid hsl
  clear hsl F2
  obtain rfl | rfl : b9 = false ∨ b9 = true := by cases b9 <;> simp
  · go_wp2_with fail
    go_ret
    exact ⟨rfl, HW.out _ hb3⟩
  have HSLB := Lib.hid (HSL.out (by trivial))
  clear HSL
  obtain ⟨a0, a1, a2, a3⟩ := HC.out _ hb3
  have FR := right_any (.slice fa fs.length fc) fs plain unk fold w2 (HV.out _ hb3) HSF1.out.1 (fun f hf => ⟨(HSF1.out.2 f hf).1, (HSF1.out.2 f hf).2.1⟩)
  go_wp2_with fail
  refine FR.mono ?_
  rintro e w4 ⟨⟨b4, rfl, hr⟩, hb4⟩
  have hb4 := Below.after hb3 hb4
  have HR := Lib.hid hr
  clear hr FR a0 a1 a2 a3 hb3
  obtain rfl | rfl : b4 = false ∨ b4 = true := by cases b4 <;> simp
  · go_wp2_with fail
    go_ret
    exact ⟨rfl, HW.out _ hb4⟩
  have HR1 := Lib.hid (HR.out (by trivial))
  clear HR
  by_cases hbig : l.length ≤ 65536
  case neg =>
    have dbig : decide ((65536 : Int) < (l.length : Int)) = true := decide_eq_true (by omega)
    go_wp2_with fail
    go_ret
    exact ⟨rfl, HW.out _ hb4⟩
  have dbig : decide ((65536 : Int) < (l.length : Int)) = false := decide_eq_false (by omega)
  have hb5 := Below.after hb4 ((Below.refl _ w4).alloc (Nat.le_refl _) (.cells #[.slice ba B.length bc] 25))
  have F14 := fits14_any (.slice (some ⟨w4.heap.size, 0, none⟩) 1 1) [B] (w4.alloc (.cells #[.slice ba B.length bc] 25)) (StrRows.made1 (ty := 25) (fz := (0, 0)) 1 (heap_at _ _ _ rfl) (HTB.out _ hb5).strs) (by simp) (by intro l' h'; simp only [List.mem_cons, List.not_mem_nil, or_false] at h'; subst h'; exact HSLB.out)
  go_wp2_with fail
  refine F14.mono ?_
  rintro e w5 ⟨rfl, rfl⟩
  obtain hf | hf : fitsF [B] = false ∨ fitsF [B] = true := by cases fitsF [B] <;> simp
  · rw [hf]
    go_wp2_with fail
    go_ret
    exact ⟨rfl, HW.out _ hb5⟩
  rw [hf]
  have fB := fits_one hf
  have hlB2 : B.length ≤ 1048576 := Nat.le_trans (len_bytesOf B) fB
  obtain ⟨a0, a1, a2, a3⟩ := HC.out _ hb5
  obtain ⟨rq, r0, r3⟩ := HR1.out
  obtain ⟨e1, e2⟩ := and_bits fold r0 r3
  have RP := right_of (plain := plain) (unk := unk) rq r0 r3 HSF1.out
  generalize w4.alloc (.cells #[.slice ba B.length bc] 25) = w5 at *
  have HRP := Lib.hid RP
  have FW := written14_any fa fc plain unk fold fs (.slice sa l.length sc) l w5 (HV.out _ hb5) HSF1.out RP rq (HSA.out _ hb5) hbig HSS1.out.2
  clear F14 rq RP e1 e2 HR1 hb4 hf
  go_wp2_with fail
  refine FW.mono ?_
  rintro e w6 ⟨⟨av, gv, lv, ok, rfl, -, -, -, hok⟩, hb6⟩
  have hb6 := Below.after hb5 hb6
  have HOK := Lib.hid hok
  clear FW hok a0 a1 a2 a3
  obtain rfl | rfl : ok = false ∨ ok = true := by cases ok <;> simp
  · go_wp2_with fail
    go_ret
    exact ⟨rfl, HW.out _ hb6⟩
  obtain ⟨A, G, L, R3, hWr, n1, n2, n3, n4⟩ := HOK.out rfl
  obtain ⟨aa, ac, rfl⟩ := row_form R3.a
  obtain ⟨la, lc, rfl⟩ := row_form R3.l
  obtain ⟨ga, gc, rfl⟩ := row_form R3.g
  have HWR := Lib.hid hWr
  have tA := Texts.ofRow R3.a
  have tL := Texts.ofRow R3.l
  have tG := Givens.ofRow R3.g
  have h67 : Below w6.heap.size w6 (w6.alloc (.cells #[.slice aa A.length ac] 25)) := (Below.refl _ w6).alloc (Nat.le_refl _) _
  have hb7 := Below.after hb6 h67
  have F14 := fits14w_any (.slice (some ⟨w6.heap.size, 0, none⟩) 1 1) [A] (w6.alloc (.cells #[.slice aa A.length ac] 25)) (StrRows.made1 (ty := 25) (fz := (0, 0)) 1 (heap_at _ _ _ rfl) (tA.later h67.block).strs) (by simp) (by intro l' h'; simp only [List.mem_cons, List.not_mem_nil, or_false] at h'; subst h'; exact ⟨by omega, n4⟩)
  have HTA := Lib.hid (fun W (h : Below w6.heap.size w6 W) => tA.later h.block)
  have HTL := Lib.hid (fun W (h : Below w6.heap.size w6 W) => tL.later h.block)
  have HTG := Lib.hid (fun W (h : Below w6.heap.size w6 W) => tG.later h.block)
  clear R3 hWr tA tL tG n4 HOK
  go_wp2_with fail
  refine F14.mono ?_
  rintro e w7 ⟨rfl, rfl⟩
  obtain hf | hf : fitsF [A] = false ∨ fitsF [A] = true := by cases fitsF [A] <;> simp
  · rw [hf]
    go_wp2_with fail
    go_ret
    exact ⟨rfl, HW.out _ hb7⟩
  rw [hf]
  have fA := fits_one hf
  have hlA2 : A.length ≤ 1048576 := Nat.le_trans (len_bytesOf A) fA
  generalize w6.alloc (.cells #[.slice aa A.length ac] 25) = w7 at *
  clear F14 hf
  have wA : ∀ t ∈ A, t.size ≤ 4294967295 := fun t ht => Nat.le_trans (mem_bytesOf ht) (Nat.le_trans fA (by decide))
  have HWA := Lib.hid wA
  clear wA
  have HPX : Hid (∀ W v, Below w1.heap.size w1 W → Texts W v (A ++ ([(⟨#[45, 45]⟩ : ByteArray)] ++ B)) → Calls Try.prog 20 #[.agg #[.slice fa fs.length fc, .bool plain, .bool unk, .int .i64 fold], v] W fun e w' => HeardOwn e w' W.heap.size (goesF (setD fs plain unk fold) .sets (A ++ ([(⟨#[45, 45]⟩ : ByteArray)] ++ B)) begin0) (chgU (goesF (setD fs plain unk fold) .sets (A ++ ([(⟨#[45, 45]⟩ : ByteArray)] ++ B)) begin0).given fs.length) ∧ Below W.heap.size W w') :=
    Lib.hid (fun W v hb ht => implParse_own (.slice fa fs.length fc) v plain unk fold (setD fs plain unk fold) W (HV.out _ hb) rfl rfl rfl rfl HRP.out _ ht (by intro t h; rcases List.mem_append.1 h with h | h; exact HWA.out t h; rcases List.mem_append.1 h with h | h; (simp only [List.mem_singleton] at h; subst h; decide); exact wide HSLB.out.2 t h) (by simp only [List.length_append, List.length_singleton]; omega) (by rw [bytesOf_append, bytesOf_append]; have : bytesOf [(⟨#[45, 45]⟩ : ByteArray)] = 3 := rfl; omega))
  have GX := HWR.out.end_ B
  have hllx : (A ++ ([(⟨#[45, 45]⟩ : ByteArray)] ++ B)).length ≤ 1099511627776 := by simp only [List.length_append, List.length_singleton]; omega
  have HLX0 : ∀ (W : World) (p q : Nat), Below w1.heap.size w1 W ∧ Below w6.heap.size w6 W → W.heap[p]? = some (.cells #[.slice aa A.length ac, .slice (some ⟨q, 0, none⟩) 1 1, .slice ba B.length bc] 25 (0, 0)) → W.heap[q]? = some (.cells #[.string ⟨#[45, 45]⟩] 9 (0, 0)) → Calls Try.prog 33 #[.slice (some ⟨p, 0, none⟩) 3 3] W fun e w' => (∃ rv, e = .returned rv ∧ Texts w' rv (A ++ ([(⟨#[45, 45]⟩ : ByteArray)] ++ B))) ∧ Below W.heap.size W w' :=
    fun W p q hb h1 h2 => list3h_any _ _ _ W p h1 (HTA.out W hb.2).strs (Strs.made [_] 1 h2) (HTB.out W hb.1).strs hllx
  have HX1 := HPX.out
  generalize A ++ ([(⟨#[45, 45]⟩ : ByteArray)] ++ B) = lx at HLX0 HX1 GX
  have HLX := Lib.hid HLX0
  rw [GX] at HX1
  have HZ : (L ++ B).length ≤ 1099511627776 := by simp only [List.length_append]; omega
  have HZG : G.length ≤ 1099511627776 := by omega
  obtain ⟨LB, hLB⟩ : ∃ x, L ++ B = x := ⟨_, rfl⟩
  rw [hLB] at HX1 HZ
  obtain ⟨rX, hrX⟩ : ∃ r : RunD, ⟨.none, G, LB, (L.length : Int)⟩ = r := ⟨_, rfl⟩
  rw [hrX] at HX1
  obtain ⟨cX, hcX⟩ : ∃ c, chgU rX.given fs.length = c := ⟨_, rfl⟩
  rw [hcX] at HX1
  have hcl : cX.length ≤ 1099511627776 := by rw [← hcX]; have q := chgU_len rX.given fs.length; have := HSF1.out.1; exact Nat.le_trans q (Nat.le_trans this (by omega))
  have hcG : chgU G fs.length = cX := by rw [← hcX, ← hrX]
  have HPXX := Lib.hid HX1
  have F1 : Hid (rX.err.kind = 0 ∧ rX.given = G ∧ rX.args = LB ∧ rX.dash = (L.length : Int)) := Lib.hid (by rw [← hrX]; exact ⟨rfl, rfl, rfl, rfl⟩)
  have HCG := Lib.hid hcG
  have HCL := Lib.hid hcl
  have HZL := Lib.hid HZ
  clear HPX HLX0 HX1 GX hllx hrX hcX hcG hcl HWR HZ HWA
  obtain ⟨a0, a1, a2, a3⟩ := HC.out _ hb7
  have h67s := h67.size
  have hwbd := hb7.drew
  have hwbs := hb7.size
  go_upto_region 8 with fail
  go_cut [11] from 55 to 62 (fun v wx => HeardVar w7 w7.heap.size wx v rX cX)
  case first =>
    go_region_held3 (fun wx => wx.cell? ⟨w.heap.size, 0, none⟩ = some (.slice fa fs.length fc) ∧ wx.cell? ⟨w.heap.size, 1, none⟩ = some (.bool plain) ∧ wx.cell? ⟨w.heap.size, 2, none⟩ = some (.bool unk) ∧ wx.cell? ⟨w.heap.size, 3, none⟩ = some (.int .i64 fold))
      (first
        | (with_reducible refine HC.out _ ?_; ((repeat (first | (with_reducible exact Below.refl _ _) | (with_reducible assumption) | ((with_reducible refine Below.alloc ?_ ?_ _); rotate_left; focus ((try simp only [World.size_alloc, size_setCell, World.heap_drewN, size_drew]); (try omega); done)) | ((with_reducible refine Below.setCell ?_ ?_ _); rotate_left; focus ((try simp only [World.size_alloc, size_setCell, World.heap_drewN, size_drew]); (try omega); done)) | (with_reducible refine Below.drewN' ?_) | (with_reducible refine Below.drew ?_))); done)))
      (first
        | (go_simp; go_at_call 33; (first | (refine (HLX.out _ _ w7.heap.size ?_ ?_ ?_).mono ?_; (focus (constructor <;> (((repeat (first | (with_reducible exact Below.refl _ _) | (with_reducible assumption) | ((with_reducible refine Below.alloc ?_ ?_ _); rotate_left; focus ((try simp only [World.size_alloc, size_setCell, World.heap_drewN, size_drew]); (try omega); done)) | ((with_reducible refine Below.setCell ?_ ?_ _); rotate_left; focus ((try simp only [World.size_alloc, size_setCell, World.heap_drewN, size_drew]); (try omega); done)) | (with_reducible refine Below.drewN' ?_) | (with_reducible refine Below.drew ?_))); done)))); (focus (((repeat (first | (with_reducible assumption) | ((with_reducible refine heap_past' ?_ ?_); focus ((try simp only [World.size_alloc, size_setCell, World.heap_drewN, size_drew]); (try omega); done)) | ((with_reducible refine heap_at _ _ _ ?_); focus ((try simp only [World.size_alloc, size_setCell, World.heap_drewN, size_drew]); (try omega); done)) | ((with_reducible refine heap_ne' ?_ ?_); focus ((try simp only [World.size_alloc, size_setCell, World.heap_drewN, size_drew]); (try omega); done)) | (with_reducible refine heap_drew' ?_) | (with_reducible refine heap_drew1' ?_))); done))); (focus (((repeat (first | (with_reducible assumption) | ((with_reducible refine heap_past' ?_ ?_); focus ((try simp only [World.size_alloc, size_setCell, World.heap_drewN, size_drew]); (try omega); done)) | ((with_reducible refine heap_at _ _ _ ?_); focus ((try simp only [World.size_alloc, size_setCell, World.heap_drewN, size_drew]); (try omega); done)) | ((with_reducible refine heap_ne' ?_ ?_); focus ((try simp only [World.size_alloc, size_setCell, World.heap_drewN, size_drew]); (try omega); done)) | (with_reducible refine heap_drew' ?_) | (with_reducible refine heap_drew1' ?_))); done)))) | (refine (HLX.out _ _ (w7.heap.size + 1) ?_ ?_ ?_).mono ?_; (focus (constructor <;> (((repeat (first | (with_reducible exact Below.refl _ _) | (with_reducible assumption) | ((with_reducible refine Below.alloc ?_ ?_ _); rotate_left; focus ((try simp only [World.size_alloc, size_setCell, World.heap_drewN, size_drew]); (try omega); done)) | ((with_reducible refine Below.setCell ?_ ?_ _); rotate_left; focus ((try simp only [World.size_alloc, size_setCell, World.heap_drewN, size_drew]); (try omega); done)) | (with_reducible refine Below.drewN' ?_) | (with_reducible refine Below.drew ?_))); done)))); (focus (((repeat (first | (with_reducible assumption) | ((with_reducible refine heap_past' ?_ ?_); focus ((try simp only [World.size_alloc, size_setCell, World.heap_drewN, size_drew]); (try omega); done)) | ((with_reducible refine heap_at _ _ _ ?_); focus ((try simp only [World.size_alloc, size_setCell, World.heap_drewN, size_drew]); (try omega); done)) | ((with_reducible refine heap_ne' ?_ ?_); focus ((try simp only [World.size_alloc, size_setCell, World.heap_drewN, size_drew]); (try omega); done)) | (with_reducible refine heap_drew' ?_) | (with_reducible refine heap_drew1' ?_))); done))); (focus (((repeat (first | (with_reducible assumption) | ((with_reducible refine heap_past' ?_ ?_); focus ((try simp only [World.size_alloc, size_setCell, World.heap_drewN, size_drew]); (try omega); done)) | ((with_reducible refine heap_at _ _ _ ?_); focus ((try simp only [World.size_alloc, size_setCell, World.heap_drewN, size_drew]); (try omega); done)) | ((with_reducible refine heap_ne' ?_ ?_); focus ((try simp only [World.size_alloc, size_setCell, World.heap_drewN, size_drew]); (try omega); done)) | (with_reducible refine heap_drew' ?_) | (with_reducible refine heap_drew1' ?_))); done))))); rintro e wq ⟨⟨rv, rfl, htq⟩, hbq⟩; have hBq : Below w1.heap.size w1 wq := Below.after (by ((repeat (first | (with_reducible exact Below.refl _ _) | (with_reducible assumption) | ((with_reducible refine Below.alloc ?_ ?_ _); rotate_left; focus ((try simp only [World.size_alloc, size_setCell, World.heap_drewN, size_drew]); (try omega); done)) | ((with_reducible refine Below.setCell ?_ ?_ _); rotate_left; focus ((try simp only [World.size_alloc, size_setCell, World.heap_drewN, size_drew]); (try omega); done)) | (with_reducible refine Below.drewN' ?_) | (with_reducible refine Below.drew ?_))); done)) hbq; have hCq : Below w7.heap.size w7 wq := Below.after (by ((repeat (first | (with_reducible exact Below.refl _ _) | (with_reducible assumption) | ((with_reducible refine Below.alloc ?_ ?_ _); rotate_left; focus ((try simp only [World.size_alloc, size_setCell, World.heap_drewN, size_drew]); (try omega); done)) | ((with_reducible refine Below.setCell ?_ ?_ _); rotate_left; focus ((try simp only [World.size_alloc, size_setCell, World.heap_drewN, size_drew]); (try omega); done)) | (with_reducible refine Below.drewN' ?_) | (with_reducible refine Below.drew ?_))); done)) hbq; have hsq := hbq.size; (try simp only [World.size_alloc, World.heap_drewN, size_drew] at hsq); (first | ((refine lay (T := wq.heap[w7.heap.size]? = some (.cells zeroH 33 (0, 0))) ?_ (fun hzq => ?_)); (focus (refine (hbq.block _ ?_).trans ?_; (focus (((try simp only [World.size_alloc, size_setCell, World.heap_drewN, size_drew]); (try omega); done))); (first | ((repeat (first | (with_reducible assumption) | ((with_reducible refine heap_past' ?_ ?_); focus ((try simp only [World.size_alloc, size_setCell, World.heap_drewN, size_drew]); (try omega); done)) | ((with_reducible refine heap_at _ _ _ ?_); focus ((try simp only [World.size_alloc, size_setCell, World.heap_drewN, size_drew]); (try omega); done)) | ((with_reducible refine heap_ne' ?_ ?_); focus ((try simp only [World.size_alloc, size_setCell, World.heap_drewN, size_drew]); (try omega); done)) | (with_reducible refine heap_drew' ?_) | (with_reducible refine heap_drew1' ?_))); done) | (unfold zeroH; ((repeat (first | (with_reducible assumption) | ((with_reducible refine heap_past' ?_ ?_); focus ((try simp only [World.size_alloc, size_setCell, World.heap_drewN, size_drew]); (try omega); done)) | ((with_reducible refine heap_at _ _ _ ?_); focus ((try simp only [World.size_alloc, size_setCell, World.heap_drewN, size_drew]); (try omega); done)) | ((with_reducible refine heap_ne' ?_ ?_); focus ((try simp only [World.size_alloc, size_setCell, World.heap_drewN, size_drew]); (try omega); done)) | (with_reducible refine heap_drew' ?_) | (with_reducible refine heap_drew1' ?_))); done)))))) | ((refine lay (T := wq.heap[w7.heap.size + 1]? = some (.cells zeroH 33 (0, 0))) ?_ (fun hzq => ?_)); (focus (refine (hbq.block _ ?_).trans ?_; (focus (((try simp only [World.size_alloc, size_setCell, World.heap_drewN, size_drew]); (try omega); done))); (first | ((repeat (first | (with_reducible assumption) | ((with_reducible refine heap_past' ?_ ?_); focus ((try simp only [World.size_alloc, size_setCell, World.heap_drewN, size_drew]); (try omega); done)) | ((with_reducible refine heap_at _ _ _ ?_); focus ((try simp only [World.size_alloc, size_setCell, World.heap_drewN, size_drew]); (try omega); done)) | ((with_reducible refine heap_ne' ?_ ?_); focus ((try simp only [World.size_alloc, size_setCell, World.heap_drewN, size_drew]); (try omega); done)) | (with_reducible refine heap_drew' ?_) | (with_reducible refine heap_drew1' ?_))); done) | (unfold zeroH; ((repeat (first | (with_reducible assumption) | ((with_reducible refine heap_past' ?_ ?_); focus ((try simp only [World.size_alloc, size_setCell, World.heap_drewN, size_drew]); (try omega); done)) | ((with_reducible refine heap_at _ _ _ ?_); focus ((try simp only [World.size_alloc, size_setCell, World.heap_drewN, size_drew]); (try omega); done)) | ((with_reducible refine heap_ne' ?_ ?_); focus ((try simp only [World.size_alloc, size_setCell, World.heap_drewN, size_drew]); (try omega); done)) | (with_reducible refine heap_drew' ?_) | (with_reducible refine heap_drew1' ?_))); done)))))) | ((refine lay (T := wq.heap[w7.heap.size + 1 + 1]? = some (.cells zeroH 33 (0, 0))) ?_ (fun hzq => ?_)); (focus (refine (hbq.block _ ?_).trans ?_; (focus (((try simp only [World.size_alloc, size_setCell, World.heap_drewN, size_drew]); (try omega); done))); (first | ((repeat (first | (with_reducible assumption) | ((with_reducible refine heap_past' ?_ ?_); focus ((try simp only [World.size_alloc, size_setCell, World.heap_drewN, size_drew]); (try omega); done)) | ((with_reducible refine heap_at _ _ _ ?_); focus ((try simp only [World.size_alloc, size_setCell, World.heap_drewN, size_drew]); (try omega); done)) | ((with_reducible refine heap_ne' ?_ ?_); focus ((try simp only [World.size_alloc, size_setCell, World.heap_drewN, size_drew]); (try omega); done)) | (with_reducible refine heap_drew' ?_) | (with_reducible refine heap_drew1' ?_))); done) | (unfold zeroH; ((repeat (first | (with_reducible assumption) | ((with_reducible refine heap_past' ?_ ?_); focus ((try simp only [World.size_alloc, size_setCell, World.heap_drewN, size_drew]); (try omega); done)) | ((with_reducible refine heap_at _ _ _ ?_); focus ((try simp only [World.size_alloc, size_setCell, World.heap_drewN, size_drew]); (try omega); done)) | ((with_reducible refine heap_ne' ?_ ?_); focus ((try simp only [World.size_alloc, size_setCell, World.heap_drewN, size_drew]); (try omega); done)) | (with_reducible refine heap_drew' ?_) | (with_reducible refine heap_drew1' ?_))); done)))))) | skip); obtain ⟨ra, rc, rfl, -⟩ := htq.len)
        | (go_simp; go_at_call 20; refine (HPXX.out _ _ ?_ ?_).mono ?_; (focus (((repeat (first | (with_reducible exact Below.refl _ _) | (with_reducible assumption) | ((with_reducible refine Below.alloc ?_ ?_ _); rotate_left; focus ((try simp only [World.size_alloc, size_setCell, World.heap_drewN, size_drew]); (try omega); done)) | ((with_reducible refine Below.setCell ?_ ?_ _); rotate_left; focus ((try simp only [World.size_alloc, size_setCell, World.heap_drewN, size_drew]); (try omega); done)) | (with_reducible refine Below.drewN' ?_) | (with_reducible refine Below.drew ?_))); done))); (focus (first | exact htq | exact htq.later (Below.alloc (Below.refl _ _) (Nat.le_refl _) _).block)); rintro e wr ⟨⟨ga', gc', aa', ac', ca', cc', rfl, hrows⟩, hbr⟩; have hBr : Below w1.heap.size w1 wr := Below.after (by ((repeat (first | (with_reducible exact Below.refl _ _) | (with_reducible assumption) | ((with_reducible refine Below.alloc ?_ ?_ _); rotate_left; focus ((try simp only [World.size_alloc, size_setCell, World.heap_drewN, size_drew]); (try omega); done)) | ((with_reducible refine Below.setCell ?_ ?_ _); rotate_left; focus ((try simp only [World.size_alloc, size_setCell, World.heap_drewN, size_drew]); (try omega); done)) | (with_reducible refine Below.drewN' ?_) | (with_reducible refine Below.drew ?_))); done)) hbr; have hCr : Below w7.heap.size w7 wr := Below.after (by ((repeat (first | (with_reducible exact Below.refl _ _) | (with_reducible assumption) | ((with_reducible refine Below.alloc ?_ ?_ _); rotate_left; focus ((try simp only [World.size_alloc, size_setCell, World.heap_drewN, size_drew]); (try omega); done)) | ((with_reducible refine Below.setCell ?_ ?_ _); rotate_left; focus ((try simp only [World.size_alloc, size_setCell, World.heap_drewN, size_drew]); (try omega); done)) | (with_reducible refine Below.drewN' ?_) | (with_reducible refine Below.drew ?_))); done)) hbr; have hss := hCr.size; have hsr := hbr.size; (try simp only [World.size_alloc, World.heap_drewN, size_drew] at hsr); (first | (have hzr := (hbr.block _ (lt_of_block hzq)).trans hzq) | ((refine lay (T := wr.heap[wq.heap.size]? = some (.cells zeroH 33 (0, 0))) ?_ (fun hzr => ?_)); (focus (refine (hbr.block _ ?_).trans ?_; (focus (((try simp only [World.size_alloc, size_setCell, World.heap_drewN, size_drew]); (try omega); done))); (first | ((repeat (first | (with_reducible assumption) | ((with_reducible refine heap_past' ?_ ?_); focus ((try simp only [World.size_alloc, size_setCell, World.heap_drewN, size_drew]); (try omega); done)) | ((with_reducible refine heap_at _ _ _ ?_); focus ((try simp only [World.size_alloc, size_setCell, World.heap_drewN, size_drew]); (try omega); done)) | ((with_reducible refine heap_ne' ?_ ?_); focus ((try simp only [World.size_alloc, size_setCell, World.heap_drewN, size_drew]); (try omega); done)) | (with_reducible refine heap_drew' ?_) | (with_reducible refine heap_drew1' ?_))); done) | (unfold zeroH; ((repeat (first | (with_reducible assumption) | ((with_reducible refine heap_past' ?_ ?_); focus ((try simp only [World.size_alloc, size_setCell, World.heap_drewN, size_drew]); (try omega); done)) | ((with_reducible refine heap_at _ _ _ ?_); focus ((try simp only [World.size_alloc, size_setCell, World.heap_drewN, size_drew]); (try omega); done)) | ((with_reducible refine heap_ne' ?_ ?_); focus ((try simp only [World.size_alloc, size_setCell, World.heap_drewN, size_drew]); (try omega); done)) | (with_reducible refine heap_drew' ?_) | (with_reducible refine heap_drew1' ?_))); done)))))) | skip); simp only [hCells]; (first | (have x0 := cell_of hzr 0 (.int .i64 0) rfl; have x1 := cell_of hzr 1 (.string ⟨#[]⟩) rfl; have x2 := cell_of hzr 2 (.string ⟨#[]⟩) rfl; have x3 := cell_of hzr 3 (.string ⟨#[]⟩) rfl; have x4 := cell_of hzr 4 (.int .i64 0) rfl; have x5 := cell_of hzr 5 (.slice none 0 0) rfl; have x6 := cell_of hzr 6 (.slice none 0 0) rfl; have x7 := cell_of hzr 7 (.int .i64 0) rfl; have x8 := cell_of hzr 8 (.slice none 0 0) rfl; have x9 := cell_of hzr 9 (.bool false) rfl; have x10 := cell_of hzr 10 (.bool false) rfl; have xf := fun i => frozen_of hzr i) | skip)))
    all_goals (go_wp2_with fail)
    all_goals go_meet
    all_goals first
      | with_reducible exact heardVar_new hCr hss hrows
      | with_reducible exact heardVar_put hCr (by omega) hzr hrows
  case rest =>
  obtain ⟨BX, gx, gxc, qx, qxc, cx, cxc, rfl, hBX, HVC2, HVR2, hbX⟩ := hcut.cells
  obtain ⟨wx, rfl⟩ : ∃ wx : World, wx = wc := ⟨_, rfl⟩
  have hbx := Below.after hb7 hbX
  have h6x := Below.after h67 hbX
  obtain ⟨f0, f1, f2, f3⟩ := F1.out
  have HCX := Lib.hid (fun W (h : Below wx.heap.size wx W) => (show W.cell? ⟨w.heap.size, 0, none⟩ = some (.slice fa fs.length fc) ∧ W.cell? ⟨w.heap.size, 1, none⟩ = some (.bool plain) ∧ W.cell? ⟨w.heap.size, 2, none⟩ = some (.bool unk) ∧ W.cell? ⟨w.heap.size, 3, none⟩ = some (.int .i64 fold) ∧ W.cell? ⟨BX, 0, none⟩ = some (.int .i64 0) ∧ W.cell? ⟨BX, 5, none⟩ = some (.slice gx G.length gxc) ∧ W.cell? ⟨BX, 6, none⟩ = some (.slice qx LB.length qxc) ∧ W.cell? ⟨BX, 7, none⟩ = some (.int .i64 (L.length : Int)) ∧ W.cell? ⟨BX, 8, none⟩ = some (.slice cx cX.length cxc) from by
    obtain ⟨p0, p1, p2, p3, p4, p5, p6, p7, p8, -⟩ := HVC2 W h
    obtain ⟨q0, q1, q2, q3⟩ := HC.out _ (Below.after hbx h)
    rw [f0] at p0
    rw [f1] at p5
    rw [f2] at p6
    rw [f3] at p7
    exact ⟨q0, q1, q2, q3, p0, p5, p6, p7, p8⟩))
  have HSG := Lib.hid (fun W (h : Below wx.heap.size wx W) => sameGiven_any (.slice gx G.length gxc) (.slice ga G.length gc) G G W (by have q := (HVR2 W h).1; rw [f1] at q; exact q) (HTG.out W (Below.after h6x h)) HZG HZG)
  have HST := Lib.hid (fun W (h : Below wx.heap.size wx W) (rv : Value) (hr : Texts W rv (LB)) => sameTexts_any (.slice qx LB.length qxc) rv (LB) (LB) W (by have q := (HVR2 W h).2.1; rw [f2] at q; exact q.strs) hr.strs HZL.out HZL.out)
  have HLL := Lib.hid (fun (W : World) (p : Nat) (h : Below wx.heap.size wx W) (hp : W.heap[p]? = some (.cells #[.slice la L.length lc, .slice ba B.length bc] 25 (0, 0))) => list2h_any _ _ W p hp (HTL.out W (Below.after h6x h)).strs (HTB.out W (Below.after hbx h)).strs (by rw [hLB]; exact HZL.out))
  rw [hLB] at HLL
  have HCH := Lib.hid (fun W (h : Below wx.heap.size wx W) => changed_any (.slice fa fs.length fc) fs plain unk fold (.slice ga G.length gc) G W (HV.out W (Below.after hbx h)) HSF1.out.1 (HTG.out W (Below.after h6x h)) HZG)
  rw [HCG.out] at HCH
  have HI := Lib.hid (fun (W : World) (h : Below wx.heap.size wx W) (cv : Value) (hr : Ints W cv cX) => sameInts_any (.slice cx cX.length cxc) cv cX cX W (HVR2 W h).2.2 hr HCL.out HCL.out)
  simp only [decide_true] at HSG HST HI
  clear a0 a1 a2 a3 HVC2 HVR2 hcut hBX f0 f1 f2 f3 HTA HLX HPXX
  obtain ⟨a0, a1, a2, a3, y0, y5, y6, y7, y8⟩ := HCX.out _ (Below.refl _ _)
  have hdx := (Below.refl wx.heap.size wx).drew
  go_upto_region 9 with fail
  clear a0 a1 a2 a3 y0 y5 y6 y7 y8
  go_region_held3 (fun wx => wx.cell? ⟨w.heap.size, 0, none⟩ = some (.slice fa fs.length fc) ∧ wx.cell? ⟨w.heap.size, 1, none⟩ = some (.bool plain) ∧ wx.cell? ⟨w.heap.size, 2, none⟩ = some (.bool unk) ∧ wx.cell? ⟨w.heap.size, 3, none⟩ = some (.int .i64 fold) ∧ wx.cell? ⟨BX, 0, none⟩ = some (.int .i64 0) ∧ wx.cell? ⟨BX, 5, none⟩ = some (.slice gx G.length gxc) ∧ wx.cell? ⟨BX, 6, none⟩ = some (.slice qx LB.length qxc) ∧ wx.cell? ⟨BX, 7, none⟩ = some (.int .i64 (L.length : Int)) ∧ wx.cell? ⟨BX, 8, none⟩ = some (.slice cx cX.length cxc))
    (first
      | (with_reducible refine HCX.out _ ?_; ((repeat (first | (with_reducible exact Below.refl _ _) | (with_reducible assumption) | ((with_reducible refine Below.alloc ?_ ?_ _); rotate_left; focus ((try simp only [World.size_alloc, size_setCell, World.heap_drewN, size_drew]); (try omega); done)) | ((with_reducible refine Below.setCell ?_ ?_ _); rotate_left; focus ((try simp only [World.size_alloc, size_setCell, World.heap_drewN, size_drew]); (try omega); done)) | (with_reducible refine Below.drewN' ?_) | (with_reducible refine Below.drew ?_))); done)))
    (first
      | (go_simp; go_at_call 35; with_reducible refine (HSG.out _ hdx).mono ?_; rintro e wg ⟨rfl, hdg⟩; have hbg : Below wx.heap.size wx wg := Below.after hdx hdg.below; have hsg := hbg.size)
      | (go_simp; go_at_call 33; (refine (HLL.out _ wg.heap.size ?_ ?_).mono ?_; (focus (((repeat (first | (with_reducible exact Below.refl _ _) | (with_reducible assumption) | ((with_reducible refine Below.alloc ?_ ?_ _); rotate_left; focus ((try simp only [World.size_alloc, size_setCell, World.heap_drewN, size_drew]); (try omega); done)) | ((with_reducible refine Below.setCell ?_ ?_ _); rotate_left; focus ((try simp only [World.size_alloc, size_setCell, World.heap_drewN, size_drew]); (try omega); done)) | (with_reducible refine Below.drewN' ?_) | (with_reducible refine Below.drew ?_))); done))); (focus (((repeat (first | (with_reducible assumption) | ((with_reducible refine heap_past' ?_ ?_); focus ((try simp only [World.size_alloc, size_setCell, World.heap_drewN, size_drew]); (try omega); done)) | ((with_reducible refine heap_at _ _ _ ?_); focus ((try simp only [World.size_alloc, size_setCell, World.heap_drewN, size_drew]); (try omega); done)) | ((with_reducible refine heap_ne' ?_ ?_); focus ((try simp only [World.size_alloc, size_setCell, World.heap_drewN, size_drew]); (try omega); done)) | (with_reducible refine heap_drew' ?_) | (with_reducible refine heap_drew1' ?_))); done)))); rintro e wq ⟨⟨rv, rfl, htq⟩, hbq⟩; have hCq : Below wx.heap.size wx wq := Below.after (by ((repeat (first | (with_reducible exact Below.refl _ _) | (with_reducible assumption) | ((with_reducible refine Below.alloc ?_ ?_ _); rotate_left; focus ((try simp only [World.size_alloc, size_setCell, World.heap_drewN, size_drew]); (try omega); done)) | ((with_reducible refine Below.setCell ?_ ?_ _); rotate_left; focus ((try simp only [World.size_alloc, size_setCell, World.heap_drewN, size_drew]); (try omega); done)) | (with_reducible refine Below.drewN' ?_) | (with_reducible refine Below.drew ?_))); done)) hbq; have hsq := hCq.size; obtain ⟨ra, rc, rfl, -⟩ := htq.len)
      | (go_simp; go_at_call 28; with_reducible refine (HST.out _ hCq _ htq).mono ?_; rintro e wt ⟨rfl, hdt⟩; have hbt : Below wx.heap.size wx wt := Below.after hCq hdt.below; have hst := hbt.size)
      | (go_simp; go_at_call 27; with_reducible refine (HCH.out _ hbt).mono ?_; rintro e wh ⟨cv, rfl, hrh, hbh⟩; have hCh : Below wx.heap.size wx wh := Below.after hbt hbh; have hsh := hCh.size)
      | (go_simp; go_at_call 30; with_reducible refine (HI.out _ hCh _ (Ints.ofRow hrh)).mono ?_; rintro e wi ⟨rfl, hdi⟩; have hCi : Below wx.heap.size wx wi := Below.after hCh hdi.below))
  all_goals (go_wp2_with fail)
  all_goals go_ret
  all_goals exact ⟨rfl, HW.out _ (Below.after hbx hCi)⟩
end Go.Proofs.Ytcpjdgbnfjdakaa
