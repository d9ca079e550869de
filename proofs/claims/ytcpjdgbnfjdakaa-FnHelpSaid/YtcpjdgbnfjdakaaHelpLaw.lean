/- The walk of the law FnHelp. (Printed by gen6.py.) -/
import Derived.Test.YtcpjdgbnfjdakaaComp
import Derived.Test.YtcpjdgbnfjdakaaCuts
namespace Go.Proofs.Ytcpjdgbnfjdakaa
open Go.RowKit
set_option linter.unusedVariables false
set_option linter.unusedSimpArgs false

/-- The long help, where it is no flag. -/
theorem goes_help {s : SetD} {l : List ByteArray} {r : RunD} (he : r.err.isNone = true) (hn : s.named helpT = none) : goesF s .sets (⟨#[45, 45, 104, 101, 108, 112]⟩ :: l) r = { r with err := .help } := by
  have e : (⟨#[45, 45, 104, 101, 108, 112]⟩ : ByteArray).extract 2 (⟨#[45, 45, 104, 101, 108, 112]⟩ : ByteArray).size = helpT := by decide
  have e2 : firstFrom isEq helpT 0 = 4 := by decide +kernel
  have e3 : helpT.extract 0 4 = helpT := by decide
  have e4 : byteO helpT 0 = some 104 := by decide
  have e5 : eqB helpT helpT = true := by decide +kernel
  rw [goesF_long he (by decide) (by decide) (by decide)]
  have q : longF s .sets (⟨#[45, 45, 104, 101, 108, 112]⟩ : ByteArray) l r = ({ r with err := .help }, l) := by
    simp only [longF, e, e2, e3, e4, e5, hn]
    rfl
  rw [q]
  exact goes_err rfl
/-- The short help, where it is no flag. -/
theorem goes_h {s : SetD} {l : List ByteArray} {r : RunD} (he : r.err.isNone = true) (hn : s.lettered 104 = none) : goesF s .sets (⟨#[45, 104]⟩ :: l) r = { r with err := .help } := by
  have e : (⟨#[45, 104]⟩ : ByteArray).extract 1 (⟨#[45, 104]⟩ : ByteArray).size = ⟨#[104]⟩ := by decide
  have e1 : ((⟨#[104]⟩ : ByteArray).extract 0 5).toList = [104] := by decide +kernel
  have e4 : byteO ⟨#[104]⟩ 0 = some 104 := by decide
  rw [goesF_short he (by decide) (by decide), e]
  have q : (shortsF s .sets ⟨#[104]⟩ l r).1 = { r with err := .help } := by
    rw [shortsF, show (⟨#[104]⟩ : ByteArray).size = 1 from rfl, shortsN, if_neg (by decide), if_neg (by simp [he])]
    have q1 : shortF s .sets ⟨#[104]⟩ l r = ({ r with err := .help }, (⟨#[104]⟩ : ByteArray).extract 1 (⟨#[104]⟩ : ByteArray).size, l) := by
      simp only [shortF, e1, e4, Option.getD_some, hn]
      rfl
    rw [q1]
    rfl
  rw [q]
  exact goes_err rfl

set_option maxRecDepth 100000 in
set_option maxHeartbeats 3200000 in
theorem fnHelp_law (fv vA vB : Value) (plain unk : Bool) (fold : Int) (fs : List FlagD) (A B : List ByteArray) (w : World) (hv : FlagRows w fv fs) (hfl : fs.length ≤ 9223372036854775807) (hbl : ∀ f ∈ fs, f.bad.length ≤ 9223372036854775807) (htA : Texts w vA A) (hlA : A.length ≤ 9223372036854775807) (htB : Texts w vB B) (hlB : B.length ≤ 9223372036854775807) :
    Calls Try.prog 10 #[.agg #[fv, .bool plain, .bool unk, .int .i64 fold], vA, vB] w fun e w' => e = .returned (.bool true) ∧ Below w.heap.size w w' := by
  obtain ⟨fa, fc, rfl⟩ := hv.len
  obtain ⟨aa, ac, rfl, hac⟩ := htA.len
  obtain ⟨ba, bc, rfl, hbc⟩ := htB.len
  obtain ⟨w1, hw1⟩ : ∃ w1, w.alloc (.cells #[.slice fa fs.length fc, .bool plain, .bool unk, .int .i64 fold] 24) = w1 := ⟨_, rfl⟩
  have hb1 : Below w.heap.size w w1 := by rw [← hw1]; (repeat (first | (with_reducible exact Below.refl _ _) | (with_reducible assumption) | ((with_reducible refine Below.alloc ?_ ?_ _); rotate_left; focus ((try simp only [World.size_alloc, size_setCell, World.heap_drewN]); (try omega); done)) | ((with_reducible refine Below.setCell ?_ ?_ _); rotate_left; focus ((try simp only [World.size_alloc, size_setCell, World.heap_drewN]); (try omega); done)) | (with_reducible refine Below.drewN' ?_) | (with_reducible refine Below.drew ?_)))
  have hX : w1.heap[w.heap.size]? = some (.cells #[.slice fa fs.length fc, .bool plain, .bool unk, .int .i64 fold] 24 (0, 0)) := by rw [← hw1]; exact heap_at _ _ _ rfl
  have cells : ∀ w', Below w1.heap.size w1 w' → w'.cell? ⟨w.heap.size, 0, none⟩ = some (.slice fa fs.length fc) ∧ w'.cell? ⟨w.heap.size, 1, none⟩ = some (.bool plain) ∧ w'.cell? ⟨w.heap.size, 2, none⟩ = some (.bool unk) ∧ w'.cell? ⟨w.heap.size, 3, none⟩ = some (.int .i64 fold) := fun w' h => by
    have e := (h.block _ (lt_of_block hX)).trans hX
    simp only [World.cell?, e]
    exact ⟨rfl, rfl, rfl, rfl⟩
  have hbW : ∀ w', Below w1.heap.size w1 w' → Below w.heap.size w w' := fun w' h => Below.after hb1 h
  have HC := Lib.hid cells
  have HW := Lib.hid hbW
  have HV := Lib.hid (fun W (h : Below w1.heap.size w1 W) => hv.later (Below.after hb1 h).block)
  have HTA := Lib.hid (fun W (h : Below w1.heap.size w1 W) => htA.later (Below.after hb1 h).block)
  have HTB := Lib.hid (fun W (h : Below w1.heap.size w1 W) => htB.later (Below.after hb1 h).block)
  obtain ⟨a0, a1, a2, a3⟩ := cells w1 (Below.refl _ _)
  have F19 := fits19_any (.slice fa fs.length fc) plain unk fold fs w1 (hv.later hb1.block) hfl hbl
  clear cells hbW hv htA htB hX hb1
  go_enter Try.func10, Try.ntmps10
  go_wp2_with fail
  refine F19.mono ?_
  rintro e w2 ⟨⟨b2, rfl, hsf⟩, hb2⟩
  have HSF := Lib.hid hsf
  clear hsf F19 hw1 a0 a1 a2 a3
  obtain rfl | rfl : b2 = false ∨ b2 = true := by cases b2 <;> simp
  · go_wp2_with fail
    go_ret
    exact ⟨rfl, HW.out _ hb2⟩
  have HSF1 := Lib.hid (HSF.out (by trivial))
  clear HSF
  have F2 := fits2_any (.slice aa A.length ac) A w2 (HTA.out _ hb2).strs hlA
  go_wp2_with fail
  refine F2.mono ?_
  rintro e w2 ⟨⟨b3, rfl, hsl⟩, rfl⟩
  have HSL := Lib.hid hsl
  clear hsl F2
  obtain rfl | rfl : b3 = false ∨ b3 = true := by cases b3 <;> simp
  · go_wp2_with fail
    go_ret
    exact ⟨rfl, HW.out _ hb2⟩
  have HSLA := Lib.hid (HSL.out (by trivial))
  clear HSL
  have F2 := fits2_any (.slice ba B.length bc) B w2 (HTB.out _ hb2).strs hlB
  go_wp2_with fail
  refine F2.mono ?_
  rintro e w2 ⟨⟨b3, rfl, hsl⟩, rfl⟩
  have HSL := Lib.hid hsl
  clear hsl F2
  obtain rfl | rfl : b3 = false ∨ b3 = true := by cases b3 <;> simp
  · go_wp2_with fail
    go_ret
    exact ⟨rfl, HW.out _ hb2⟩
  have HSLB := Lib.hid (HSL.out (by trivial))
  clear HSL
  obtain ⟨a0, a1, a2, a3⟩ := HC.out _ hb2
  have FR := right_any (.slice fa fs.length fc) fs plain unk fold w2 (HV.out _ hb2) HSF1.out.1 (fun f hf => ⟨(HSF1.out.2 f hf).1, (HSF1.out.2 f hf).2.1⟩)
  go_wp2_with fail
  refine FR.mono ?_
  rintro e w4 ⟨⟨b4, rfl, hr⟩, hb4⟩
  have hb4 := Below.after hb2 hb4
  have HR := Lib.hid hr
  clear hr FR a0 a1 a2 a3 hb2
  obtain rfl | rfl : b4 = false ∨ b4 = true := by cases b4 <;> simp
  · go_wp2_with fail
    refine (lives14_any _).mono ?_
    rintro e w9 ⟨rfl, hb9⟩
    go_wp2_with fail
    go_ret
    exact ⟨rfl, HW.out _ (Below.after hb4 hb9)⟩
  have HR1 := Lib.hid (HR.out (by trivial))
  clear HR
  have hb5 := Below.after hb4 ((Below.refl _ w4).alloc (Nat.le_refl _) (.cells #[.slice aa A.length ac, .slice ba B.length bc] 25))
  have F14 := fits14_any (.slice (some ⟨w4.heap.size, 0, none⟩) 2 2) [A, B] (w4.alloc (.cells #[.slice aa A.length ac, .slice ba B.length bc] 25)) (StrRows.made2 (ty := 25) (fz := (0, 0)) 2 (heap_at _ _ _ rfl) (HTA.out _ hb5).strs (HTB.out _ hb5).strs) (by simp) (by intro l' h'; simp only [List.mem_cons, List.not_mem_nil, or_false] at h'; rcases h' with rfl | rfl; exact HSLA.out; exact HSLB.out)
  go_wp2_with fail
  refine F14.mono ?_
  rintro e w5 ⟨rfl, rfl⟩
  obtain hf | hf : fitsF [A, B] = false ∨ fitsF [A, B] = true := by cases fitsF [A, B] <;> simp
  · rw [hf]
    go_wp2_with fail
    refine (lives14_any _).mono ?_
    rintro e w9 ⟨rfl, hb9⟩
    go_wp2_with fail
    go_ret
    exact ⟨rfl, HW.out _ (Below.after hb5 hb9)⟩
  rw [hf]
  obtain ⟨fA, fB⟩ := fits_two hf
  have hlA2 : A.length ≤ 1048576 := Nat.le_trans (len_bytesOf A) fA
  have hlB2 : B.length ≤ 1048576 := Nat.le_trans (len_bytesOf B) fB
  obtain ⟨a0, a1, a2, a3⟩ := HC.out _ hb5
  obtain ⟨rq, r0, r3⟩ := HR1.out
  obtain ⟨e1, e2⟩ := and_bits fold r0 r3
  have RP := right_of (plain := plain) (unk := unk) rq r0 r3 HSF1.out
  generalize w4.alloc (.cells #[.slice aa A.length ac, .slice ba B.length bc] 25) = w5 at *
  have HRP := Lib.hid RP
  have HRQ := Lib.hid rq
  have HE1 := Lib.hid e1
  have HE2 := Lib.hid e2
  clear F14 rq RP e1 e2 HR1 hb4 hf
  have FC := complete14_any (.slice fa fs.length fc) (.slice aa A.length ac) plain unk fold (setD fs plain unk fold) w5 (HV.out _ hb5) rfl rfl rfl rfl HRP.out A (HTA.out _ hb5) (wide HSLA.out.2) hlA2 fA
  go_wp2_with fail
  refine FC.mono ?_
  rintro e w6 ⟨⟨b6, rfl, hwh⟩, hb6⟩
  have hb6 := Below.after hb5 hb6
  have HWH := Lib.hid hwh
  clear FC hwh a0 a1 a2 a3
  obtain rfl | rfl : b6 = false ∨ b6 = true := by cases b6 <;> simp
  · go_wp2_with fail
    refine (lives14_any _).mono ?_
    rintro e w9 ⟨rfl, hb9⟩
    go_wp2_with fail
    go_ret
    exact ⟨rfl, HW.out _ (Below.after hb6 hb9)⟩
  have HWA := Lib.hid (HWH.out (by trivial))
  clear HWH
  obtain ⟨a0, a1, a2, a3⟩ := HC.out _ hb6
  have HPX : Hid (∀ W v, Below w1.heap.size w1 W → Texts W v (A ++ ([(⟨#[45, 45, 104, 101, 108, 112]⟩ : ByteArray)] ++ B)) → Calls Try.prog 20 #[.agg #[.slice fa fs.length fc, .bool plain, .bool unk, .int .i64 fold], v] W fun e w' => HeardOwn e w' W.heap.size (goesF (setD fs plain unk fold) .sets (A ++ ([(⟨#[45, 45, 104, 101, 108, 112]⟩ : ByteArray)] ++ B)) begin0) (chgU (goesF (setD fs plain unk fold) .sets (A ++ ([(⟨#[45, 45, 104, 101, 108, 112]⟩ : ByteArray)] ++ B)) begin0).given fs.length) ∧ Below W.heap.size W w') :=
    Lib.hid (fun W v hb ht => implParse_own (.slice fa fs.length fc) v plain unk fold (setD fs plain unk fold) W (HV.out _ hb) rfl rfl rfl rfl HRP.out _ ht (by intro t h; rcases List.mem_append.1 h with h | h; exact wide HSLA.out.2 t h; rcases List.mem_append.1 h with h | h; (simp only [List.mem_singleton] at h; subst h; decide); exact wide HSLB.out.2 t h) (by simp only [List.length_append, List.length_singleton]; omega) (by rw [bytesOf_append, bytesOf_append]; have : bytesOf [(⟨#[45, 45, 104, 101, 108, 112]⟩ : ByteArray)] = 7 := rfl; omega))
  have HPY : Hid (∀ W v, Below w1.heap.size w1 W → Texts W v (A ++ ([(⟨#[45, 104]⟩ : ByteArray)] ++ B)) → Calls Try.prog 20 #[.agg #[.slice fa fs.length fc, .bool plain, .bool unk, .int .i64 fold], v] W fun e w' => HeardOwn e w' W.heap.size (goesF (setD fs plain unk fold) .sets (A ++ ([(⟨#[45, 104]⟩ : ByteArray)] ++ B)) begin0) (chgU (goesF (setD fs plain unk fold) .sets (A ++ ([(⟨#[45, 104]⟩ : ByteArray)] ++ B)) begin0).given fs.length) ∧ Below W.heap.size W w') :=
    Lib.hid (fun W v hb ht => implParse_own (.slice fa fs.length fc) v plain unk fold (setD fs plain unk fold) W (HV.out _ hb) rfl rfl rfl rfl HRP.out _ ht (by intro t h; rcases List.mem_append.1 h with h | h; exact wide HSLA.out.2 t h; rcases List.mem_append.1 h with h | h; (simp only [List.mem_singleton] at h; subst h; decide); exact wide HSLB.out.2 t h) (by simp only [List.length_append, List.length_singleton]; omega) (by rw [bytesOf_append, bytesOf_append]; have : bytesOf [(⟨#[45, 104]⟩ : ByteArray)] = 3 := rfl; omega))
  have HPA : Hid (∀ W v, Below w1.heap.size w1 W → Texts W v (A) → Calls Try.prog 20 #[.agg #[.slice fa fs.length fc, .bool plain, .bool unk, .int .i64 fold], v] W fun e w' => HeardOwn e w' W.heap.size (goesF (setD fs plain unk fold) .sets (A) begin0) (chgU (goesF (setD fs plain unk fold) .sets (A) begin0).given fs.length) ∧ Below W.heap.size W w') :=
    Lib.hid (fun W v hb ht => implParse_own (.slice fa fs.length fc) v plain unk fold (setD fs plain unk fold) W (HV.out _ hb) rfl rfl rfl rfl HRP.out _ ht (wide HSLA.out.2) (by omega) (by omega))
  obtain ⟨rA, hrA⟩ : ∃ r, goesF (setD fs plain unk fold) .sets A begin0 = r := ⟨_, rfl⟩
  have hn1 : rA.err.isNone = true := by rw [← hrA, HWA.out.err]; rfl
  have GX : (setD fs plain unk fold).named helpT = none → goesF (setD fs plain unk fold) .sets (A ++ ([(⟨#[45, 45, 104, 101, 108, 112]⟩ : ByteArray)] ++ B)) begin0 = { rA with err := .help } := fun h => by rw [HWA.out.on, hrA]; exact goes_help hn1 h
  have GY : (setD fs plain unk fold).lettered 104 = none → goesF (setD fs plain unk fold) .sets (A ++ ([(⟨#[45, 104]⟩ : ByteArray)] ++ B)) begin0 = { rA with err := .help } := fun h => by rw [HWA.out.on, hrA]; exact goes_h hn1 h
  have z1 := run_sizes (setD fs plain unk fold) .sets A fA
  have HPA' := HPA.out
  rw [hrA] at HPA' z1
  have HPA := Lib.hid HPA'
  have HZ1 := Lib.hid z1
  have HGX := Lib.hid GX
  have HGY := Lib.hid GY
  have HN := Lib.hid (fun W (hb : Below w1.heap.size w1 W) => named_any (.slice fa fs.length fc) fs plain unk fold (setD fs plain unk fold) rfl HE1.out.symm HE2.out.symm helpT (by decide) W (HV.out W hb) HSF1.out.1 (fun f hf => (HSF1.out.2 f hf).1))
  have HLT := Lib.hid (fun W (hb : Below w1.heap.size w1 W) => lettered_any (.slice fa fs.length fc) fs plain unk fold (setD fs plain unk fold) rfl 104 W (HV.out W hb) HSF1.out.1 (fun f hf => (HSF1.out.2 f hf).2.1))
  obtain ⟨cA, hcA⟩ : ∃ c, chgU rA.given fs.length = c := ⟨_, rfl⟩
  have HPA' := HPA.out
  rw [hcA] at HPA'
  have HPA := Lib.hid HPA'
  have HCA := Lib.hid hcA
  have hllx : ∀ x : ByteArray, (A ++ ([x] ++ B)).length ≤ 1099511627776 := fun x => by simp only [List.length_append, List.length_singleton]; omega
  have HLX0 : ∀ (x : ByteArray) (W : World) (p q : Nat), Below w1.heap.size w1 W → W.heap[p]? = some (.cells #[.slice aa A.length ac, .slice (some ⟨q, 0, none⟩) 1 1, .slice ba B.length bc] 25 (0, 0)) → W.heap[q]? = some (.cells #[.string x] 9 (0, 0)) → Calls Try.prog 33 #[.slice (some ⟨p, 0, none⟩) 3 3] W fun e w' => (∃ rv, e = .returned rv ∧ Texts w' rv (A ++ ([x] ++ B))) ∧ Below W.heap.size W w' :=
    fun x W p q hb h1 h2 => list3h_any _ _ _ W p h1 (HTA.out W hb).strs (Strs.made [x] 1 h2) (HTB.out W hb).strs (hllx x)
  have HLX1 := HLX0 ⟨#[45, 45, 104, 101, 108, 112]⟩
  have HLY1 := HLX0 ⟨#[45, 104]⟩
  have HX1 := HPX.out
  have HY1 := HPY.out
  have GX1 := HGX.out
  have GY1 := HGY.out
  generalize A ++ ([(⟨#[45, 45, 104, 101, 108, 112]⟩ : ByteArray)] ++ B) = lx at HLX1 HX1 GX1
  generalize A ++ ([(⟨#[45, 104]⟩ : ByteArray)] ++ B) = ly at HLY1 HY1 GY1
  have HLX := Lib.hid HLX1
  have HLY := Lib.hid HLY1
  have HXX := Lib.hid HX1
  have HYY := Lib.hid HY1
  have HGX := Lib.hid GX1
  have HGY := Lib.hid GY1
  clear HPX HPY HLX0 HLX1 HLY1 HX1 HY1 GX1 GY1 GX GY HPA' hllx z1 hn1 hrA hcA HWA
  go_upto_region 5 with fail
  go_cut [7] from 40 to 43 (fun v wx => HeardVar w6 w6.heap.size wx v rA cA)
  case first =>
    go_wp2_with fail
    refine (HPA.out _ _ hb6 (HTA.out _ hb6)).mono ?_
    rintro e wq ⟨⟨ga, gc, aa', ac', ca, cc, rfl, hrows⟩, hbq⟩
    have HVQ := Lib.hid (heardVar_new (base := w6.heap.size) hbq hbq.size hrows)
    simp only [hCells]
    clear hrows
    go_wp2_with fail
    go_meet
    exact HVQ.out
  case rest =>
  obtain ⟨BA, ga, gc, qa, qc, ca, cc, rfl, hBA, HVC, HVR, hbA⟩ := hcut.cells
  obtain ⟨w7, rfl⟩ : ∃ w7 : World, w7 = wc := ⟨_, rfl⟩
  have HVC' := Lib.hid HVC
  have HVR' := Lib.hid HVR
  have hb7 := Below.after hb6 hbA
  clear a0 a1 a2 a3 HVC HVR hcut hBA HPA
  obtain ⟨a0, a1, a2, a3⟩ := HC.out _ hb7
  go_wp2_with fail
  refine (HN.out _ hb7).mono ?_
  rintro e w8 ⟨rfl, hb8'⟩
  have hb8 := Below.after hb7 hb8'
  obtain ⟨pI, hpI⟩ : ∃ p, placeI ((setD fs plain unk fold).named helpT) = p := ⟨_, rfl⟩
  rw [hpI]
  have HPI : Hid (pI < 0 → (setD fs plain unk fold).named helpT = none) := Lib.hid (by
    intro h
    rw [← hpI] at h
    cases hq : (setD fs plain unk fold).named helpT with
    | none => rfl
    | some i => rw [hq] at h; simp only [placeI] at h; omega)
  clear a0 a1 a2 a3 hpI
  go_upto_if 45 with fail
  go_cut [] from 45 to 72 (fun wx => Below w8.heap.size w8 wx)
  case first =>
    by_cases hp : pI < 0
    · have hnm := HPI.out hp
      have HX := HXX.out
      rw [HGX.out hnm] at HX
      obtain ⟨rX, hrX⟩ : ∃ r : RunD, { rA with err := .help } = r := ⟨_, rfl⟩
      rw [hrX] at HX
      have F1 : Hid ((rX.err.kind != 1) = false ∧ rX.given = rA.given ∧ rX.args = rA.args) := Lib.hid (by rw [← hrX]; exact ⟨rfl, rfl, rfl⟩)
      obtain ⟨cX, hcX⟩ : ∃ c, chgU rX.given fs.length = c := ⟨_, rfl⟩
      rw [hcX] at HX
      have HXP := Lib.hid HX
      obtain ⟨a0, a1, a2, a3⟩ := HC.out _ hb8
      clear HX hnm hrX hcX
      rw [decide_eq_true hp]
      clear hp
      have hwbd := hb8.drew
      have hwbs := hb8.size
      go_upto_region 7 with fail
      go_cut [8] from 46 to 53 (fun v wx => HeardVar w8 w8.heap.size wx v rX cX)
      case first =>
        go_region_held3 (fun wx => wx.cell? ⟨w.heap.size, 0, none⟩ = some (.slice fa fs.length fc) ∧ wx.cell? ⟨w.heap.size, 1, none⟩ = some (.bool plain) ∧ wx.cell? ⟨w.heap.size, 2, none⟩ = some (.bool unk) ∧ wx.cell? ⟨w.heap.size, 3, none⟩ = some (.int .i64 fold))
          (first
            | (with_reducible refine HC.out _ ?_; ((repeat (first | (with_reducible exact Below.refl _ _) | (with_reducible assumption) | ((with_reducible refine Below.alloc ?_ ?_ _); rotate_left; focus ((try simp only [World.size_alloc, size_setCell, World.heap_drewN, size_drew]); (try omega); done)) | ((with_reducible refine Below.setCell ?_ ?_ _); rotate_left; focus ((try simp only [World.size_alloc, size_setCell, World.heap_drewN, size_drew]); (try omega); done)) | (with_reducible refine Below.drewN' ?_) | (with_reducible refine Below.drew ?_))); done)))
          (first
            | (go_simp; go_at_call 33; (first | (refine (HLX.out _ _ w8.heap.size ?_ ?_ ?_).mono ?_; (focus (((repeat (first | (with_reducible exact Below.refl _ _) | (with_reducible assumption) | ((with_reducible refine Below.alloc ?_ ?_ _); rotate_left; focus ((try simp only [World.size_alloc, size_setCell, World.heap_drewN, size_drew]); (try omega); done)) | ((with_reducible refine Below.setCell ?_ ?_ _); rotate_left; focus ((try simp only [World.size_alloc, size_setCell, World.heap_drewN, size_drew]); (try omega); done)) | (with_reducible refine Below.drewN' ?_) | (with_reducible refine Below.drew ?_))); done))); (focus (((repeat (first | (with_reducible assumption) | ((with_reducible refine heap_past' ?_ ?_); focus ((try simp only [World.size_alloc, size_setCell, World.heap_drewN, size_drew]); (try omega); done)) | ((with_reducible refine heap_at _ _ _ ?_); focus ((try simp only [World.size_alloc, size_setCell, World.heap_drewN, size_drew]); (try omega); done)) | ((with_reducible refine heap_ne' ?_ ?_); focus ((try simp only [World.size_alloc, size_setCell, World.heap_drewN, size_drew]); (try omega); done)) | (with_reducible refine heap_drew' ?_) | (with_reducible refine heap_drew1' ?_))); done))); (focus (((repeat (first | (with_reducible assumption) | ((with_reducible refine heap_past' ?_ ?_); focus ((try simp only [World.size_alloc, size_setCell, World.heap_drewN, size_drew]); (try omega); done)) | ((with_reducible refine heap_at _ _ _ ?_); focus ((try simp only [World.size_alloc, size_setCell, World.heap_drewN, size_drew]); (try omega); done)) | ((with_reducible refine heap_ne' ?_ ?_); focus ((try simp only [World.size_alloc, size_setCell, World.heap_drewN, size_drew]); (try omega); done)) | (with_reducible refine heap_drew' ?_) | (with_reducible refine heap_drew1' ?_))); done)))) | (refine (HLX.out _ _ (w8.heap.size + 1) ?_ ?_ ?_).mono ?_; (focus (((repeat (first | (with_reducible exact Below.refl _ _) | (with_reducible assumption) | ((with_reducible refine Below.alloc ?_ ?_ _); rotate_left; focus ((try simp only [World.size_alloc, size_setCell, World.heap_drewN, size_drew]); (try omega); done)) | ((with_reducible refine Below.setCell ?_ ?_ _); rotate_left; focus ((try simp only [World.size_alloc, size_setCell, World.heap_drewN, size_drew]); (try omega); done)) | (with_reducible refine Below.drewN' ?_) | (with_reducible refine Below.drew ?_))); done))); (focus (((repeat (first | (with_reducible assumption) | ((with_reducible refine heap_past' ?_ ?_); focus ((try simp only [World.size_alloc, size_setCell, World.heap_drewN, size_drew]); (try omega); done)) | ((with_reducible refine heap_at _ _ _ ?_); focus ((try simp only [World.size_alloc, size_setCell, World.heap_drewN, size_drew]); (try omega); done)) | ((with_reducible refine heap_ne' ?_ ?_); focus ((try simp only [World.size_alloc, size_setCell, World.heap_drewN, size_drew]); (try omega); done)) | (with_reducible refine heap_drew' ?_) | (with_reducible refine heap_drew1' ?_))); done))); (focus (((repeat (first | (with_reducible assumption) | ((with_reducible refine heap_past' ?_ ?_); focus ((try simp only [World.size_alloc, size_setCell, World.heap_drewN, size_drew]); (try omega); done)) | ((with_reducible refine heap_at _ _ _ ?_); focus ((try simp only [World.size_alloc, size_setCell, World.heap_drewN, size_drew]); (try omega); done)) | ((with_reducible refine heap_ne' ?_ ?_); focus ((try simp only [World.size_alloc, size_setCell, World.heap_drewN, size_drew]); (try omega); done)) | (with_reducible refine heap_drew' ?_) | (with_reducible refine heap_drew1' ?_))); done))))); rintro e wq ⟨⟨rv, rfl, htq⟩, hbq⟩; have hBq : Below w1.heap.size w1 wq := Below.after (by ((repeat (first | (with_reducible exact Below.refl _ _) | (with_reducible assumption) | ((with_reducible refine Below.alloc ?_ ?_ _); rotate_left; focus ((try simp only [World.size_alloc, size_setCell, World.heap_drewN, size_drew]); (try omega); done)) | ((with_reducible refine Below.setCell ?_ ?_ _); rotate_left; focus ((try simp only [World.size_alloc, size_setCell, World.heap_drewN, size_drew]); (try omega); done)) | (with_reducible refine Below.drewN' ?_) | (with_reducible refine Below.drew ?_))); done)) hbq; have hCq : Below w8.heap.size w8 wq := Below.after (by ((repeat (first | (with_reducible exact Below.refl _ _) | (with_reducible assumption) | ((with_reducible refine Below.alloc ?_ ?_ _); rotate_left; focus ((try simp only [World.size_alloc, size_setCell, World.heap_drewN, size_drew]); (try omega); done)) | ((with_reducible refine Below.setCell ?_ ?_ _); rotate_left; focus ((try simp only [World.size_alloc, size_setCell, World.heap_drewN, size_drew]); (try omega); done)) | (with_reducible refine Below.drewN' ?_) | (with_reducible refine Below.drew ?_))); done)) hbq; have hsq := hbq.size; (try simp only [World.size_alloc, World.heap_drewN, size_drew] at hsq); (first | ((refine lay (T := wq.heap[w8.heap.size]? = some (.cells zeroH 33 (0, 0))) ?_ (fun hzq => ?_)); (focus (refine (hbq.block _ ?_).trans ?_; (focus (((try simp only [World.size_alloc, size_setCell, World.heap_drewN, size_drew]); (try omega); done))); unfold zeroH; ((repeat (first | (with_reducible assumption) | ((with_reducible refine heap_past' ?_ ?_); focus ((try simp only [World.size_alloc, size_setCell, World.heap_drewN, size_drew]); (try omega); done)) | ((with_reducible refine heap_at _ _ _ ?_); focus ((try simp only [World.size_alloc, size_setCell, World.heap_drewN, size_drew]); (try omega); done)) | ((with_reducible refine heap_ne' ?_ ?_); focus ((try simp only [World.size_alloc, size_setCell, World.heap_drewN, size_drew]); (try omega); done)) | (with_reducible refine heap_drew' ?_) | (with_reducible refine heap_drew1' ?_))); done)))) | ((refine lay (T := wq.heap[w8.heap.size + 1]? = some (.cells zeroH 33 (0, 0))) ?_ (fun hzq => ?_)); (focus (refine (hbq.block _ ?_).trans ?_; (focus (((try simp only [World.size_alloc, size_setCell, World.heap_drewN, size_drew]); (try omega); done))); unfold zeroH; ((repeat (first | (with_reducible assumption) | ((with_reducible refine heap_past' ?_ ?_); focus ((try simp only [World.size_alloc, size_setCell, World.heap_drewN, size_drew]); (try omega); done)) | ((with_reducible refine heap_at _ _ _ ?_); focus ((try simp only [World.size_alloc, size_setCell, World.heap_drewN, size_drew]); (try omega); done)) | ((with_reducible refine heap_ne' ?_ ?_); focus ((try simp only [World.size_alloc, size_setCell, World.heap_drewN, size_drew]); (try omega); done)) | (with_reducible refine heap_drew' ?_) | (with_reducible refine heap_drew1' ?_))); done)))) | ((refine lay (T := wq.heap[w8.heap.size + 1 + 1]? = some (.cells zeroH 33 (0, 0))) ?_ (fun hzq => ?_)); (focus (refine (hbq.block _ ?_).trans ?_; (focus (((try simp only [World.size_alloc, size_setCell, World.heap_drewN, size_drew]); (try omega); done))); unfold zeroH; ((repeat (first | (with_reducible assumption) | ((with_reducible refine heap_past' ?_ ?_); focus ((try simp only [World.size_alloc, size_setCell, World.heap_drewN, size_drew]); (try omega); done)) | ((with_reducible refine heap_at _ _ _ ?_); focus ((try simp only [World.size_alloc, size_setCell, World.heap_drewN, size_drew]); (try omega); done)) | ((with_reducible refine heap_ne' ?_ ?_); focus ((try simp only [World.size_alloc, size_setCell, World.heap_drewN, size_drew]); (try omega); done)) | (with_reducible refine heap_drew' ?_) | (with_reducible refine heap_drew1' ?_))); done)))) | skip); obtain ⟨ra, rc, rfl, -⟩ := htq.len)
            | (go_simp; go_at_call 20; refine (HXP.out _ _ ?_ ?_).mono ?_; (focus (((repeat (first | (with_reducible exact Below.refl _ _) | (with_reducible assumption) | ((with_reducible refine Below.alloc ?_ ?_ _); rotate_left; focus ((try simp only [World.size_alloc, size_setCell, World.heap_drewN, size_drew]); (try omega); done)) | ((with_reducible refine Below.setCell ?_ ?_ _); rotate_left; focus ((try simp only [World.size_alloc, size_setCell, World.heap_drewN, size_drew]); (try omega); done)) | (with_reducible refine Below.drewN' ?_) | (with_reducible refine Below.drew ?_))); done))); (focus (first | exact htq | exact htq.later (Below.alloc (Below.refl _ _) (Nat.le_refl _) _).block)); rintro e wr ⟨⟨ga', gc', aa', ac', ca', cc', rfl, hrows⟩, hbr⟩; have hBr : Below w1.heap.size w1 wr := Below.after (by ((repeat (first | (with_reducible exact Below.refl _ _) | (with_reducible assumption) | ((with_reducible refine Below.alloc ?_ ?_ _); rotate_left; focus ((try simp only [World.size_alloc, size_setCell, World.heap_drewN, size_drew]); (try omega); done)) | ((with_reducible refine Below.setCell ?_ ?_ _); rotate_left; focus ((try simp only [World.size_alloc, size_setCell, World.heap_drewN, size_drew]); (try omega); done)) | (with_reducible refine Below.drewN' ?_) | (with_reducible refine Below.drew ?_))); done)) hbr; have hCr : Below w8.heap.size w8 wr := Below.after (by ((repeat (first | (with_reducible exact Below.refl _ _) | (with_reducible assumption) | ((with_reducible refine Below.alloc ?_ ?_ _); rotate_left; focus ((try simp only [World.size_alloc, size_setCell, World.heap_drewN, size_drew]); (try omega); done)) | ((with_reducible refine Below.setCell ?_ ?_ _); rotate_left; focus ((try simp only [World.size_alloc, size_setCell, World.heap_drewN, size_drew]); (try omega); done)) | (with_reducible refine Below.drewN' ?_) | (with_reducible refine Below.drew ?_))); done)) hbr; have hss := hCr.size; have hsr := hbr.size; (try simp only [World.size_alloc, World.heap_drewN, size_drew] at hsr); (first | (have hzr := (hbr.block _ (lt_of_block hzq)).trans hzq) | ((refine lay (T := wr.heap[wq.heap.size]? = some (.cells zeroH 33 (0, 0))) ?_ (fun hzr => ?_)); (focus (refine (hbr.block _ ?_).trans ?_; (focus (((try simp only [World.size_alloc, size_setCell, World.heap_drewN, size_drew]); (try omega); done))); unfold zeroH; ((repeat (first | (with_reducible assumption) | ((with_reducible refine heap_past' ?_ ?_); focus ((try simp only [World.size_alloc, size_setCell, World.heap_drewN, size_drew]); (try omega); done)) | ((with_reducible refine heap_at _ _ _ ?_); focus ((try simp only [World.size_alloc, size_setCell, World.heap_drewN, size_drew]); (try omega); done)) | ((with_reducible refine heap_ne' ?_ ?_); focus ((try simp only [World.size_alloc, size_setCell, World.heap_drewN, size_drew]); (try omega); done)) | (with_reducible refine heap_drew' ?_) | (with_reducible refine heap_drew1' ?_))); done)))) | skip); simp only [hCells]; (first | (have x0 := cell_of hzr 0 (.int .i64 0) rfl; have x1 := cell_of hzr 1 (.string ⟨#[]⟩) rfl; have x2 := cell_of hzr 2 (.string ⟨#[]⟩) rfl; have x3 := cell_of hzr 3 (.string ⟨#[]⟩) rfl; have x4 := cell_of hzr 4 (.int .i64 0) rfl; have x5 := cell_of hzr 5 (.slice none 0 0) rfl; have x6 := cell_of hzr 6 (.slice none 0 0) rfl; have x7 := cell_of hzr 7 (.int .i64 0) rfl; have x8 := cell_of hzr 8 (.slice none 0 0) rfl; have x9 := cell_of hzr 9 (.bool false) rfl; have x10 := cell_of hzr 10 (.bool false) rfl; have xf := fun i => frozen_of hzr i) | skip)))
        all_goals (go_wp2_with fail)
        all_goals go_meet
        all_goals first
          | with_reducible exact heardVar_new hCr hss hrows
          | with_reducible exact heardVar_put hCr (by omega) hzr hrows
      case rest =>
      obtain ⟨BX, gx, gxc, qx, qxc, cx, cxc, rfl, hBX, HVC2, HVR2, hbX⟩ := hcut.cells
      obtain ⟨wx, rfl⟩ : ∃ wx : World, wx = wc := ⟨_, rfl⟩
      have hb78 := Below.after hb8' hbX
      have HSG := Lib.hid (fun W (h : Below wx.heap.size wx W) => sameGiven_any _ _ rA.given rX.given W (HVR'.out W (Below.after hb78 h)).1 (HVR2 W h).1 HZ1.out.1 (by rw [F1.out.2.1]; exact HZ1.out.1))
      have HST := Lib.hid (fun W (h : Below wx.heap.size wx W) => sameTexts_any _ _ rA.args rX.args W (HVR'.out W (Below.after hb78 h)).2.1.strs (HVR2 W h).2.1.strs HZ1.out.2 (by rw [F1.out.2.2]; exact HZ1.out.2))
      rw [decide_eq_true F1.out.2.1.symm] at HSG
      rw [decide_eq_true F1.out.2.2.symm] at HST
      have HCX := Lib.hid (fun W (h : Below wx.heap.size wx W) => (show W.cell? ⟨BX, 0, none⟩ = some (.int .i64 rX.err.kind) ∧ W.cell? ⟨BA, 5, none⟩ = some (.slice ga rA.given.length gc) ∧ W.cell? ⟨BX, 5, none⟩ = some (.slice gx rX.given.length gxc) ∧ W.cell? ⟨BA, 6, none⟩ = some (.slice qa rA.args.length qc) ∧ W.cell? ⟨BX, 6, none⟩ = some (.slice qx rX.args.length qxc) from by
        obtain ⟨p0, p1, p2, p3, p4, p5, p6, -⟩ := HVC2 W h
        obtain ⟨q0, q1, q2, q3, q4, q5, q6, -⟩ := HVC'.out W (Below.after hb78 h)
        exact ⟨p0, q5, p5, q6, p6⟩))
      have k1 := F1.out.1
      obtain ⟨y0, y1, y2, y3, y4⟩ := HCX.out _ (Below.refl _ _)
      clear a0 a1 a2 a3 HVC2 HVR2 hcut hBX
      go_wp2_with fail
      refine (HSG.out _ (Below.refl _ _)).mono ?_
      rintro e wy ⟨rfl, hdy⟩
      have hby := hdy.below
      clear y0 y1 y2 y3 y4
      obtain ⟨y0, y1, y2, y3, y4⟩ := HCX.out _ hby
      go_wp2_with fail
      refine (HST.out _ hby).mono ?_
      rintro e wz ⟨rfl, hdz⟩
      have hbz := Below.after hby hdz.below
      go_wp2_with fail
      go_meet
      exact Below.after hbX hbz
    · go_wp2_with fail
      go_meet
      exact Below.refl _ _
  case rest =>
  obtain ⟨w9, rfl⟩ : ∃ w9 : World, w9 = wc := ⟨_, rfl⟩
  have hb9 := Below.after hb8 hcut
  have hb79 := Below.after hb8' hcut
  obtain ⟨a0, a1, a2, a3⟩ := HC.out _ hb9
  go_wp2_with fail
  refine (HLT.out _ hb9).mono ?_
  rintro e w10 ⟨rfl, hb10'⟩
  have hb10 := Below.after hb9 hb10'
  have hb710 := Below.after hb79 hb10'
  obtain ⟨pJ, hpJ⟩ : ∃ p, placeI ((setD fs plain unk fold).lettered 104) = p := ⟨_, rfl⟩
  rw [hpJ]
  have HPJ : Hid (pJ < 0 → (setD fs plain unk fold).lettered 104 = none) := Lib.hid (by
    intro h
    rw [← hpJ] at h
    cases hq : (setD fs plain unk fold).lettered 104 with
    | none => rfl
    | some i => rw [hq] at h; simp only [placeI] at h; omega)
  clear a0 a1 a2 a3 hpJ hcut
  by_cases hp : pJ < 0
  case neg =>
    go_wp2_with fail
    refine (lives14_any _).mono ?_
    rintro e w9 ⟨rfl, hb9⟩
    go_wp2_with fail
    go_ret
    exact ⟨rfl, HW.out _ (Below.after hb10 hb9)⟩
  have hnm := HPJ.out hp
  have HX := HYY.out
  rw [HGY.out hnm] at HX
  obtain ⟨rX, hrX⟩ : ∃ r : RunD, { rA with err := .help } = r := ⟨_, rfl⟩
  rw [hrX] at HX
  have F1 : Hid ((rX.err.kind == 1) = true ∧ rX.given = rA.given ∧ rX.args = rA.args) := Lib.hid (by rw [← hrX]; exact ⟨rfl, rfl, rfl⟩)
  obtain ⟨cX, hcX⟩ : ∃ c, chgU rX.given fs.length = c := ⟨_, rfl⟩
  rw [hcX] at HX
  have HXP := Lib.hid HX
  obtain ⟨a0, a1, a2, a3⟩ := HC.out _ hb10
  clear HX hnm hrX hcX
  have hwbd := hb10.drew
  have hwbs := hb10.size
  go_upto_region 11 with fail
  go_cut [9] from 75 to 82 (fun v wx => HeardVar w10 w10.heap.size wx v rX cX)
  case first =>
    go_region_held3 (fun wx => wx.cell? ⟨w.heap.size, 0, none⟩ = some (.slice fa fs.length fc) ∧ wx.cell? ⟨w.heap.size, 1, none⟩ = some (.bool plain) ∧ wx.cell? ⟨w.heap.size, 2, none⟩ = some (.bool unk) ∧ wx.cell? ⟨w.heap.size, 3, none⟩ = some (.int .i64 fold))
      (first
        | (with_reducible refine HC.out _ ?_; ((repeat (first | (with_reducible exact Below.refl _ _) | (with_reducible assumption) | ((with_reducible refine Below.alloc ?_ ?_ _); rotate_left; focus ((try simp only [World.size_alloc, size_setCell, World.heap_drewN, size_drew]); (try omega); done)) | ((with_reducible refine Below.setCell ?_ ?_ _); rotate_left; focus ((try simp only [World.size_alloc, size_setCell, World.heap_drewN, size_drew]); (try omega); done)) | (with_reducible refine Below.drewN' ?_) | (with_reducible refine Below.drew ?_))); done)))
      (first
        | (go_simp; go_at_call 33; (first | (refine (HLY.out _ _ w10.heap.size ?_ ?_ ?_).mono ?_; (focus (((repeat (first | (with_reducible exact Below.refl _ _) | (with_reducible assumption) | ((with_reducible refine Below.alloc ?_ ?_ _); rotate_left; focus ((try simp only [World.size_alloc, size_setCell, World.heap_drewN, size_drew]); (try omega); done)) | ((with_reducible refine Below.setCell ?_ ?_ _); rotate_left; focus ((try simp only [World.size_alloc, size_setCell, World.heap_drewN, size_drew]); (try omega); done)) | (with_reducible refine Below.drewN' ?_) | (with_reducible refine Below.drew ?_))); done))); (focus (((repeat (first | (with_reducible assumption) | ((with_reducible refine heap_past' ?_ ?_); focus ((try simp only [World.size_alloc, size_setCell, World.heap_drewN, size_drew]); (try omega); done)) | ((with_reducible refine heap_at _ _ _ ?_); focus ((try simp only [World.size_alloc, size_setCell, World.heap_drewN, size_drew]); (try omega); done)) | ((with_reducible refine heap_ne' ?_ ?_); focus ((try simp only [World.size_alloc, size_setCell, World.heap_drewN, size_drew]); (try omega); done)) | (with_reducible refine heap_drew' ?_) | (with_reducible refine heap_drew1' ?_))); done))); (focus (((repeat (first | (with_reducible assumption) | ((with_reducible refine heap_past' ?_ ?_); focus ((try simp only [World.size_alloc, size_setCell, World.heap_drewN, size_drew]); (try omega); done)) | ((with_reducible refine heap_at _ _ _ ?_); focus ((try simp only [World.size_alloc, size_setCell, World.heap_drewN, size_drew]); (try omega); done)) | ((with_reducible refine heap_ne' ?_ ?_); focus ((try simp only [World.size_alloc, size_setCell, World.heap_drewN, size_drew]); (try omega); done)) | (with_reducible refine heap_drew' ?_) | (with_reducible refine heap_drew1' ?_))); done)))) | (refine (HLY.out _ _ (w10.heap.size + 1) ?_ ?_ ?_).mono ?_; (focus (((repeat (first | (with_reducible exact Below.refl _ _) | (with_reducible assumption) | ((with_reducible refine Below.alloc ?_ ?_ _); rotate_left; focus ((try simp only [World.size_alloc, size_setCell, World.heap_drewN, size_drew]); (try omega); done)) | ((with_reducible refine Below.setCell ?_ ?_ _); rotate_left; focus ((try simp only [World.size_alloc, size_setCell, World.heap_drewN, size_drew]); (try omega); done)) | (with_reducible refine Below.drewN' ?_) | (with_reducible refine Below.drew ?_))); done))); (focus (((repeat (first | (with_reducible assumption) | ((with_reducible refine heap_past' ?_ ?_); focus ((try simp only [World.size_alloc, size_setCell, World.heap_drewN, size_drew]); (try omega); done)) | ((with_reducible refine heap_at _ _ _ ?_); focus ((try simp only [World.size_alloc, size_setCell, World.heap_drewN, size_drew]); (try omega); done)) | ((with_reducible refine heap_ne' ?_ ?_); focus ((try simp only [World.size_alloc, size_setCell, World.heap_drewN, size_drew]); (try omega); done)) | (with_reducible refine heap_drew' ?_) | (with_reducible refine heap_drew1' ?_))); done))); (focus (((repeat (first | (with_reducible assumption) | ((with_reducible refine heap_past' ?_ ?_); focus ((try simp only [World.size_alloc, size_setCell, World.heap_drewN, size_drew]); (try omega); done)) | ((with_reducible refine heap_at _ _ _ ?_); focus ((try simp only [World.size_alloc, size_setCell, World.heap_drewN, size_drew]); (try omega); done)) | ((with_reducible refine heap_ne' ?_ ?_); focus ((try simp only [World.size_alloc, size_setCell, World.heap_drewN, size_drew]); (try omega); done)) | (with_reducible refine heap_drew' ?_) | (with_reducible refine heap_drew1' ?_))); done))))); rintro e wq ⟨⟨rv, rfl, htq⟩, hbq⟩; have hBq : Below w1.heap.size w1 wq := Below.after (by ((repeat (first | (with_reducible exact Below.refl _ _) | (with_reducible assumption) | ((with_reducible refine Below.alloc ?_ ?_ _); rotate_left; focus ((try simp only [World.size_alloc, size_setCell, World.heap_drewN, size_drew]); (try omega); done)) | ((with_reducible refine Below.setCell ?_ ?_ _); rotate_left; focus ((try simp only [World.size_alloc, size_setCell, World.heap_drewN, size_drew]); (try omega); done)) | (with_reducible refine Below.drewN' ?_) | (with_reducible refine Below.drew ?_))); done)) hbq; have hCq : Below w10.heap.size w10 wq := Below.after (by ((repeat (first | (with_reducible exact Below.refl _ _) | (with_reducible assumption) | ((with_reducible refine Below.alloc ?_ ?_ _); rotate_left; focus ((try simp only [World.size_alloc, size_setCell, World.heap_drewN, size_drew]); (try omega); done)) | ((with_reducible refine Below.setCell ?_ ?_ _); rotate_left; focus ((try simp only [World.size_alloc, size_setCell, World.heap_drewN, size_drew]); (try omega); done)) | (with_reducible refine Below.drewN' ?_) | (with_reducible refine Below.drew ?_))); done)) hbq; have hsq := hbq.size; (try simp only [World.size_alloc, World.heap_drewN, size_drew] at hsq); (first | ((refine lay (T := wq.heap[w10.heap.size]? = some (.cells zeroH 33 (0, 0))) ?_ (fun hzq => ?_)); (focus (refine (hbq.block _ ?_).trans ?_; (focus (((try simp only [World.size_alloc, size_setCell, World.heap_drewN, size_drew]); (try omega); done))); unfold zeroH; ((repeat (first | (with_reducible assumption) | ((with_reducible refine heap_past' ?_ ?_); focus ((try simp only [World.size_alloc, size_setCell, World.heap_drewN, size_drew]); (try omega); done)) | ((with_reducible refine heap_at _ _ _ ?_); focus ((try simp only [World.size_alloc, size_setCell, World.heap_drewN, size_drew]); (try omega); done)) | ((with_reducible refine heap_ne' ?_ ?_); focus ((try simp only [World.size_alloc, size_setCell, World.heap_drewN, size_drew]); (try omega); done)) | (with_reducible refine heap_drew' ?_) | (with_reducible refine heap_drew1' ?_))); done)))) | ((refine lay (T := wq.heap[w10.heap.size + 1]? = some (.cells zeroH 33 (0, 0))) ?_ (fun hzq => ?_)); (focus (refine (hbq.block _ ?_).trans ?_; (focus (((try simp only [World.size_alloc, size_setCell, World.heap_drewN, size_drew]); (try omega); done))); unfold zeroH; ((repeat (first | (with_reducible assumption) | ((with_reducible refine heap_past' ?_ ?_); focus ((try simp only [World.size_alloc, size_setCell, World.heap_drewN, size_drew]); (try omega); done)) | ((with_reducible refine heap_at _ _ _ ?_); focus ((try simp only [World.size_alloc, size_setCell, World.heap_drewN, size_drew]); (try omega); done)) | ((with_reducible refine heap_ne' ?_ ?_); focus ((try simp only [World.size_alloc, size_setCell, World.heap_drewN, size_drew]); (try omega); done)) | (with_reducible refine heap_drew' ?_) | (with_reducible refine heap_drew1' ?_))); done)))) | ((refine lay (T := wq.heap[w10.heap.size + 1 + 1]? = some (.cells zeroH 33 (0, 0))) ?_ (fun hzq => ?_)); (focus (refine (hbq.block _ ?_).trans ?_; (focus (((try simp only [World.size_alloc, size_setCell, World.heap_drewN, size_drew]); (try omega); done))); unfold zeroH; ((repeat (first | (with_reducible assumption) | ((with_reducible refine heap_past' ?_ ?_); focus ((try simp only [World.size_alloc, size_setCell, World.heap_drewN, size_drew]); (try omega); done)) | ((with_reducible refine heap_at _ _ _ ?_); focus ((try simp only [World.size_alloc, size_setCell, World.heap_drewN, size_drew]); (try omega); done)) | ((with_reducible refine heap_ne' ?_ ?_); focus ((try simp only [World.size_alloc, size_setCell, World.heap_drewN, size_drew]); (try omega); done)) | (with_reducible refine heap_drew' ?_) | (with_reducible refine heap_drew1' ?_))); done)))) | skip); obtain ⟨ra, rc, rfl, -⟩ := htq.len)
        | (go_simp; go_at_call 20; refine (HXP.out _ _ ?_ ?_).mono ?_; (focus (((repeat (first | (with_reducible exact Below.refl _ _) | (with_reducible assumption) | ((with_reducible refine Below.alloc ?_ ?_ _); rotate_left; focus ((try simp only [World.size_alloc, size_setCell, World.heap_drewN, size_drew]); (try omega); done)) | ((with_reducible refine Below.setCell ?_ ?_ _); rotate_left; focus ((try simp only [World.size_alloc, size_setCell, World.heap_drewN, size_drew]); (try omega); done)) | (with_reducible refine Below.drewN' ?_) | (with_reducible refine Below.drew ?_))); done))); (focus (first | exact htq | exact htq.later (Below.alloc (Below.refl _ _) (Nat.le_refl _) _).block)); rintro e wr ⟨⟨ga', gc', aa', ac', ca', cc', rfl, hrows⟩, hbr⟩; have hBr : Below w1.heap.size w1 wr := Below.after (by ((repeat (first | (with_reducible exact Below.refl _ _) | (with_reducible assumption) | ((with_reducible refine Below.alloc ?_ ?_ _); rotate_left; focus ((try simp only [World.size_alloc, size_setCell, World.heap_drewN, size_drew]); (try omega); done)) | ((with_reducible refine Below.setCell ?_ ?_ _); rotate_left; focus ((try simp only [World.size_alloc, size_setCell, World.heap_drewN, size_drew]); (try omega); done)) | (with_reducible refine Below.drewN' ?_) | (with_reducible refine Below.drew ?_))); done)) hbr; have hCr : Below w10.heap.size w10 wr := Below.after (by ((repeat (first | (with_reducible exact Below.refl _ _) | (with_reducible assumption) | ((with_reducible refine Below.alloc ?_ ?_ _); rotate_left; focus ((try simp only [World.size_alloc, size_setCell, World.heap_drewN, size_drew]); (try omega); done)) | ((with_reducible refine Below.setCell ?_ ?_ _); rotate_left; focus ((try simp only [World.size_alloc, size_setCell, World.heap_drewN, size_drew]); (try omega); done)) | (with_reducible refine Below.drewN' ?_) | (with_reducible refine Below.drew ?_))); done)) hbr; have hss := hCr.size; have hsr := hbr.size; (try simp only [World.size_alloc, World.heap_drewN, size_drew] at hsr); (first | (have hzr := (hbr.block _ (lt_of_block hzq)).trans hzq) | ((refine lay (T := wr.heap[wq.heap.size]? = some (.cells zeroH 33 (0, 0))) ?_ (fun hzr => ?_)); (focus (refine (hbr.block _ ?_).trans ?_; (focus (((try simp only [World.size_alloc, size_setCell, World.heap_drewN, size_drew]); (try omega); done))); unfold zeroH; ((repeat (first | (with_reducible assumption) | ((with_reducible refine heap_past' ?_ ?_); focus ((try simp only [World.size_alloc, size_setCell, World.heap_drewN, size_drew]); (try omega); done)) | ((with_reducible refine heap_at _ _ _ ?_); focus ((try simp only [World.size_alloc, size_setCell, World.heap_drewN, size_drew]); (try omega); done)) | ((with_reducible refine heap_ne' ?_ ?_); focus ((try simp only [World.size_alloc, size_setCell, World.heap_drewN, size_drew]); (try omega); done)) | (with_reducible refine heap_drew' ?_) | (with_reducible refine heap_drew1' ?_))); done)))) | skip); simp only [hCells]; (first | (have x0 := cell_of hzr 0 (.int .i64 0) rfl; have x1 := cell_of hzr 1 (.string ⟨#[]⟩) rfl; have x2 := cell_of hzr 2 (.string ⟨#[]⟩) rfl; have x3 := cell_of hzr 3 (.string ⟨#[]⟩) rfl; have x4 := cell_of hzr 4 (.int .i64 0) rfl; have x5 := cell_of hzr 5 (.slice none 0 0) rfl; have x6 := cell_of hzr 6 (.slice none 0 0) rfl; have x7 := cell_of hzr 7 (.int .i64 0) rfl; have x8 := cell_of hzr 8 (.slice none 0 0) rfl; have x9 := cell_of hzr 9 (.bool false) rfl; have x10 := cell_of hzr 10 (.bool false) rfl; have xf := fun i => frozen_of hzr i) | skip)))
    all_goals (go_wp2_with fail)
    all_goals go_meet
    all_goals first
      | with_reducible exact heardVar_new hCr hss hrows
      | with_reducible exact heardVar_put hCr (by omega) hzr hrows
  case rest =>
  obtain ⟨BX, gx, gxc, qx, qxc, cx, cxc, rfl, hBX, HVC2, HVR2, hbX⟩ := hcut.cells
  obtain ⟨wx, rfl⟩ : ∃ wx : World, wx = wc := ⟨_, rfl⟩
  have hb78 := Below.after hb710 hbX
  have hbx1 := Below.after hb10 hbX
  have HSG := Lib.hid (fun W (h : Below wx.heap.size wx W) => sameGiven_any _ _ rA.given rX.given W (HVR'.out W (Below.after hb78 h)).1 (HVR2 W h).1 HZ1.out.1 (by rw [F1.out.2.1]; exact HZ1.out.1))
  have HST := Lib.hid (fun W (h : Below wx.heap.size wx W) => sameTexts_any _ _ rA.args rX.args W (HVR'.out W (Below.after hb78 h)).2.1.strs (HVR2 W h).2.1.strs HZ1.out.2 (by rw [F1.out.2.2]; exact HZ1.out.2))
  rw [decide_eq_true F1.out.2.1.symm] at HSG
  rw [decide_eq_true F1.out.2.2.symm] at HST
  have HCX := Lib.hid (fun W (h : Below wx.heap.size wx W) => (show W.cell? ⟨BX, 0, none⟩ = some (.int .i64 rX.err.kind) ∧ W.cell? ⟨BA, 5, none⟩ = some (.slice ga rA.given.length gc) ∧ W.cell? ⟨BX, 5, none⟩ = some (.slice gx rX.given.length gxc) ∧ W.cell? ⟨BA, 6, none⟩ = some (.slice qa rA.args.length qc) ∧ W.cell? ⟨BX, 6, none⟩ = some (.slice qx rX.args.length qxc) from by
    obtain ⟨p0, p1, p2, p3, p4, p5, p6, -⟩ := HVC2 W h
    obtain ⟨q0, q1, q2, q3, q4, q5, q6, -⟩ := HVC'.out W (Below.after hb78 h)
    exact ⟨p0, q5, p5, q6, p6⟩))
  have k1 := F1.out.1
  obtain ⟨y0, y1, y2, y3, y4⟩ := HCX.out _ (Below.refl _ _)
  clear a0 a1 a2 a3 HVC2 HVR2 hcut hBX
  go_wp2_with fail
  refine (HSG.out _ (Below.refl _ _)).mono ?_
  rintro e wy ⟨rfl, hdy⟩
  have hby := hdy.below
  clear y0 y1 y2 y3 y4
  obtain ⟨y0, y1, y2, y3, y4⟩ := HCX.out _ hby
  go_wp2_with fail
  refine (HST.out _ hby).mono ?_
  rintro e wz ⟨rfl, hdz⟩
  have hbz := Below.after hby hdz.below
  go_wp2_with fail
  go_ret
  exact ⟨rfl, HW.out _ (Below.after hbx1 hbz)⟩
end Go.Proofs.Ytcpjdgbnfjdakaa
