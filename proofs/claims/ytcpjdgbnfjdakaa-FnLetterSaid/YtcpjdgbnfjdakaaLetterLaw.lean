/- The walk of the law FnLetter. (Printed by gen6.py.) -/
import Derived.Test.YtcpjdgbnfjdakaaLetters
import Derived.Test.YtcpjdgbnfjdakaaVars
import Derived.Deep.CutRange
namespace Go.Proofs.Ytcpjdgbnfjdakaa
open Go.RowKit
set_option linter.unusedVariables false
set_option linter.unusedSimpArgs false

set_option maxRecDepth 100000 in
set_option maxHeartbeats 3200000 in
theorem fnLetter_law (fv vA : Value) (plain unk : Bool) (fold : Int) (fs : List FlagD) (A : List ByteArray) (w : World) (hv : FlagRows w fv fs) (hfl : fs.length ≤ 9223372036854775807) (hbl : ∀ f ∈ fs, f.bad.length ≤ 9223372036854775807) (htA : Texts w vA A) (hlA : A.length ≤ 9223372036854775807) (i : Int) (value : ByteArray) :
    Calls Try.prog 11 #[.agg #[fv, .bool plain, .bool unk, .int .i64 fold], .int .i64 i, .string value, vA] w fun e w' => e = .returned (.bool true) ∧ Below w.heap.size w w' := by
  obtain ⟨fa, fc, rfl⟩ := hv.len
  obtain ⟨aa, ac, rfl, hac⟩ := htA.len
  obtain ⟨w1, hw1⟩ : ∃ w1, w.alloc (.cells #[.slice fa fs.length fc, .bool plain, .bool unk, .int .i64 fold] 24) = w1 := ⟨_, rfl⟩
  have hb1 : Below w.heap.size w w1 := by rw [← hw1]; (repeat (first | (with_reducible exact Below.refl _ _) | (with_reducible assumption) | ((with_reducible refine Below.alloc ?_ ?_ _); rotate_left; focus ((try simp only [World.size_alloc, size_setCell, World.heap_drewN]); (try omega); done)) | ((with_reducible refine Below.setCell ?_ ?_ _); rotate_left; focus ((try simp only [World.size_alloc, size_setCell, World.heap_drewN]); (try omega); done)) | (with_reducible refine Below.drewN' ?_) | (with_reducible refine Below.drew ?_)))
  have hX : w1.heap[w.heap.size]? = some (.cells #[.slice fa fs.length fc, .bool plain, .bool unk, .int .i64 fold] 24 (0, 0)) := by rw [← hw1]; exact heap_at _ _ _ rfl
  have cells : ∀ w', Below w1.heap.size w1 w' → w'.cell? ⟨w.heap.size, 0, none⟩ = some (.slice fa fs.length fc) ∧ w'.cell? ⟨w.heap.size, 1, none⟩ = some (.bool plain) ∧ w'.cell? ⟨w.heap.size, 2, none⟩ = some (.bool unk) ∧ w'.cell? ⟨w.heap.size, 3, none⟩ = some (.int .i64 fold) := fun w' h => by
    have e := (h.block _ (lt_of_block hX)).trans hX
    simp only [World.cell?, e]
    exact ⟨rfl, rfl, rfl, rfl⟩
  have hbW : ∀ w', Below w1.heap.size w1 w' → Below w.heap.size w w' := fun w' h => Below.after hb1 h
  have HC := Lib.hid cells
  have HW := Lib.hid hbW
  have HV := Lib.hid (fun W (h : Below w1.heap.size w1 W) => hv.later (Below.after hb1 h).block)
  have HTA := Lib.hid (fun W (h : Below w1.heap.size w1 W) => htA.later (Below.after hb1 h).block)
  obtain ⟨a0, a1, a2, a3⟩ := cells w1 (Below.refl _ _)
  have F19 := fits19_any (.slice fa fs.length fc) plain unk fold fs w1 (hv.later hb1.block) hfl hbl
  clear cells hbW hv htA hX hb1
  go_enter Try.func11, Try.ntmps11
  go_wp2_with fail
  refine F19.mono ?_
  rintro e w2 ⟨⟨b2, rfl, hsf⟩, hb2⟩
  have HSF := Lib.hid hsf
  clear hsf F19 hw1 a0 a1 a2 a3
  obtain rfl | rfl : b2 = false ∨ b2 = true := by cases b2 <;> simp
  · go_wp2_with fail
    go_ret
    exact ⟨rfl, HW.out _ hb2⟩
  have HSF1 := Lib.hid (HSF.out (by trivial))
  clear HSF
  by_cases hvz : (value.size : Int) > 2147483647
  · go_wp2_with fail
    go_ret
    exact ⟨rfl, HW.out _ hb2⟩
  have F2 := fits2_any (.slice aa A.length ac) A w2 (HTA.out _ hb2).strs hlA
  go_wp2_with fail
  refine F2.mono ?_
  rintro e w2 ⟨⟨b3, rfl, hsl⟩, rfl⟩
  have HSL := Lib.hid hsl
  clear hsl F2
  obtain rfl | rfl : b3 = false ∨ b3 = true := by cases b3 <;> simp
  · go_wp2_with fail
    go_ret
    exact ⟨rfl, HW.out _ hb2⟩
  have HSLA := Lib.hid (HSL.out (by trivial))
  clear HSL
  obtain ⟨a0, a1, a2, a3⟩ := HC.out _ hb2
  have FR := right_any (.slice fa fs.length fc) fs plain unk fold w2 (HV.out _ hb2) HSF1.out.1 (fun f hf => ⟨(HSF1.out.2 f hf).1, (HSF1.out.2 f hf).2.1⟩)
  go_wp2_with fail
  refine FR.mono ?_
  rintro e w4 ⟨⟨b4, rfl, hr⟩, hb4⟩
  have hb4 := Below.after hb2 hb4
  have HR := Lib.hid hr
  clear hr FR a0 a1 a2 a3 hb2
  obtain rfl | rfl : b4 = false ∨ b4 = true := by cases b4 <;> simp
  · go_wp2_with fail
    refine (lives14_any _).mono ?_
    rintro e w9 ⟨rfl, hb9⟩
    go_wp2_with fail
    go_ret
    exact ⟨rfl, HW.out _ (Below.after hb4 hb9)⟩
  have HR1 := Lib.hid (HR.out (by trivial))
  clear HR
  have F38 := flag14_any fa fs.length fc (.bool plain) (.bool unk) (.int .i64 fold) i w4 HSF1.out.1
  obtain ⟨a0, a1, a2, a3⟩ := HC.out _ hb4
  go_wp2_with fail
  refine F38.mono ?_
  rintro e w5 ⟨rfl, hb5⟩
  have hb5 := Below.after hb4 hb5
  clear F38 a0 a1 a2 a3 hb4
  obtain hfl | hfl : (decide (0 ≤ i) && decide (i < (fs.length : Int))) = false ∨ (decide (0 ≤ i) && decide (i < (fs.length : Int))) = true := by cases (decide (0 ≤ i) && decide (i < (fs.length : Int))) <;> simp
  · rw [hfl]
    go_wp2_with fail
    refine (lives14_any _).mono ?_
    rintro e w9 ⟨rfl, hb9⟩
    go_wp2_with fail
    go_ret
    exact ⟨rfl, HW.out _ (Below.after hb5 hb9)⟩
  rw [hfl]
  simp only [Bool.and_eq_true, decide_eq_true_eq] at hfl
  obtain ⟨k, rfl⟩ : ∃ k : Nat, i = (k : Int) := ⟨i.toNat, by omega⟩
  have hk : k < fs.length := by omega
  obtain ⟨nb, nof, ba, bc, rfl, hnb, p0, p1, p2, -⟩ := (HV.out _ (Below.refl _ _)).row hk
  have HN : Hid (∀ w', Below w1.heap.size w1 w' → (w'.cell? ⟨w.heap.size, 0, none⟩ = some (.slice (some ⟨nb, nof, none⟩) fs.length fc) ∧ w'.cell? ⟨w.heap.size, 1, none⟩ = some (.bool plain) ∧ w'.cell? ⟨w.heap.size, 2, none⟩ = some (.bool unk) ∧ w'.cell? ⟨w.heap.size, 3, none⟩ = some (.int .i64 fold) ∧ w'.cell? ⟨nb, nof + k * 4 + 1, none⟩ = some (.string fs[k].short) ∧ w'.cell? ⟨nb, nof + k * 4 + 2, none⟩ = some (.string fs[k].noopt))) := Lib.hid (fun w' h => by
    obtain ⟨b0, b1, b2, b3⟩ := HC.out w' h
    have hcell : ∀ o, w'.cell? ⟨nb, o, none⟩ = w1.cell? ⟨nb, o, none⟩ := fun o => by simp only [World.cell?, h.block _ hnb]
    exact ⟨b0, b1, b2, b3, (hcell _).trans p1, (hcell _).trans p2⟩)
  clear p0 p1 p2
  obtain ⟨a0, a1, a2, a3, a4, a5⟩ := HN.out _ hb5
  obtain hsh | hsh : fs[k].short.toList.isEmpty = true ∨ fs[k].short.toList.isEmpty = false := by cases fs[k].short.toList.isEmpty <;> simp
  · go_wp2_with fail
    refine (lives14_any _).mono ?_
    rintro e w9 ⟨rfl, hb9⟩
    go_wp2_with fail
    go_ret
    exact ⟨rfl, HW.out _ (Below.after hb5 hb9)⟩
  have hs1 : 0 < fs[k].short.size := by
    by_cases h : 0 < fs[k].short.size
    · exact h
    · rw [isEmpty_yes h] at hsh; exact absurd hsh (by decide)
  obtain hve | hve : value.toList.isEmpty = true ∨ value.toList.isEmpty = false := by cases value.toList.isEmpty <;> simp
  · go_wp2_with fail
    refine (lives14_any _).mono ?_
    rintro e w9 ⟨rfl, hb9⟩
    go_wp2_with fail
    go_ret
    exact ⟨rfl, HW.out _ (Below.after hb5 hb9)⟩
  have hv1 : 0 < value.size := by
    by_cases h : 0 < value.size
    · exact h
    · rw [isEmpty_yes h] at hve; exact absurd hve (by decide)
  have hb6 := below_alloc1 (below_alloc1 hb5 (.cells #[.string value] 9)) (.cells #[.slice aa A.length ac, .slice (some ⟨w5.heap.size, 0, none⟩) 1 1] 25)
  have F14 := fits14_any (.slice (some ⟨w5.heap.size + 1, 0, none⟩) 2 2) [A, [value]] ((w5.alloc (.cells #[.string value] 9)).alloc (.cells #[.slice aa A.length ac, .slice (some ⟨w5.heap.size, 0, none⟩) 1 1] 25)) (StrRows.made2 (ty := 25) (fz := (0, 0)) 2 (heap_at _ _ _ (by simp)) (HTA.out _ hb6).strs (Strs.made [value] 1 (heap_past' (by simp) (heap_at _ _ _ rfl)))) (by simp) (by intro l' h'; simp only [List.mem_cons, List.not_mem_nil, or_false] at h'; rcases h' with rfl | rfl; exact HSLA.out; exact ⟨by simp, by intro t h; simp only [List.mem_singleton] at h; subst h; omega⟩)
  go_wp2_with fail
  refine F14.mono ?_
  rintro e w7 ⟨rfl, rfl⟩
  obtain hf | hf : fitsF [A, [value]] = false ∨ fitsF [A, [value]] = true := by cases fitsF [A, [value]] <;> simp
  · rw [hf]
    go_wp2_with fail
    refine (lives14_any _).mono ?_
    rintro e w9 ⟨rfl, hb9⟩
    go_wp2_with fail
    go_ret
    exact ⟨rfl, HW.out _ (Below.after hb6 hb9)⟩
  rw [hf]
  obtain ⟨fA, fB⟩ := fits_two hf
  have hvb : value.size ≤ 1048576 := by rw [bytesOf_cons] at fB; omega
  have hlA2 : A.length ≤ 1048576 := Nat.le_trans (len_bytesOf A) fA
  obtain ⟨rq, r0, r3⟩ := HR1.out
  have RP := right_of (plain := plain) (unk := unk) rq r0 r3 HSF1.out
  have HRP := Lib.hid RP
  have hn : fs[k].name.size ≤ 2147483647 := (HSF1.out.2 fs[k] (List.getElem_mem hk)).1
  have hss1 : fs[k].short.size ≤ 2147483647 := (HSF1.out.2 fs[k] (List.getElem_mem hk)).2.1
  obtain ⟨r, hr⟩ : ∃ r, goesF (setD fs plain unk fold) .sets A (giveF (setD fs plain unk fold) .sets k value begin0) = r := ⟨_, rfl⟩
  have G1 : goesF (setD fs plain unk fold) .sets (longT fs[k].name value :: A) begin0 = r := (goes_eq (s := setD fs plain unk fold) (w := .sets) RP rq hk value A begin0 rfl).trans hr
  have G2 : goesF (setD fs plain unk fold) .sets ((((⟨#[45]⟩ : ByteArray) ++ fs[k].short) ++ ⟨#[61]⟩ ++ value) :: A) begin0 = r := (goes_letter_eq (s := setD fs plain unk fold) (w := .sets) RP rq hk hs1 value hv1 A begin0 rfl).trans hr
  have G3 : fs[k].noopt.size = 0 → goesF (setD fs plain unk fold) .sets (((⟨#[45]⟩ : ByteArray) ++ fs[k].short) :: value :: A) begin0 = r := fun h => (goes_letter_next (s := setD fs plain unk fold) (w := .sets) RP rq hk hs1 h value A begin0 rfl).trans hr
  have G4 : fs[k].noopt.size = 0 → byteO value 0 ≠ some 61 → ¬ ((fs[k].short ++ value).extract 0 5).toList = [116, 101, 115, 116, 46] → goesF (setD fs plain unk fold) .sets ((((⟨#[45]⟩ : ByteArray) ++ fs[k].short) ++ value) :: A) begin0 = r := fun h h2 h3 => (goes_letter_glued (s := setD fs plain unk fold) (w := .sets) RP rq hk hs1 h value hv1 h2 h3 A begin0 rfl).trans hr
  have RZ : r.given.length ≤ 1099511627776 ∧ r.args.length ≤ 1099511627776 := by
    rw [← G1]
    have q1 : (goesF (setD fs plain unk fold) .sets (longT fs[k].name value :: A) begin0).given.length ≤ begin0.given.length + bytesOf (longT fs[k].name value :: A) := goesN_given _ _ _ _ _
    have q2 : (goesF (setD fs plain unk fold) .sets (longT fs[k].name value :: A) begin0).args.length ≤ begin0.args.length + (longT fs[k].name value :: A).length := goes_args _ _ _ _ _
    rw [bytesOf_cons, longT_size] at q1
    simp only [begin0, List.length_nil, List.length_cons] at q1 q2 ⊢
    exact ⟨by omega, by omega⟩
  obtain ⟨ch, hch⟩ : ∃ c, chgU r.given fs.length = c := ⟨_, rfl⟩
  have HCZ : Hid (ch.length ≤ 1099511627776) := Lib.hid (by rw [← hch]; have q := chgU_len r.given fs.length; have := HSF1.out.1; exact Nat.le_trans q (Nat.le_trans this (by omega)))
  have HP : Hid (∀ W v L, Below w1.heap.size w1 W → Texts W v L → goesF (setD fs plain unk fold) .sets L begin0 = r → (∀ t ∈ L, t.size ≤ 4294967295) → L.length ≤ 2147483647 → bytesOf L ≤ 1099511627776 → Calls Try.prog 20 #[.agg #[.slice (some ⟨nb, nof, none⟩) fs.length fc, .bool plain, .bool unk, .int .i64 fold], v] W fun e w' => HeardOwn e w' W.heap.size r ch ∧ Below W.heap.size W w') :=
    Lib.hid (fun W v L hb ht hg h1 h2 h3 => by
      have q := implParse_own (.slice (some ⟨nb, nof, none⟩) fs.length fc) v plain unk fold (setD fs plain unk fold) W (HV.out _ hb) rfl rfl rfl rfl HRP.out L ht h1 h2 h3
      rw [hg] at q
      rw [show (setD fs plain unk fold).flags.length = fs.length from rfl, hch] at q
      exact q)
  have HLG := Lib.hid (fun W (hb : Below w1.heap.size w1 W) => long14_any (.slice (some ⟨nb, nof, none⟩) fs.length fc) fs (.bool plain) (.bool unk) (.int .i64 fold) k value W (HV.out _ hb) hk HSF1.out.1 hn (by omega))
  have HL1 : Hid (∀ (x : ByteArray) (W : World) (p q : Nat), Below w1.heap.size w1 W → W.heap[p]? = some (.cells #[.slice (some ⟨q, 0, none⟩) 1 1, .slice aa A.length ac] 25 (0, 0)) → W.heap[q]? = some (.cells #[.string x] 9 (0, 0)) → Calls Try.prog 33 #[.slice (some ⟨p, 0, none⟩) 2 2] W fun e w' => (∃ rv, e = .returned rv ∧ Texts w' rv (x :: A)) ∧ Below W.heap.size W w') :=
    Lib.hid (fun x W p q hb h1 h2 => list2h_any (A := [x]) (B := A) _ _ W p h1 (Strs.made [x] 1 h2) (HTA.out W hb).strs (by simp only [List.length_append, List.length_singleton]; omega))
  have HL2 : Hid (∀ (x y : ByteArray) (W : World) (p q : Nat), Below w1.heap.size w1 W → W.heap[p]? = some (.cells #[.slice (some ⟨q, 0, none⟩) 2 2, .slice aa A.length ac] 25 (0, 0)) → W.heap[q]? = some (.cells #[.string x, .string y] 9 (0, 0)) → Calls Try.prog 33 #[.slice (some ⟨p, 0, none⟩) 2 2] W fun e w' => (∃ rv, e = .returned rv ∧ Texts w' rv (x :: y :: A)) ∧ Below W.heap.size W w') :=
    Lib.hid (fun x y W p q hb h1 h2 => list2h_any (A := [x, y]) (B := A) _ _ W p h1 (Strs.made [x, y] 2 h2) (HTA.out W hb).strs (by simp only [List.length_append, List.length_cons, List.length_nil]; omega))
  have d1 : (⟨#[45]⟩ : ByteArray).size = 1 := rfl
  have d2 : (⟨#[61]⟩ : ByteArray).size = 1 := rfl
  have HZ1 : Hid ((∀ t ∈ longT fs[k].name value :: A, t.size ≤ 4294967295) ∧ (longT fs[k].name value :: A).length ≤ 2147483647 ∧ bytesOf (longT fs[k].name value :: A) ≤ 1099511627776) := Lib.hid (by
    have z := longT_size fs[k].name value
    exact ⟨by intro t ht; simp only [List.mem_cons] at ht; rcases ht with rfl | ht; omega; exact wide HSLA.out.2 t ht, by simp only [List.length_cons]; omega, by rw [bytesOf_cons]; omega⟩)
  have HZ2 : Hid ((∀ t ∈ (((⟨#[45]⟩ : ByteArray) ++ fs[k].short) ++ ⟨#[61]⟩ ++ value) :: A, t.size ≤ 4294967295) ∧ ((((⟨#[45]⟩ : ByteArray) ++ fs[k].short) ++ ⟨#[61]⟩ ++ value) :: A).length ≤ 2147483647 ∧ bytesOf ((((⟨#[45]⟩ : ByteArray) ++ fs[k].short) ++ ⟨#[61]⟩ ++ value) :: A) ≤ 1099511627776) := Lib.hid (by
    have z : (((⟨#[45]⟩ : ByteArray) ++ fs[k].short) ++ ⟨#[61]⟩ ++ value).size = 1 + fs[k].short.size + 1 + value.size := by simp only [ByteArray.size_append, d1, d2]
    exact ⟨by intro t ht; simp only [List.mem_cons] at ht; rcases ht with rfl | ht; omega; exact wide HSLA.out.2 t ht, by simp only [List.length_cons]; omega, by rw [bytesOf_cons]; omega⟩)
  have HZ3 : Hid ((∀ t ∈ ((⟨#[45]⟩ : ByteArray) ++ fs[k].short) :: value :: A, t.size ≤ 4294967295) ∧ (((⟨#[45]⟩ : ByteArray) ++ fs[k].short) :: value :: A).length ≤ 2147483647 ∧ bytesOf (((⟨#[45]⟩ : ByteArray) ++ fs[k].short) :: value :: A) ≤ 1099511627776) := Lib.hid (by
    have z : ((⟨#[45]⟩ : ByteArray) ++ fs[k].short).size = 1 + fs[k].short.size := by simp only [ByteArray.size_append, d1]
    exact ⟨by intro t ht; simp only [List.mem_cons] at ht; rcases ht with rfl | rfl | ht; omega; omega; exact wide HSLA.out.2 t ht, by simp only [List.length_cons]; omega, by rw [bytesOf_cons, bytesOf_cons]; omega⟩)
  have HZ4 : Hid ((∀ t ∈ (((⟨#[45]⟩ : ByteArray) ++ fs[k].short) ++ value) :: A, t.size ≤ 4294967295) ∧ ((((⟨#[45]⟩ : ByteArray) ++ fs[k].short) ++ value) :: A).length ≤ 2147483647 ∧ bytesOf ((((⟨#[45]⟩ : ByteArray) ++ fs[k].short) ++ value) :: A) ≤ 1099511627776) := Lib.hid (by
    have z : (((⟨#[45]⟩ : ByteArray) ++ fs[k].short) ++ value).size = 1 + fs[k].short.size + value.size := by simp only [ByteArray.size_append, d1]
    exact ⟨by intro t ht; simp only [List.mem_cons] at ht; rcases ht with rfl | ht; omega; exact wide HSLA.out.2 t ht, by simp only [List.length_cons]; omega, by rw [bytesOf_cons]; omega⟩)
  have HP1 := Lib.hid (fun W v hb ht => HP.out W v _ hb ht G1 HZ1.out.1 HZ1.out.2.1 HZ1.out.2.2)
  have HP2 := Lib.hid (fun W v hb ht => HP.out W v _ hb ht G2 HZ2.out.1 HZ2.out.2.1 HZ2.out.2.2)
  have HP3 := Lib.hid (fun h W v hb ht => HP.out W v _ hb ht (G3 h) HZ3.out.1 HZ3.out.2.1 HZ3.out.2.2)
  have HP4 := Lib.hid (fun h h2 h3 W v hb ht => HP.out W v _ hb ht (G4 h h2 h3) HZ4.out.1 HZ4.out.2.1 HZ4.out.2.2)
  have HRZ := Lib.hid RZ
  have n1 : ¬ 9223372036854775807 < 1 + fs[k].short.size := by omega
  have n2 : ¬ 9223372036854775807 < 1 + fs[k].short.size + 1 := by omega
  have n3 : ¬ 9223372036854775807 < 1 + fs[k].short.size + 1 + value.size := by omega
  have n4 : ¬ 9223372036854775807 < 1 + fs[k].short.size + value.size := by omega
  have h1s := hs1
  clear F14 rq RP HR1 a0 a1 a2 a3 a4 a5 G1 G2 G3 G4 RZ hsh hve hf fA fB d1 d2 HZ1 HZ2 HZ3 HZ4 HP hr hch hn hss1 hs1
  generalize hx : (w5.alloc (.cells #[.string value] 9)).alloc (.cells #[.slice aa A.length ac, .slice (some ⟨w5.heap.size, 0, none⟩) 1 1] 25) = wz at *
  clear hx
  generalize fs[k].name = name at *
  generalize fs[k].short = sh at *
  generalize fs[k].noopt = noo at *
  generalize longT name value = lt at *
  have hwbd := hb6.drew
  have hwbs := hb6.size
  go_upto_region 5 with fail
  go_cut [9] from 55 to 65 (fun v wx => HeardVar wz wz.heap.size wx v r ch)
  case first =>
    go_region_held3 (fun wx => wx.cell? ⟨w.heap.size, 0, none⟩ = some (.slice (some ⟨nb, nof, none⟩) fs.length fc) ∧ wx.cell? ⟨w.heap.size, 1, none⟩ = some (.bool plain) ∧ wx.cell? ⟨w.heap.size, 2, none⟩ = some (.bool unk) ∧ wx.cell? ⟨w.heap.size, 3, none⟩ = some (.int .i64 fold))
      (first
        | (with_reducible refine HC.out _ ?_; ((repeat (first | (with_reducible exact Below.refl _ _) | (with_reducible assumption) | ((with_reducible refine Below.alloc ?_ ?_ _); rotate_left; focus ((try simp only [World.size_alloc, size_setCell, World.heap_drewN, size_drew]); (try omega); done)) | ((with_reducible refine Below.setCell ?_ ?_ _); rotate_left; focus ((try simp only [World.size_alloc, size_setCell, World.heap_drewN, size_drew]); (try omega); done)) | (with_reducible refine Below.drewN' ?_) | (with_reducible refine Below.drew ?_))); done)))
      (first
        | (go_simp; go_at_call 39; refine (HLG.out _ ?_).mono ?_; (focus (((repeat (first | (with_reducible exact Below.refl _ _) | (with_reducible assumption) | ((with_reducible refine Below.alloc ?_ ?_ _); rotate_left; focus ((try simp only [World.size_alloc, size_setCell, World.heap_drewN, size_drew]); (try omega); done)) | ((with_reducible refine Below.setCell ?_ ?_ _); rotate_left; focus ((try simp only [World.size_alloc, size_setCell, World.heap_drewN, size_drew]); (try omega); done)) | (with_reducible refine Below.drewN' ?_) | (with_reducible refine Below.drew ?_))); done))); rintro e wp ⟨rfl, hbp⟩; have hBp : Below w1.heap.size w1 wp := Below.after (by ((repeat (first | (with_reducible exact Below.refl _ _) | (with_reducible assumption) | ((with_reducible refine Below.alloc ?_ ?_ _); rotate_left; focus ((try simp only [World.size_alloc, size_setCell, World.heap_drewN, size_drew]); (try omega); done)) | ((with_reducible refine Below.setCell ?_ ?_ _); rotate_left; focus ((try simp only [World.size_alloc, size_setCell, World.heap_drewN, size_drew]); (try omega); done)) | (with_reducible refine Below.drewN' ?_) | (with_reducible refine Below.drew ?_))); done)) hbp; have hCp : Below wz.heap.size wz wp := Below.after (by ((repeat (first | (with_reducible exact Below.refl _ _) | (with_reducible assumption) | ((with_reducible refine Below.alloc ?_ ?_ _); rotate_left; focus ((try simp only [World.size_alloc, size_setCell, World.heap_drewN, size_drew]); (try omega); done)) | ((with_reducible refine Below.setCell ?_ ?_ _); rotate_left; focus ((try simp only [World.size_alloc, size_setCell, World.heap_drewN, size_drew]); (try omega); done)) | (with_reducible refine Below.drewN' ?_) | (with_reducible refine Below.drew ?_))); done)) hbp; have hsp := hbp.size; (try simp only [World.size_alloc, World.heap_drewN, size_drew] at hsp); have hcp := hCp.size; (first | ((refine lay (T := wp.heap[wz.heap.size]? = some (.cells zeroH 33 (0, 0))) ?_ (fun hzp => ?_)); (focus (refine (hbp.block _ ?_).trans ?_; (focus (((try simp only [World.size_alloc, size_setCell, World.heap_drewN, size_drew]); (try omega); done))); (first | ((repeat (first | (with_reducible assumption) | ((with_reducible refine heap_past' ?_ ?_); focus ((try simp only [World.size_alloc, size_setCell, World.heap_drewN, size_drew]); (try omega); done)) | ((with_reducible refine heap_at _ _ _ ?_); focus ((try simp only [World.size_alloc, size_setCell, World.heap_drewN, size_drew]); (try omega); done)) | ((with_reducible refine heap_ne' ?_ ?_); focus ((try simp only [World.size_alloc, size_setCell, World.heap_drewN, size_drew]); (try omega); done)) | (with_reducible refine heap_drew' ?_) | (with_reducible refine heap_drew1' ?_))); done) | (unfold zeroH; ((repeat (first | (with_reducible assumption) | ((with_reducible refine heap_past' ?_ ?_); focus ((try simp only [World.size_alloc, size_setCell, World.heap_drewN, size_drew]); (try omega); done)) | ((with_reducible refine heap_at _ _ _ ?_); focus ((try simp only [World.size_alloc, size_setCell, World.heap_drewN, size_drew]); (try omega); done)) | ((with_reducible refine heap_ne' ?_ ?_); focus ((try simp only [World.size_alloc, size_setCell, World.heap_drewN, size_drew]); (try omega); done)) | (with_reducible refine heap_drew' ?_) | (with_reducible refine heap_drew1' ?_))); done)))))) | skip))
        | (go_simp; go_at_call 33; (first | (refine (HL1.out lt _ _ wp.heap.size ?_ ?_ ?_).mono ?_; (focus (((repeat (first | (with_reducible exact Below.refl _ _) | (with_reducible assumption) | ((with_reducible refine Below.alloc ?_ ?_ _); rotate_left; focus ((try simp only [World.size_alloc, size_setCell, World.heap_drewN, size_drew]); (try omega); done)) | ((with_reducible refine Below.setCell ?_ ?_ _); rotate_left; focus ((try simp only [World.size_alloc, size_setCell, World.heap_drewN, size_drew]); (try omega); done)) | (with_reducible refine Below.drewN' ?_) | (with_reducible refine Below.drew ?_))); done))); (focus (((repeat (first | (with_reducible assumption) | ((with_reducible refine heap_past' ?_ ?_); focus ((try simp only [World.size_alloc, size_setCell, World.heap_drewN, size_drew]); (try omega); done)) | ((with_reducible refine heap_at _ _ _ ?_); focus ((try simp only [World.size_alloc, size_setCell, World.heap_drewN, size_drew]); (try omega); done)) | ((with_reducible refine heap_ne' ?_ ?_); focus ((try simp only [World.size_alloc, size_setCell, World.heap_drewN, size_drew]); (try omega); done)) | (with_reducible refine heap_drew' ?_) | (with_reducible refine heap_drew1' ?_))); done))); (focus (((repeat (first | (with_reducible assumption) | ((with_reducible refine heap_past' ?_ ?_); focus ((try simp only [World.size_alloc, size_setCell, World.heap_drewN, size_drew]); (try omega); done)) | ((with_reducible refine heap_at _ _ _ ?_); focus ((try simp only [World.size_alloc, size_setCell, World.heap_drewN, size_drew]); (try omega); done)) | ((with_reducible refine heap_ne' ?_ ?_); focus ((try simp only [World.size_alloc, size_setCell, World.heap_drewN, size_drew]); (try omega); done)) | (with_reducible refine heap_drew' ?_) | (with_reducible refine heap_drew1' ?_))); done)))) | (refine (HL1.out lt _ _ (wp.heap.size + 1) ?_ ?_ ?_).mono ?_; (focus (((repeat (first | (with_reducible exact Below.refl _ _) | (with_reducible assumption) | ((with_reducible refine Below.alloc ?_ ?_ _); rotate_left; focus ((try simp only [World.size_alloc, size_setCell, World.heap_drewN, size_drew]); (try omega); done)) | ((with_reducible refine Below.setCell ?_ ?_ _); rotate_left; focus ((try simp only [World.size_alloc, size_setCell, World.heap_drewN, size_drew]); (try omega); done)) | (with_reducible refine Below.drewN' ?_) | (with_reducible refine Below.drew ?_))); done))); (focus (((repeat (first | (with_reducible assumption) | ((with_reducible refine heap_past' ?_ ?_); focus ((try simp only [World.size_alloc, size_setCell, World.heap_drewN, size_drew]); (try omega); done)) | ((with_reducible refine heap_at _ _ _ ?_); focus ((try simp only [World.size_alloc, size_setCell, World.heap_drewN, size_drew]); (try omega); done)) | ((with_reducible refine heap_ne' ?_ ?_); focus ((try simp only [World.size_alloc, size_setCell, World.heap_drewN, size_drew]); (try omega); done)) | (with_reducible refine heap_drew' ?_) | (with_reducible refine heap_drew1' ?_))); done))); (focus (((repeat (first | (with_reducible assumption) | ((with_reducible refine heap_past' ?_ ?_); focus ((try simp only [World.size_alloc, size_setCell, World.heap_drewN, size_drew]); (try omega); done)) | ((with_reducible refine heap_at _ _ _ ?_); focus ((try simp only [World.size_alloc, size_setCell, World.heap_drewN, size_drew]); (try omega); done)) | ((with_reducible refine heap_ne' ?_ ?_); focus ((try simp only [World.size_alloc, size_setCell, World.heap_drewN, size_drew]); (try omega); done)) | (with_reducible refine heap_drew' ?_) | (with_reducible refine heap_drew1' ?_))); done))))); rintro e wq ⟨⟨rv, rfl, htq⟩, hbq⟩; have hBq : Below w1.heap.size w1 wq := Below.after (by ((repeat (first | (with_reducible exact Below.refl _ _) | (with_reducible assumption) | ((with_reducible refine Below.alloc ?_ ?_ _); rotate_left; focus ((try simp only [World.size_alloc, size_setCell, World.heap_drewN, size_drew]); (try omega); done)) | ((with_reducible refine Below.setCell ?_ ?_ _); rotate_left; focus ((try simp only [World.size_alloc, size_setCell, World.heap_drewN, size_drew]); (try omega); done)) | (with_reducible refine Below.drewN' ?_) | (with_reducible refine Below.drew ?_))); done)) hbq; have hCq : Below wz.heap.size wz wq := Below.after (by ((repeat (first | (with_reducible exact Below.refl _ _) | (with_reducible assumption) | ((with_reducible refine Below.alloc ?_ ?_ _); rotate_left; focus ((try simp only [World.size_alloc, size_setCell, World.heap_drewN, size_drew]); (try omega); done)) | ((with_reducible refine Below.setCell ?_ ?_ _); rotate_left; focus ((try simp only [World.size_alloc, size_setCell, World.heap_drewN, size_drew]); (try omega); done)) | (with_reducible refine Below.drewN' ?_) | (with_reducible refine Below.drew ?_))); done)) hbq; have hsq := hbq.size; (try simp only [World.size_alloc, World.heap_drewN, size_drew] at hsq); (first | ((refine lay (T := wq.heap[wz.heap.size]? = some (.cells zeroH 33 (0, 0))) ?_ (fun hzq => ?_)); (focus (refine (hbq.block _ ?_).trans ?_; (focus (((try simp only [World.size_alloc, size_setCell, World.heap_drewN, size_drew]); (try omega); done))); (first | ((repeat (first | (with_reducible assumption) | ((with_reducible refine heap_past' ?_ ?_); focus ((try simp only [World.size_alloc, size_setCell, World.heap_drewN, size_drew]); (try omega); done)) | ((with_reducible refine heap_at _ _ _ ?_); focus ((try simp only [World.size_alloc, size_setCell, World.heap_drewN, size_drew]); (try omega); done)) | ((with_reducible refine heap_ne' ?_ ?_); focus ((try simp only [World.size_alloc, size_setCell, World.heap_drewN, size_drew]); (try omega); done)) | (with_reducible refine heap_drew' ?_) | (with_reducible refine heap_drew1' ?_))); done) | (unfold zeroH; ((repeat (first | (with_reducible assumption) | ((with_reducible refine heap_past' ?_ ?_); focus ((try simp only [World.size_alloc, size_setCell, World.heap_drewN, size_drew]); (try omega); done)) | ((with_reducible refine heap_at _ _ _ ?_); focus ((try simp only [World.size_alloc, size_setCell, World.heap_drewN, size_drew]); (try omega); done)) | ((with_reducible refine heap_ne' ?_ ?_); focus ((try simp only [World.size_alloc, size_setCell, World.heap_drewN, size_drew]); (try omega); done)) | (with_reducible refine heap_drew' ?_) | (with_reducible refine heap_drew1' ?_))); done)))))) | ((refine lay (T := wq.heap[wp.heap.size]? = some (.cells zeroH 33 (0, 0))) ?_ (fun hzq => ?_)); (focus (refine (hbq.block _ ?_).trans ?_; (focus (((try simp only [World.size_alloc, size_setCell, World.heap_drewN, size_drew]); (try omega); done))); (first | ((repeat (first | (with_reducible assumption) | ((with_reducible refine heap_past' ?_ ?_); focus ((try simp only [World.size_alloc, size_setCell, World.heap_drewN, size_drew]); (try omega); done)) | ((with_reducible refine heap_at _ _ _ ?_); focus ((try simp only [World.size_alloc, size_setCell, World.heap_drewN, size_drew]); (try omega); done)) | ((with_reducible refine heap_ne' ?_ ?_); focus ((try simp only [World.size_alloc, size_setCell, World.heap_drewN, size_drew]); (try omega); done)) | (with_reducible refine heap_drew' ?_) | (with_reducible refine heap_drew1' ?_))); done) | (unfold zeroH; ((repeat (first | (with_reducible assumption) | ((with_reducible refine heap_past' ?_ ?_); focus ((try simp only [World.size_alloc, size_setCell, World.heap_drewN, size_drew]); (try omega); done)) | ((with_reducible refine heap_at _ _ _ ?_); focus ((try simp only [World.size_alloc, size_setCell, World.heap_drewN, size_drew]); (try omega); done)) | ((with_reducible refine heap_ne' ?_ ?_); focus ((try simp only [World.size_alloc, size_setCell, World.heap_drewN, size_drew]); (try omega); done)) | (with_reducible refine heap_drew' ?_) | (with_reducible refine heap_drew1' ?_))); done)))))) | ((refine lay (T := wq.heap[wp.heap.size + 1]? = some (.cells zeroH 33 (0, 0))) ?_ (fun hzq => ?_)); (focus (refine (hbq.block _ ?_).trans ?_; (focus (((try simp only [World.size_alloc, size_setCell, World.heap_drewN, size_drew]); (try omega); done))); (first | ((repeat (first | (with_reducible assumption) | ((with_reducible refine heap_past' ?_ ?_); focus ((try simp only [World.size_alloc, size_setCell, World.heap_drewN, size_drew]); (try omega); done)) | ((with_reducible refine heap_at _ _ _ ?_); focus ((try simp only [World.size_alloc, size_setCell, World.heap_drewN, size_drew]); (try omega); done)) | ((with_reducible refine heap_ne' ?_ ?_); focus ((try simp only [World.size_alloc, size_setCell, World.heap_drewN, size_drew]); (try omega); done)) | (with_reducible refine heap_drew' ?_) | (with_reducible refine heap_drew1' ?_))); done) | (unfold zeroH; ((repeat (first | (with_reducible assumption) | ((with_reducible refine heap_past' ?_ ?_); focus ((try simp only [World.size_alloc, size_setCell, World.heap_drewN, size_drew]); (try omega); done)) | ((with_reducible refine heap_at _ _ _ ?_); focus ((try simp only [World.size_alloc, size_setCell, World.heap_drewN, size_drew]); (try omega); done)) | ((with_reducible refine heap_ne' ?_ ?_); focus ((try simp only [World.size_alloc, size_setCell, World.heap_drewN, size_drew]); (try omega); done)) | (with_reducible refine heap_drew' ?_) | (with_reducible refine heap_drew1' ?_))); done)))))) | ((refine lay (T := wq.heap[wp.heap.size + 1 + 1]? = some (.cells zeroH 33 (0, 0))) ?_ (fun hzq => ?_)); (focus (refine (hbq.block _ ?_).trans ?_; (focus (((try simp only [World.size_alloc, size_setCell, World.heap_drewN, size_drew]); (try omega); done))); (first | ((repeat (first | (with_reducible assumption) | ((with_reducible refine heap_past' ?_ ?_); focus ((try simp only [World.size_alloc, size_setCell, World.heap_drewN, size_drew]); (try omega); done)) | ((with_reducible refine heap_at _ _ _ ?_); focus ((try simp only [World.size_alloc, size_setCell, World.heap_drewN, size_drew]); (try omega); done)) | ((with_reducible refine heap_ne' ?_ ?_); focus ((try simp only [World.size_alloc, size_setCell, World.heap_drewN, size_drew]); (try omega); done)) | (with_reducible refine heap_drew' ?_) | (with_reducible refine heap_drew1' ?_))); done) | (unfold zeroH; ((repeat (first | (with_reducible assumption) | ((with_reducible refine heap_past' ?_ ?_); focus ((try simp only [World.size_alloc, size_setCell, World.heap_drewN, size_drew]); (try omega); done)) | ((with_reducible refine heap_at _ _ _ ?_); focus ((try simp only [World.size_alloc, size_setCell, World.heap_drewN, size_drew]); (try omega); done)) | ((with_reducible refine heap_ne' ?_ ?_); focus ((try simp only [World.size_alloc, size_setCell, World.heap_drewN, size_drew]); (try omega); done)) | (with_reducible refine heap_drew' ?_) | (with_reducible refine heap_drew1' ?_))); done)))))) | skip); obtain ⟨ra, rc, rfl, -⟩ := htq.len)
        | (go_simp; go_at_call 20; refine (HP1.out _ _ ?_ ?_).mono ?_; (focus (((repeat (first | (with_reducible exact Below.refl _ _) | (with_reducible assumption) | ((with_reducible refine Below.alloc ?_ ?_ _); rotate_left; focus ((try simp only [World.size_alloc, size_setCell, World.heap_drewN, size_drew]); (try omega); done)) | ((with_reducible refine Below.setCell ?_ ?_ _); rotate_left; focus ((try simp only [World.size_alloc, size_setCell, World.heap_drewN, size_drew]); (try omega); done)) | (with_reducible refine Below.drewN' ?_) | (with_reducible refine Below.drew ?_))); done))); (focus (first | exact htq | exact htq.later (Below.alloc (Below.refl _ _) (Nat.le_refl _) _).block)); rintro e wr ⟨⟨ga', gc', aa', ac', ca', cc', rfl, hrows⟩, hbr⟩; have hBr : Below w1.heap.size w1 wr := Below.after (by ((repeat (first | (with_reducible exact Below.refl _ _) | (with_reducible assumption) | ((with_reducible refine Below.alloc ?_ ?_ _); rotate_left; focus ((try simp only [World.size_alloc, size_setCell, World.heap_drewN, size_drew]); (try omega); done)) | ((with_reducible refine Below.setCell ?_ ?_ _); rotate_left; focus ((try simp only [World.size_alloc, size_setCell, World.heap_drewN, size_drew]); (try omega); done)) | (with_reducible refine Below.drewN' ?_) | (with_reducible refine Below.drew ?_))); done)) hbr; have hCr : Below wz.heap.size wz wr := Below.after (by ((repeat (first | (with_reducible exact Below.refl _ _) | (with_reducible assumption) | ((with_reducible refine Below.alloc ?_ ?_ _); rotate_left; focus ((try simp only [World.size_alloc, size_setCell, World.heap_drewN, size_drew]); (try omega); done)) | ((with_reducible refine Below.setCell ?_ ?_ _); rotate_left; focus ((try simp only [World.size_alloc, size_setCell, World.heap_drewN, size_drew]); (try omega); done)) | (with_reducible refine Below.drewN' ?_) | (with_reducible refine Below.drew ?_))); done)) hbr; have hss := hCr.size; have hsr := hbr.size; (try simp only [World.size_alloc, World.heap_drewN, size_drew] at hsr); (first | (have hzr := (hbr.block _ (lt_of_block hzq)).trans hzq) | ((refine lay (T := wr.heap[wq.heap.size]? = some (.cells zeroH 33 (0, 0))) ?_ (fun hzr => ?_)); (focus (refine (hbr.block _ ?_).trans ?_; (focus (((try simp only [World.size_alloc, size_setCell, World.heap_drewN, size_drew]); (try omega); done))); (first | ((repeat (first | (with_reducible assumption) | ((with_reducible refine heap_past' ?_ ?_); focus ((try simp only [World.size_alloc, size_setCell, World.heap_drewN, size_drew]); (try omega); done)) | ((with_reducible refine heap_at _ _ _ ?_); focus ((try simp only [World.size_alloc, size_setCell, World.heap_drewN, size_drew]); (try omega); done)) | ((with_reducible refine heap_ne' ?_ ?_); focus ((try simp only [World.size_alloc, size_setCell, World.heap_drewN, size_drew]); (try omega); done)) | (with_reducible refine heap_drew' ?_) | (with_reducible refine heap_drew1' ?_))); done) | (unfold zeroH; ((repeat (first | (with_reducible assumption) | ((with_reducible refine heap_past' ?_ ?_); focus ((try simp only [World.size_alloc, size_setCell, World.heap_drewN, size_drew]); (try omega); done)) | ((with_reducible refine heap_at _ _ _ ?_); focus ((try simp only [World.size_alloc, size_setCell, World.heap_drewN, size_drew]); (try omega); done)) | ((with_reducible refine heap_ne' ?_ ?_); focus ((try simp only [World.size_alloc, size_setCell, World.heap_drewN, size_drew]); (try omega); done)) | (with_reducible refine heap_drew' ?_) | (with_reducible refine heap_drew1' ?_))); done)))))) | skip); simp only [hCells]; (first | (have x0 := cell_of hzr 0 (.int .i64 0) rfl; have x1 := cell_of hzr 1 (.string ⟨#[]⟩) rfl; have x2 := cell_of hzr 2 (.string ⟨#[]⟩) rfl; have x3 := cell_of hzr 3 (.string ⟨#[]⟩) rfl; have x4 := cell_of hzr 4 (.int .i64 0) rfl; have x5 := cell_of hzr 5 (.slice none 0 0) rfl; have x6 := cell_of hzr 6 (.slice none 0 0) rfl; have x7 := cell_of hzr 7 (.int .i64 0) rfl; have x8 := cell_of hzr 8 (.slice none 0 0) rfl; have x9 := cell_of hzr 9 (.bool false) rfl; have x10 := cell_of hzr 10 (.bool false) rfl; have xf := fun i => frozen_of hzr i) | skip)))
    all_goals (go_wp2_with fail)
    all_goals go_meet
    all_goals first
      | with_reducible exact heardVar_new hCr hss hrows
      | with_reducible exact heardVar_put hCr (by omega) hzr hrows
  case rest =>
  obtain ⟨BA, ga, gc, qa, qc, ca, cc, rfl, hBA, HVC, HVR, hbA⟩ := hcut.cells
  obtain ⟨wv, rfl⟩ : ∃ wv : World, wv = wc := ⟨_, rfl⟩
  have HVC' := Lib.hid HVC
  have HVR' := Lib.hid HVR
  have hbv := Below.after hb6 hbA
  clear HVC HVR hcut hBA
  have HCS := Lib.hid (fun wx (h : Below wv.heap.size wv wx) => (show wx.cell? ⟨w.heap.size, 0, none⟩ = some (.slice (some ⟨nb, nof, none⟩) fs.length fc) ∧ wx.cell? ⟨w.heap.size, 1, none⟩ = some (.bool plain) ∧ wx.cell? ⟨w.heap.size, 2, none⟩ = some (.bool unk) ∧ wx.cell? ⟨w.heap.size, 3, none⟩ = some (.int .i64 fold) ∧ wx.cell? ⟨BA, 0, none⟩ = some (.int .i64 r.err.kind) ∧ wx.cell? ⟨BA, 1, none⟩ = some (.string r.err.name) ∧ wx.cell? ⟨BA, 2, none⟩ = some (.string r.err.shorts) ∧ wx.cell? ⟨BA, 3, none⟩ = some (.string r.err.value) ∧ wx.cell? ⟨BA, 4, none⟩ = some (.int .i64 r.err.place) ∧ wx.cell? ⟨BA, 5, none⟩ = some (.slice ga r.given.length gc) ∧ wx.cell? ⟨BA, 6, none⟩ = some (.slice qa r.args.length qc) ∧ wx.cell? ⟨BA, 7, none⟩ = some (.int .i64 r.dash) ∧ wx.cell? ⟨BA, 8, none⟩ = some (.slice ca ch.length cc) ∧ wx.cell? ⟨BA, 9, none⟩ = some (.bool true) ∧ wx.cell? ⟨BA, 10, none⟩ = some (.bool false) from by
    obtain ⟨a0, a1, a2, a3, -, -⟩ := HN.out wx (Below.after hbv h)
    obtain ⟨p0, p1, p2, p3, p4, p5, p6, p7, p8, p9, p10⟩ := HVC'.out wx h
    exact ⟨a0, a1, a2, a3, p0, p1, p2, p3, p4, p5, p6, p7, p8, p9, p10⟩))
  have HSM := Lib.hid (fun W (h : Below wv.heap.size wv W) (g' a' c' : Value) (hg : Givens W g' r.given) (ht : Texts W a' r.args) (hc : Ints W c' ch) => same_any r.err r.dash true r.given r.args ch (HVR'.out W h).1 hg (HVR'.out W h).2.1 ht (HVR'.out W h).2.2 hc HRZ.out.1 HRZ.out.2 HCZ.out)
  obtain ⟨a0, a1, a2, a3, a4, a5⟩ := HN.out _ hbv
  have hwvd := (Below.refl wv.heap.size wv).drew
  go_upto_region 7 with fail
  clear a0 a1 a2 a3 a4 a5
  go_region_held3 (fun wx => wx.cell? ⟨w.heap.size, 0, none⟩ = some (.slice (some ⟨nb, nof, none⟩) fs.length fc) ∧ wx.cell? ⟨w.heap.size, 1, none⟩ = some (.bool plain) ∧ wx.cell? ⟨w.heap.size, 2, none⟩ = some (.bool unk) ∧ wx.cell? ⟨w.heap.size, 3, none⟩ = some (.int .i64 fold) ∧ wx.cell? ⟨BA, 0, none⟩ = some (.int .i64 r.err.kind) ∧ wx.cell? ⟨BA, 1, none⟩ = some (.string r.err.name) ∧ wx.cell? ⟨BA, 2, none⟩ = some (.string r.err.shorts) ∧ wx.cell? ⟨BA, 3, none⟩ = some (.string r.err.value) ∧ wx.cell? ⟨BA, 4, none⟩ = some (.int .i64 r.err.place) ∧ wx.cell? ⟨BA, 5, none⟩ = some (.slice ga r.given.length gc) ∧ wx.cell? ⟨BA, 6, none⟩ = some (.slice qa r.args.length qc) ∧ wx.cell? ⟨BA, 7, none⟩ = some (.int .i64 r.dash) ∧ wx.cell? ⟨BA, 8, none⟩ = some (.slice ca ch.length cc) ∧ wx.cell? ⟨BA, 9, none⟩ = some (.bool true) ∧ wx.cell? ⟨BA, 10, none⟩ = some (.bool false))
    (first
      | (with_reducible refine HCS.out _ ?_; ((repeat (first | (with_reducible exact Below.refl _ _) | (with_reducible assumption) | ((with_reducible refine Below.alloc ?_ ?_ _); rotate_left; focus ((try simp only [World.size_alloc, size_setCell, World.heap_drewN, size_drew]); (try omega); done)) | ((with_reducible refine Below.setCell ?_ ?_ _); rotate_left; focus ((try simp only [World.size_alloc, size_setCell, World.heap_drewN, size_drew]); (try omega); done)) | (with_reducible refine Below.drewN' ?_) | (with_reducible refine Below.drew ?_))); done)))
    (first
      | (go_simp; go_at_call 33; (refine (HL1.out ((((⟨#[45]⟩ : ByteArray) ++ sh) ++ ⟨#[61]⟩) ++ value) _ _ wv.heap.size ?_ ?_ ?_).mono ?_; (focus (first | exact Below.after hbv (by ((repeat (first | (with_reducible exact Below.refl _ _) | (with_reducible assumption) | ((with_reducible refine Below.alloc ?_ ?_ _); rotate_left; focus ((try simp only [World.size_alloc, size_setCell, World.heap_drewN, size_drew]); (try omega); done)) | ((with_reducible refine Below.setCell ?_ ?_ _); rotate_left; focus ((try simp only [World.size_alloc, size_setCell, World.heap_drewN, size_drew]); (try omega); done)) | (with_reducible refine Below.drewN' ?_) | (with_reducible refine Below.drew ?_))); done)))); (focus (((repeat (first | (with_reducible assumption) | ((with_reducible refine heap_past' ?_ ?_); focus ((try simp only [World.size_alloc, size_setCell, World.heap_drewN, size_drew]); (try omega); done)) | ((with_reducible refine heap_at _ _ _ ?_); focus ((try simp only [World.size_alloc, size_setCell, World.heap_drewN, size_drew]); (try omega); done)) | ((with_reducible refine heap_ne' ?_ ?_); focus ((try simp only [World.size_alloc, size_setCell, World.heap_drewN, size_drew]); (try omega); done)) | (with_reducible refine heap_drew' ?_) | (with_reducible refine heap_drew1' ?_))); done))); (focus (((repeat (first | (with_reducible assumption) | ((with_reducible refine heap_past' ?_ ?_); focus ((try simp only [World.size_alloc, size_setCell, World.heap_drewN, size_drew]); (try omega); done)) | ((with_reducible refine heap_at _ _ _ ?_); focus ((try simp only [World.size_alloc, size_setCell, World.heap_drewN, size_drew]); (try omega); done)) | ((with_reducible refine heap_ne' ?_ ?_); focus ((try simp only [World.size_alloc, size_setCell, World.heap_drewN, size_drew]); (try omega); done)) | (with_reducible refine heap_drew' ?_) | (with_reducible refine heap_drew1' ?_))); done)))); rintro e wq ⟨⟨rv, rfl, htq⟩, hbq⟩; have hCq : Below wv.heap.size wv wq := Below.after (by ((repeat (first | (with_reducible exact Below.refl _ _) | (with_reducible assumption) | ((with_reducible refine Below.alloc ?_ ?_ _); rotate_left; focus ((try simp only [World.size_alloc, size_setCell, World.heap_drewN, size_drew]); (try omega); done)) | ((with_reducible refine Below.setCell ?_ ?_ _); rotate_left; focus ((try simp only [World.size_alloc, size_setCell, World.heap_drewN, size_drew]); (try omega); done)) | (with_reducible refine Below.drewN' ?_) | (with_reducible refine Below.drew ?_))); done)) hbq; have hsq := hCq.size; obtain ⟨ra, rc, rfl, -⟩ := htq.len)
      | (go_simp; go_at_call 20; refine (HP2.out _ _ (Below.after hbv hCq) htq).mono ?_; rintro e wr ⟨⟨ga', gc', aa', ac', ca', cc', rfl, hrows⟩, hbr⟩; have hCr : Below wv.heap.size wv wr := Below.after hCq hbr; have hsr := hCr.size; simp only [hCells])
      | (go_simp; go_at_call 19; refine (HSM.out _ hCr _ _ _ (Givens.ofRow hrows.1) (Texts.ofRow hrows.2.1) (Ints.ofRow hrows.2.2)).mono ?_; rintro e ws ⟨rfl, hbs⟩; have hCs : Below wv.heap.size wv ws := Below.after hCr hbs; have hss := hCs.size))
  clear hwbd hwbs
  obtain ⟨w8, rfl⟩ : ∃ w8 : World, w8 = ws := ⟨_, rfl⟩
  have hb8 := Below.after hbv hCs
  obtain ⟨a0, a1, a2, a3, a4, a5⟩ := HN.out _ hb8
  obtain hno | hno : noo.toList.isEmpty = false ∨ noo.toList.isEmpty = true := by cases noo.toList.isEmpty <;> simp
  · go_wp2_with fail
    refine (lives14_any _).mono ?_
    rintro e w9 ⟨rfl, hb9⟩
    go_wp2_with fail
    go_ret
    exact ⟨rfl, HW.out _ (Below.after hb8 hb9)⟩
  have hno0 : noo.size = 0 := by
    by_cases h : 0 < noo.size
    · rw [isEmpty_no h] at hno; exact absurd hno (by decide)
    · omega
  have HP3' := Lib.hid (HP3.out hno0)
  have hcsd : Below wv.heap.size wv w8.drew := hCs.drew
  have hwvs := hCs.size
  clear HP3
  go_upto_region 11 with fail
  clear a0 a1 a2 a3 a4 a5
  go_region_held3 (fun wx => wx.cell? ⟨w.heap.size, 0, none⟩ = some (.slice (some ⟨nb, nof, none⟩) fs.length fc) ∧ wx.cell? ⟨w.heap.size, 1, none⟩ = some (.bool plain) ∧ wx.cell? ⟨w.heap.size, 2, none⟩ = some (.bool unk) ∧ wx.cell? ⟨w.heap.size, 3, none⟩ = some (.int .i64 fold) ∧ wx.cell? ⟨BA, 0, none⟩ = some (.int .i64 r.err.kind) ∧ wx.cell? ⟨BA, 1, none⟩ = some (.string r.err.name) ∧ wx.cell? ⟨BA, 2, none⟩ = some (.string r.err.shorts) ∧ wx.cell? ⟨BA, 3, none⟩ = some (.string r.err.value) ∧ wx.cell? ⟨BA, 4, none⟩ = some (.int .i64 r.err.place) ∧ wx.cell? ⟨BA, 5, none⟩ = some (.slice ga r.given.length gc) ∧ wx.cell? ⟨BA, 6, none⟩ = some (.slice qa r.args.length qc) ∧ wx.cell? ⟨BA, 7, none⟩ = some (.int .i64 r.dash) ∧ wx.cell? ⟨BA, 8, none⟩ = some (.slice ca ch.length cc) ∧ wx.cell? ⟨BA, 9, none⟩ = some (.bool true) ∧ wx.cell? ⟨BA, 10, none⟩ = some (.bool false))
    (first
      | (with_reducible refine HCS.out _ ?_; ((repeat (first | (with_reducible exact Below.refl _ _) | (with_reducible assumption) | ((with_reducible refine Below.alloc ?_ ?_ _); rotate_left; focus ((try simp only [World.size_alloc, size_setCell, World.heap_drewN, size_drew]); (try omega); done)) | ((with_reducible refine Below.setCell ?_ ?_ _); rotate_left; focus ((try simp only [World.size_alloc, size_setCell, World.heap_drewN, size_drew]); (try omega); done)) | (with_reducible refine Below.drewN' ?_) | (with_reducible refine Below.drew ?_))); done)))
    (first
      | (go_simp; go_at_call 33; (refine (HL2.out ((⟨#[45]⟩ : ByteArray) ++ sh) value _ _ w8.heap.size ?_ ?_ ?_).mono ?_; (focus (first | exact Below.after hbv (by ((repeat (first | (with_reducible exact Below.refl _ _) | (with_reducible assumption) | ((with_reducible refine Below.alloc ?_ ?_ _); rotate_left; focus ((try simp only [World.size_alloc, size_setCell, World.heap_drewN, size_drew]); (try omega); done)) | ((with_reducible refine Below.setCell ?_ ?_ _); rotate_left; focus ((try simp only [World.size_alloc, size_setCell, World.heap_drewN, size_drew]); (try omega); done)) | (with_reducible refine Below.drewN' ?_) | (with_reducible refine Below.drew ?_))); done)))); (focus (((repeat (first | (with_reducible assumption) | ((with_reducible refine heap_past' ?_ ?_); focus ((try simp only [World.size_alloc, size_setCell, World.heap_drewN, size_drew]); (try omega); done)) | ((with_reducible refine heap_at _ _ _ ?_); focus ((try simp only [World.size_alloc, size_setCell, World.heap_drewN, size_drew]); (try omega); done)) | ((with_reducible refine heap_ne' ?_ ?_); focus ((try simp only [World.size_alloc, size_setCell, World.heap_drewN, size_drew]); (try omega); done)) | (with_reducible refine heap_drew' ?_) | (with_reducible refine heap_drew1' ?_))); done))); (focus (((repeat (first | (with_reducible assumption) | ((with_reducible refine heap_past' ?_ ?_); focus ((try simp only [World.size_alloc, size_setCell, World.heap_drewN, size_drew]); (try omega); done)) | ((with_reducible refine heap_at _ _ _ ?_); focus ((try simp only [World.size_alloc, size_setCell, World.heap_drewN, size_drew]); (try omega); done)) | ((with_reducible refine heap_ne' ?_ ?_); focus ((try simp only [World.size_alloc, size_setCell, World.heap_drewN, size_drew]); (try omega); done)) | (with_reducible refine heap_drew' ?_) | (with_reducible refine heap_drew1' ?_))); done)))); rintro e wq ⟨⟨rv, rfl, htq⟩, hbq⟩; have hCq : Below wv.heap.size wv wq := Below.after (by ((repeat (first | (with_reducible exact Below.refl _ _) | (with_reducible assumption) | ((with_reducible refine Below.alloc ?_ ?_ _); rotate_left; focus ((try simp only [World.size_alloc, size_setCell, World.heap_drewN, size_drew]); (try omega); done)) | ((with_reducible refine Below.setCell ?_ ?_ _); rotate_left; focus ((try simp only [World.size_alloc, size_setCell, World.heap_drewN, size_drew]); (try omega); done)) | (with_reducible refine Below.drewN' ?_) | (with_reducible refine Below.drew ?_))); done)) hbq; have hsq := hCq.size; obtain ⟨ra, rc, rfl, -⟩ := htq.len)
      | (go_simp; go_at_call 20; refine (HP3'.out _ _ (Below.after hbv hCq) htq).mono ?_; rintro e wr ⟨⟨ga', gc', aa', ac', ca', cc', rfl, hrows⟩, hbr⟩; have hCr : Below wv.heap.size wv wr := Below.after hCq hbr; have hsr := hCr.size; simp only [hCells])
      | (go_simp; go_at_call 19; refine (HSM.out _ hCr _ _ _ (Givens.ofRow hrows.1) (Texts.ofRow hrows.2.1) (Ints.ofRow hrows.2.2)).mono ?_; rintro e ws ⟨rfl, hbs⟩; have hCt : Below wv.heap.size wv ws := Below.after hCr hbs; have hss := hCt.size))
  obtain ⟨w9, rfl⟩ : ∃ w9 : World, w9 = ws := ⟨_, rfl⟩
  have hb9 := Below.after hbv hCt
  go_upto_region 13 with fail
  have hv1i : (0 : Int) < (value.size : Int) := by omega
  go_wp2_with fail
  · refine (lives14_any _).mono ?_
    rintro e wl ⟨rfl, hbl⟩
    go_wp2_with fail
    go_ret
    exact ⟨rfl, HW.out _ (Below.after hb9 hbl)⟩
  · refine (lives14_any _).mono ?_
    rintro e wl ⟨rfl, hbl⟩
    go_wp2_with fail
    go_ret
    exact ⟨rfl, HW.out _ (Below.after hb9 hbl)⟩
  · have h61 : ¬ ((value[0].toNat : Int) = 61) := by assumption
    have hte : ¬ ((sh ++ value).extract 0 5).toList = [116, 101, 115, 116, 46] := by
      have hq : ((value[0].toNat : Int) == 61) = false ∧ (((((⟨#[45]⟩ : ByteArray) ++ sh) ++ value).extract 0 6).toList == [45, 116, 101, 115, 116, 46]) = false := by assumption
      have hq := hq.2
      rw [ByteArray.append_assoc] at hq
      exact test_of hq
    have HP4' := Lib.hid (HP4.out hno0 (first_not hv1 h61) hte)
    clear hte
    have hcsd : Below wv.heap.size wv w9.drew := hCt.drew
    have hwvt := hCt.size
    clear HP4 HP3'
    go_region_held3 (fun wx => wx.cell? ⟨w.heap.size, 0, none⟩ = some (.slice (some ⟨nb, nof, none⟩) fs.length fc) ∧ wx.cell? ⟨w.heap.size, 1, none⟩ = some (.bool plain) ∧ wx.cell? ⟨w.heap.size, 2, none⟩ = some (.bool unk) ∧ wx.cell? ⟨w.heap.size, 3, none⟩ = some (.int .i64 fold) ∧ wx.cell? ⟨BA, 0, none⟩ = some (.int .i64 r.err.kind) ∧ wx.cell? ⟨BA, 1, none⟩ = some (.string r.err.name) ∧ wx.cell? ⟨BA, 2, none⟩ = some (.string r.err.shorts) ∧ wx.cell? ⟨BA, 3, none⟩ = some (.string r.err.value) ∧ wx.cell? ⟨BA, 4, none⟩ = some (.int .i64 r.err.place) ∧ wx.cell? ⟨BA, 5, none⟩ = some (.slice ga r.given.length gc) ∧ wx.cell? ⟨BA, 6, none⟩ = some (.slice qa r.args.length qc) ∧ wx.cell? ⟨BA, 7, none⟩ = some (.int .i64 r.dash) ∧ wx.cell? ⟨BA, 8, none⟩ = some (.slice ca ch.length cc) ∧ wx.cell? ⟨BA, 9, none⟩ = some (.bool true) ∧ wx.cell? ⟨BA, 10, none⟩ = some (.bool false))
      (first
        | (with_reducible refine HCS.out _ ?_; ((repeat (first | (with_reducible exact Below.refl _ _) | (with_reducible assumption) | ((with_reducible refine Below.alloc ?_ ?_ _); rotate_left; focus ((try simp only [World.size_alloc, size_setCell, World.heap_drewN, size_drew]); (try omega); done)) | ((with_reducible refine Below.setCell ?_ ?_ _); rotate_left; focus ((try simp only [World.size_alloc, size_setCell, World.heap_drewN, size_drew]); (try omega); done)) | (with_reducible refine Below.drewN' ?_) | (with_reducible refine Below.drew ?_))); done)))
      (first
        | (go_simp; go_at_call 33; (refine (HL1.out (((⟨#[45]⟩ : ByteArray) ++ sh) ++ value) _ _ w9.heap.size ?_ ?_ ?_).mono ?_; (focus (first | exact Below.after hbv (by ((repeat (first | (with_reducible exact Below.refl _ _) | (with_reducible assumption) | ((with_reducible refine Below.alloc ?_ ?_ _); rotate_left; focus ((try simp only [World.size_alloc, size_setCell, World.heap_drewN, size_drew]); (try omega); done)) | ((with_reducible refine Below.setCell ?_ ?_ _); rotate_left; focus ((try simp only [World.size_alloc, size_setCell, World.heap_drewN, size_drew]); (try omega); done)) | (with_reducible refine Below.drewN' ?_) | (with_reducible refine Below.drew ?_))); done)))); (focus (((repeat (first | (with_reducible assumption) | ((with_reducible refine heap_past' ?_ ?_); focus ((try simp only [World.size_alloc, size_setCell, World.heap_drewN, size_drew]); (try omega); done)) | ((with_reducible refine heap_at _ _ _ ?_); focus ((try simp only [World.size_alloc, size_setCell, World.heap_drewN, size_drew]); (try omega); done)) | ((with_reducible refine heap_ne' ?_ ?_); focus ((try simp only [World.size_alloc, size_setCell, World.heap_drewN, size_drew]); (try omega); done)) | (with_reducible refine heap_drew' ?_) | (with_reducible refine heap_drew1' ?_))); done))); (focus (((repeat (first | (with_reducible assumption) | ((with_reducible refine heap_past' ?_ ?_); focus ((try simp only [World.size_alloc, size_setCell, World.heap_drewN, size_drew]); (try omega); done)) | ((with_reducible refine heap_at _ _ _ ?_); focus ((try simp only [World.size_alloc, size_setCell, World.heap_drewN, size_drew]); (try omega); done)) | ((with_reducible refine heap_ne' ?_ ?_); focus ((try simp only [World.size_alloc, size_setCell, World.heap_drewN, size_drew]); (try omega); done)) | (with_reducible refine heap_drew' ?_) | (with_reducible refine heap_drew1' ?_))); done)))); rintro e wq ⟨⟨rv, rfl, htq⟩, hbq⟩; have hCq : Below wv.heap.size wv wq := Below.after (by ((repeat (first | (with_reducible exact Below.refl _ _) | (with_reducible assumption) | ((with_reducible refine Below.alloc ?_ ?_ _); rotate_left; focus ((try simp only [World.size_alloc, size_setCell, World.heap_drewN, size_drew]); (try omega); done)) | ((with_reducible refine Below.setCell ?_ ?_ _); rotate_left; focus ((try simp only [World.size_alloc, size_setCell, World.heap_drewN, size_drew]); (try omega); done)) | (with_reducible refine Below.drewN' ?_) | (with_reducible refine Below.drew ?_))); done)) hbq; have hsq := hCq.size; obtain ⟨ra, rc, rfl, -⟩ := htq.len)
        | (go_simp; go_at_call 20; refine (HP4'.out _ _ (Below.after hbv hCq) htq).mono ?_; rintro e wr ⟨⟨ga', gc', aa', ac', ca', cc', rfl, hrows⟩, hbr⟩; have hCr : Below wv.heap.size wv wr := Below.after hCq hbr; have hsr := hCr.size; simp only [hCells])
        | (go_simp; go_at_call 19; refine (HSM.out _ hCr _ _ _ (Givens.ofRow hrows.1) (Texts.ofRow hrows.2.1) (Ints.ofRow hrows.2.2)).mono ?_; rintro e ws ⟨rfl, hbs⟩; have hCx : Below wv.heap.size wv ws := Below.after hCr hbs; have hsx := hCx.size)
        | (go_simp; go_at_call 32; refine (lives14_any _).mono ?_; rintro e wt ⟨rfl, hbt⟩; have hCu : Below wv.heap.size wv wt := Below.after hCx hbt; have hsu := hCu.size))
    go_wp2_with fail
    go_ret
    exact ⟨rfl, HW.out _ (Below.after hbv hCu)⟩
  · have h61 : ¬ ((value[0].toNat : Int) = 61) := by assumption
    have hte : ¬ ((sh ++ value).extract 0 5).toList = [116, 101, 115, 116, 46] := by
      intro e; have := (five_list _ e).2; rw [ByteArray.size_append] at this; omega
    have HP4' := Lib.hid (HP4.out hno0 (first_not hv1 h61) hte)
    clear hte
    have hcsd : Below wv.heap.size wv w9.drew := hCt.drew
    have hwvt := hCt.size
    clear HP4 HP3'
    go_region_held3 (fun wx => wx.cell? ⟨w.heap.size, 0, none⟩ = some (.slice (some ⟨nb, nof, none⟩) fs.length fc) ∧ wx.cell? ⟨w.heap.size, 1, none⟩ = some (.bool plain) ∧ wx.cell? ⟨w.heap.size, 2, none⟩ = some (.bool unk) ∧ wx.cell? ⟨w.heap.size, 3, none⟩ = some (.int .i64 fold) ∧ wx.cell? ⟨BA, 0, none⟩ = some (.int .i64 r.err.kind) ∧ wx.cell? ⟨BA, 1, none⟩ = some (.string r.err.name) ∧ wx.cell? ⟨BA, 2, none⟩ = some (.string r.err.shorts) ∧ wx.cell? ⟨BA, 3, none⟩ = some (.string r.err.value) ∧ wx.cell? ⟨BA, 4, none⟩ = some (.int .i64 r.err.place) ∧ wx.cell? ⟨BA, 5, none⟩ = some (.slice ga r.given.length gc) ∧ wx.cell? ⟨BA, 6, none⟩ = some (.slice qa r.args.length qc) ∧ wx.cell? ⟨BA, 7, none⟩ = some (.int .i64 r.dash) ∧ wx.cell? ⟨BA, 8, none⟩ = some (.slice ca ch.length cc) ∧ wx.cell? ⟨BA, 9, none⟩ = some (.bool true) ∧ wx.cell? ⟨BA, 10, none⟩ = some (.bool false))
      (first
        | (with_reducible refine HCS.out _ ?_; ((repeat (first | (with_reducible exact Below.refl _ _) | (with_reducible assumption) | ((with_reducible refine Below.alloc ?_ ?_ _); rotate_left; focus ((try simp only [World.size_alloc, size_setCell, World.heap_drewN, size_drew]); (try omega); done)) | ((with_reducible refine Below.setCell ?_ ?_ _); rotate_left; focus ((try simp only [World.size_alloc, size_setCell, World.heap_drewN, size_drew]); (try omega); done)) | (with_reducible refine Below.drewN' ?_) | (with_reducible refine Below.drew ?_))); done)))
      (first
        | (go_simp; go_at_call 33; (refine (HL1.out (((⟨#[45]⟩ : ByteArray) ++ sh) ++ value) _ _ w9.heap.size ?_ ?_ ?_).mono ?_; (focus (first | exact Below.after hbv (by ((repeat (first | (with_reducible exact Below.refl _ _) | (with_reducible assumption) | ((with_reducible refine Below.alloc ?_ ?_ _); rotate_left; focus ((try simp only [World.size_alloc, size_setCell, World.heap_drewN, size_drew]); (try omega); done)) | ((with_reducible refine Below.setCell ?_ ?_ _); rotate_left; focus ((try simp only [World.size_alloc, size_setCell, World.heap_drewN, size_drew]); (try omega); done)) | (with_reducible refine Below.drewN' ?_) | (with_reducible refine Below.drew ?_))); done)))); (focus (((repeat (first | (with_reducible assumption) | ((with_reducible refine heap_past' ?_ ?_); focus ((try simp only [World.size_alloc, size_setCell, World.heap_drewN, size_drew]); (try omega); done)) | ((with_reducible refine heap_at _ _ _ ?_); focus ((try simp only [World.size_alloc, size_setCell, World.heap_drewN, size_drew]); (try omega); done)) | ((with_reducible refine heap_ne' ?_ ?_); focus ((try simp only [World.size_alloc, size_setCell, World.heap_drewN, size_drew]); (try omega); done)) | (with_reducible refine heap_drew' ?_) | (with_reducible refine heap_drew1' ?_))); done))); (focus (((repeat (first | (with_reducible assumption) | ((with_reducible refine heap_past' ?_ ?_); focus ((try simp only [World.size_alloc, size_setCell, World.heap_drewN, size_drew]); (try omega); done)) | ((with_reducible refine heap_at _ _ _ ?_); focus ((try simp only [World.size_alloc, size_setCell, World.heap_drewN, size_drew]); (try omega); done)) | ((with_reducible refine heap_ne' ?_ ?_); focus ((try simp only [World.size_alloc, size_setCell, World.heap_drewN, size_drew]); (try omega); done)) | (with_reducible refine heap_drew' ?_) | (with_reducible refine heap_drew1' ?_))); done)))); rintro e wq ⟨⟨rv, rfl, htq⟩, hbq⟩; have hCq : Below wv.heap.size wv wq := Below.after (by ((repeat (first | (with_reducible exact Below.refl _ _) | (with_reducible assumption) | ((with_reducible refine Below.alloc ?_ ?_ _); rotate_left; focus ((try simp only [World.size_alloc, size_setCell, World.heap_drewN, size_drew]); (try omega); done)) | ((with_reducible refine Below.setCell ?_ ?_ _); rotate_left; focus ((try simp only [World.size_alloc, size_setCell, World.heap_drewN, size_drew]); (try omega); done)) | (with_reducible refine Below.drewN' ?_) | (with_reducible refine Below.drew ?_))); done)) hbq; have hsq := hCq.size; obtain ⟨ra, rc, rfl, -⟩ := htq.len)
        | (go_simp; go_at_call 20; refine (HP4'.out _ _ (Below.after hbv hCq) htq).mono ?_; rintro e wr ⟨⟨ga', gc', aa', ac', ca', cc', rfl, hrows⟩, hbr⟩; have hCr : Below wv.heap.size wv wr := Below.after hCq hbr; have hsr := hCr.size; simp only [hCells])
        | (go_simp; go_at_call 19; refine (HSM.out _ hCr _ _ _ (Givens.ofRow hrows.1) (Texts.ofRow hrows.2.1) (Ints.ofRow hrows.2.2)).mono ?_; rintro e ws ⟨rfl, hbs⟩; have hCx : Below wv.heap.size wv ws := Below.after hCr hbs; have hsx := hCx.size)
        | (go_simp; go_at_call 32; refine (lives14_any _).mono ?_; rintro e wt ⟨rfl, hbt⟩; have hCu : Below wv.heap.size wv wt := Below.after hCx hbt; have hsu := hCu.size))
    go_wp2_with fail
    go_ret
    exact ⟨rfl, HW.out _ (Below.after hbv hCu)⟩
end Go.Proofs.Ytcpjdgbnfjdakaa
