/- The methods of a list of texts that are not cut. (Printed by gen_ap.py.) -/
import Derived.Test.YtechagcodmiliaaDoorListV
namespace Go.Proofs.YtechagcodmiliaaDoor
open Go.RowKit
set_option linter.unusedVariables false
set_option linter.unusedSimpArgs false

abbrev AV := LV 62 22 9
theorem infoStr : (Tryd.prog.info? 9).map (fun i => (i.zero, i.size, i.bytes)) = some (some (.string ⟨#[]⟩), 1, 16) := by kernel_rfl

theorem newArr_any (va : Option Addr) (vn vc : Nat) (P : Nat) (w : World) {c : Value} (hP : w.heap[P]? = some (.cells #[c] 22 (0, 0))) :
    Calls Tryd.prog 31 #[.slice va vn vc, .pointer (some ⟨P, 0, none⟩)] w fun e w' => e = .returned (.pointer (some ⟨w.heap.size, 0, none⟩)) ∧ w'.heap[w.heap.size]? = some (.cells #[.pointer (some ⟨P, 0, none⟩), .bool false] 62 (0, 0)) ∧ w'.heap[P]? = some (.cells #[.slice va vn vc] 22 (0, 0)) ∧ w.grownBy w' (some P) := by
  have hlt := lt_of_block hP
  have h1 := cell_of_one hP
  have h2 := free_of_one hP
  have HP := Lib.hid hP
  clear hP
  go_enter Tryd.func31, Tryd.ntmps31
  go_wp2_with fail
  go_ret
  refine ⟨rfl, ?_, ?_, ?_⟩
  · exact heap_at _ _ _ (by simp [size_setCell])
  · exact heap_past' (by simpa [size_setCell] using hlt) (heap_set HP.out 0 _)
  · refine grown_trans (b := w.setCell ⟨P, 0, none⟩ (.slice va vn vc)) ⟨rfl, rfl, rfl, by simp [size_setCell], fun k _ hne => heap_ne _ _ _ _ (fun q => hne (by rw [q]))⟩ (grown_of ((Below.refl _ _).alloc (Nat.le_refl _) _) _)
theorem zzArr_any (va : Option Addr) (vn vc : Nat) (P : Nat) (w : World) {c : Value} (hP : w.heap[P]? = some (.cells #[c] 22 (0, 0))) :
    Calls Tryd.prog 24 #[.slice va vn vc, .pointer (some ⟨P, 0, none⟩)] w fun e w' => e = .returned (.pointer (some ⟨w.heap.size, 0, none⟩)) ∧ w'.heap[w.heap.size]? = some (.cells #[.pointer (some ⟨P, 0, none⟩), .bool false] 62 (0, 0)) ∧ w'.heap[P]? = some (.cells #[.slice va vn vc] 22 (0, 0)) ∧ w.grownBy w' (some P) := by
  have C := Lib.hid (newArr_any va vn vc P w hP)
  clear hP
  go_enter Tryd.func24, Tryd.ntmps24
  go_wp2_with fail
  refine C.out.mono ?_
  rintro e w2 ⟨rfl, h⟩
  have HH := Lib.hid h
  clear h C
  go_wp2_with fail
  go_ret
  exact ⟨rfl, HH.out⟩

theorem run_nilCheck {ρ : Operand → Value} {d : Option Tmp} {ty : TypeId} {pos : String} {af : Array Edge} {g : Option (Nat × Bool)} {x : Tmp} {w : World} {a : Addr} (h : ρ (.tmp x) = .pointer (some a)) :
    (execOp ρ ⟨d, .nilCheck (.tmp x), ty, pos, af, g⟩).run Tryd.prog w = .ok (.value (.pointer (some a))) w := by
  go_simp
theorem run_field0 {ρ : Operand → Value} {d : Option Tmp} {ty : TypeId} {pos : String} {af : Array Edge} {g : Option (Nat × Bool)} {x : Tmp} {w : World} {B : Nat} (h : ρ (.tmp x) = .pointer (some ⟨B, 0, none⟩)) :
    (execOp ρ ⟨d, .fieldAddr 62 (.tmp x) 0, ty, pos, af, g⟩).run Tryd.prog w = .ok (.value (.pointer (some ⟨B, 0, none⟩))) w := by
  go_simp
theorem run_loadP {ρ : Operand → Value} {d : Option Tmp} {ty : TypeId} {pos : String} {af : Array Edge} {g : Option (Nat × Bool)} {x : Tmp} {w : World} {B C : Nat} (h : ρ (.tmp x) = .pointer (some ⟨B, 0, none⟩)) (hc : w.cell? ⟨B, 0, none⟩ = some (.pointer (some ⟨C, 0, none⟩))) :
    (execOp ρ ⟨d, .load 47 (.tmp x), ty, pos, af, g⟩).run Tryd.prog w = .ok (.value (.pointer (some ⟨C, 0, none⟩))) w := by
  go_simp
theorem run_loadL {ρ : Operand → Value} {d : Option Tmp} {ty : TypeId} {pos : String} {af : Array Edge} {g : Option (Nat × Bool)} {x : Tmp} {w : World} {B : Nat} {a : Option Addr} {n c : Nat} (h : ρ (.tmp x) = .pointer (some ⟨B, 0, none⟩)) (hc : w.cell? ⟨B, 0, none⟩ = some (.slice a n c)) :
    (execOp ρ ⟨d, .load 22 (.tmp x), ty, pos, af, g⟩).run Tryd.prog w = .ok (.value (.slice a n c)) w := by
  go_simp
theorem run_build1 {ρ : Operand → Value} {d : Option Tmp} {ty : TypeId} {pos : String} {af : Array Edge} {g : Option (Nat × Bool)} {x : Tmp} {w : World} {s : ByteArray} (h : ρ (.tmp x) = .string s) :
    (execOp ρ ⟨d, .buildSlice 22 1 #[(0, .tmp x)], ty, pos, af, g⟩).run Tryd.prog w = .ok (.value (.slice (some ⟨w.heap.size, 0, none⟩) 1 1)) (w.alloc (.cells [Value.string s].toArray 9)) := by
  go_simp
theorem run_storeL {ρ : Operand → Value} {d : Option Tmp} {ty : TypeId} {pos : String} {af : Array Edge} {g : Option (Nat × Bool)} {x y : Tmp} {w : World} {B : Nat} {a : Option Addr} {n c : Nat} {v : Value} (h : ρ (.tmp x) = .pointer (some ⟨B, 0, none⟩)) (h' : ρ (.tmp y) = .slice a n c) (hc : w.cell? ⟨B, 0, none⟩ = some v) (hf : w.frozen? ⟨B, 0, none⟩ = false) :
    (execOp ρ ⟨d, .store 22 (.tmp x) (.tmp y), ty, pos, af, g⟩).run Tryd.prog w = .ok .skip (w.setCell ⟨B, 0, none⟩ (.slice a n c)) := by
  go_simp

/-- The slots' values of the append of one text behind the list. -/
def apV (vb pb : Nat) (ra : Option Addr) (n rc : Nat) (s : ByteArray) : List Value := [.pointer (some ⟨vb, 0, none⟩), .pointer (some ⟨vb, 0, none⟩), .pointer (some ⟨vb, 0, none⟩), .pointer (some ⟨pb, 0, none⟩), .pointer (some ⟨vb, 0, none⟩), .pointer (some ⟨vb, 0, none⟩), .pointer (some ⟨vb, 0, none⟩), .pointer (some ⟨pb, 0, none⟩), .pointer (some ⟨pb, 0, none⟩), .slice ra n rc, .string s, undef, undef, .pointer (some ⟨pb, 0, none⟩)]
def apS (k : Nat) : SayN := ⟨[(0, k), (1, k + 1), (2, k + 2), (3, k + 3), (4, k + 4), (5, k + 5), (6, k + 6), (7, k + 7), (8, k + 8), (9, k + 9), (10, k + 10), (13, k + 13)], 11, k + 11, 12, k + 12, 99, 999, 9⟩
def apJ (w : World) (base vb pb k : Nat) (ra : Option Addr) (rc : Nat) (l : List ByteArray) (s : ByteArray) (L : Nat → Bool) (f : Nat → Value) (wz : World) : Prop :=
  SJ w base 9 1 (.slice ra l.length rc) l.length (l.map .string) (apS k) (fun i v _ => v = (apV vb pb ra l.length rc s).getD i undef) (fun c _ => c = [Value.string s]) L f wz
def apI (w : World) (base vb pb k : Nat) (ch : Bool) (ra : Option Addr) (rc : Nat) (l : List ByteArray) (s : ByteArray) (L : Nat → Bool) (f : Nat → Value) (wz : World) : Prop :=
  (L 14 = false → apJ w base vb pb k ra rc l s L f wz) ∧ (∀ i, i < 14 → L 14 = true → L i = true) ∧ (L 14 = true → AV base vb pb ch (f (k + 12)) ((l ++ [s]).map .string) wz ∧ Moved vb pb (.slice ra l.length rc) (f (k + 12)) w wz)
theorem apI.step {w : World} {base vb pb k : Nat} {ch : Bool} {ra : Option Addr} {rc : Nat} {l : List ByteArray} {s : ByteArray} {L : Nat → Bool} {f' : Nat → Value} {w' : World} (j : Nat) (hj : j < 14) (h14 : L 14 = false) (h : apJ w base vb pb k ra rc l s (fun i => i == j || L i) f' w') : apI w base vb pb k ch ra rc l s (fun i => i == j || L i) f' w' := by
  have hn : (fun i => i == j || L i) 14 = false := by
    show (14 == j || L 14) = false
    rw [or_ne (by omega)]; exact h14
  exact ⟨fun _ => h, fun _ _ q => (by rw [hn] at q; cases q), fun q => (by rw [hn] at q; cases q)⟩
theorem ap_last {w : World} {base vb pb k : Nat} {ch : Bool} {ra : Option Addr} {rc : Nat} {l : List ByteArray} {s : ByteArray} {L : Nat → Bool} {f : Nat → Value} {wz : World} (h : AV base vb pb ch (.slice ra l.length rc) (l.map .string) w) (hJ : apJ w base vb pb k ra rc l s L f wz) (hA : L 12 = true) (hall : ∀ i, i < 14 → L i = true) :
    apI w base vb pb k ch ra rc l s (fun i => i == 14 || L i) f (wz.setCell ⟨pb, 0, none⟩ (f (k + 12))) := by
  refine ⟨fun q => absurd q (by simp), fun i hi _ => by
    show (i == 14 || L i) = true
    rw [or_ne (by omega)]; exact hall i hi, fun _ => ?_⟩
  obtain ⟨cs, hcs, hown⟩ := hJ.r1 hA
  subst hcs
  have hV := (hJ.bel.block _ (lt_of_block h.v) (fun q => row_ne h.v h.row (by decide) q.symm)).trans h.v
  have hP := (hJ.bel.block _ (lt_of_block h.p) (fun q => row_ne h.p h.row (by decide) q.symm)).trans h.p
  have hne : pb ≠ vb := cells_ne h.p h.v (by decide)
  refine ⟨⟨heap_ne' (Ne.symm hne) hV, heap_set hP 0 _, ?_⟩, ⟨hJ.bel.os, hJ.bel.tape, hJ.bel.output, by rw [size_setCell]; exact hJ.bel.size, fun b hb h1 h2 h3 => (heap_ne _ _ _ _ h2).trans (hJ.bel.block b hb h3), ?_⟩⟩
  · have := ownsRow_at (w' := wz.setCell ⟨pb, 0, none⟩ (f (k + 12))) hown (fun g hg => heap_ne _ _ _ _ (by
      obtain ⟨_, c, hc⟩ := ownsRow_cells hown hg
      exact cells_ne hc hP (by decide)))
    simpa [apS] using this
  · cases hg : (f (k + 12)).ownBlock with
    | none =>
      right; intro b hb; cases hb
    | some g =>
      rcases hJ.r3 hA g hg with q | q
      · left; exact q.symm
      · right; intro b hb; cases hb; exact q

set_option maxRecDepth 100000 in
theorem setArr_any (vb pb base : Nat) (ch : Bool) (pv : Value) (l : List ByteArray) (s : ByteArray) (w : World) (h : AV base vb pb ch pv (l.map .string) w) (hl : l.length ≤ 8589934592) (hb : base ≤ w.heap.size) :
    Calls Tryd.prog 25 #[.pointer (some ⟨vb, 0, none⟩), .string s] w (Did 62 22 9 base vb pb pv false true ((if ch then l ++ [s] else [s]).map .string) w) := by
  have H := Lib.hid h
  have c1 := cell_of h.v 0 _ rfl
  have c2 := cell_of h.v 1 _ rfl
  have f1 := frozen_of h.v 0
  have f2 := frozen_of h.v 1
  have c3 := cell_of_one h.p
  have f3 := free_of_one h.p
  have l1 := lt_of_block h.v
  have l2 := lt_of_block h.p
  clear h
  cases ch with
  | false =>
    go_enter Tryd.func25, Tryd.ntmps25
    go_wp2_with fail
    go_ret
    have hne : pb ≠ vb := cells_ne H.out.p H.out.v (by decide)
    have q2 : ((w.setCell ⟨pb, 0, none⟩ (.slice (some ⟨w.heap.size, 0, none⟩) 1 1)).setCell ⟨vb, 1, none⟩ (.bool true)).heap.size = w.heap.size := by simp [size_setCell]
    refine ⟨_, .slice (some ⟨w.heap.size, 0, none⟩) 1 1, rfl, rfl, ⟨?_, ?_, ?_⟩, ⟨rfl, rfl, rfl, by simp [size_setCell], ?_, .inr (by intro b hb; cases hb; exact Nat.le_refl _)⟩⟩
    · exact heap_past' (by rw [q2]; exact l1) (heap_set (heap_ne' (Ne.symm hne) H.out.v) 1 _)
    · exact heap_past' (by rw [q2]; exact l2) (heap_ne' hne (heap_set H.out.p 0 _))
    · exact ⟨rfl, .inr ⟨w.heap.size, 1, #[.string s], rfl, hb, heap_at _ _ _ q2.symm, Nat.le_refl _, by decide, rfl, rfl⟩⟩
    · intro b hb0 h1 h2 _
      exact heap_past' (by rw [q2]; exact hb0) (heap_ne' h1 (heap_ne _ _ _ _ h2))
  | true =>
    obtain ⟨ra, rc, rfl⟩ := row_form H.out.row
    simp only [List.length_map] at *
    go_enter Tryd.func25, Tryd.ntmps25
    go_upto_region 4 with fail
    have WF : (apS 20).Wf := ⟨by decide, by decide⟩
    have mV : ∀ (i : Nat) (v : Value) (w w' : World), w.grownBy w' (Value.slice ra l.length rc).ownBlock → v = (apV vb pb ra l.length rc s).getD i undef → v = (apV vb pb ra l.length rc s).getD i undef := fun _ _ _ _ _ h => h
    have mC : ∀ (c : List Value) (w w' : World), w.grownBy w' (Value.slice ra l.length rc).ownBlock → c = [Value.string s] → c = [Value.string s] := fun _ _ _ _ h => h
    refine wp_region_og [20, 21, 22, 23, 24, 25, 26, 27, 28, 29, 30, 31, 32, 33] (apI w base vb pb 20 true ra rc l s) (by kernel_rfl) (by kernel_rfl) ⟨fun _ => SJ.start rfl (by simpa using H.out.row) _ (fun h => absurd h (by decide)), fun _ _ h => Bool.noConfusion h, fun h => Bool.noConfusion h⟩ ?_ ?_
    · intro i o ho L f wz hl hp hJ
      have hi : i < 15 := (Array.getElem?_eq_some_iff.1 ho).1
      have h14 : L 14 = false := by
        cases hc : L 14 with
        | false => rfl
        | true =>
          by_cases e : i = 14
          · subst e; rw [hc] at hl; cases hl
          · rw [hJ.2.1 i (by omega) hc] at hl; cases hl
      have hI := hJ.1 h14
      have HV : wz.heap[vb]? = some (.cells #[.pointer (some ⟨pb, 0, none⟩), .bool true] 62 (0, 0)) := (hI.bel.block _ (lt_of_block H.out.v) (fun q => row_ne H.out.v H.out.row (by decide) (by simpa using q.symm))).trans H.out.v
      have HPz : wz.heap[pb]? = some (.cells #[.slice ra l.length rc] 22 (0, 0)) := (hI.bel.block _ (lt_of_block H.out.p) (fun q => row_ne H.out.p H.out.row (by decide) (by simpa using q.symm))).trans (by simpa using H.out.p)
      obtain rfl | rfl | rfl | rfl | rfl | rfl | rfl | rfl | rfl | rfl | rfl | rfl | rfl | rfl | rfl : i = 0 ∨ i = 1 ∨ i = 2 ∨ i = 3 ∨ i = 4 ∨ i = 5 ∨ i = 6 ∨ i = 7 ∨ i = 8 ∨ i = 9 ∨ i = 10 ∨ i = 11 ∨ i = 12 ∨ i = 13 ∨ i = 14 := by omega
      all_goals obtain rfl := Option.some.inj ho
      · exact og_op rfl rfl (og_value (run_move ((over_eval_out _ _ _ (by decide)).trans rfl)) ⟨_, over_put _ _ _ (by decide) _, apI.step 0 (by omega) h14 (hI.pure mV mC WF (i := 0) (by decide) (Below.refl _ _) rfl)⟩)
      · have e0 := hI.v 0 20 (by decide) (hp ⟨0, .data⟩ (by simp) rfl)
        exact og_op rfl rfl (og_value (run_nilCheck ((over_eval _ _ _ (by decide) (by show 20 < 34; omega)).trans e0)) ⟨_, over_put _ _ _ (by decide) _, apI.step 1 (by omega) h14 (hI.pure mV mC WF (i := 1) (by decide) (Below.refl _ _) rfl)⟩)
      · have e1 := hI.v 1 21 (by decide) (hp ⟨1, .data⟩ (by simp) rfl)
        exact og_op rfl rfl (og_value (run_field0 ((over_eval _ _ _ (by decide) (by show 21 < 34; omega)).trans e1)) ⟨_, over_put _ _ _ (by decide) _, apI.step 2 (by omega) h14 (hI.pure mV mC WF (i := 2) (by decide) (Below.refl _ _) rfl)⟩)
      · have e2 := hI.v 2 22 (by decide) (hp ⟨2, .data⟩ (by simp) rfl)
        exact og_op rfl rfl (og_value (run_loadP ((over_eval _ _ _ (by decide) (by show 22 < 34; omega)).trans e2) (cell_of HV 0 _ rfl)) ⟨_, over_put _ _ _ (by decide) _, apI.step 3 (by omega) h14 (hI.pure mV mC WF (i := 3) (by decide) (Below.refl _ _) rfl)⟩)
      · exact og_op rfl rfl (og_value (run_move ((over_eval_out _ _ _ (by decide)).trans rfl)) ⟨_, over_put _ _ _ (by decide) _, apI.step 4 (by omega) h14 (hI.pure mV mC WF (i := 4) (by decide) (Below.refl _ _) rfl)⟩)
      · have e4 := hI.v 4 24 (by decide) (hp ⟨4, .data⟩ (by simp) rfl)
        exact og_op rfl rfl (og_value (run_nilCheck ((over_eval _ _ _ (by decide) (by show 24 < 34; omega)).trans e4)) ⟨_, over_put _ _ _ (by decide) _, apI.step 5 (by omega) h14 (hI.pure mV mC WF (i := 5) (by decide) (Below.refl _ _) rfl)⟩)
      · have e5 := hI.v 5 25 (by decide) (hp ⟨5, .data⟩ (by simp) rfl)
        exact og_op rfl rfl (og_value (run_field0 ((over_eval _ _ _ (by decide) (by show 25 < 34; omega)).trans e5)) ⟨_, over_put _ _ _ (by decide) _, apI.step 6 (by omega) h14 (hI.pure mV mC WF (i := 6) (by decide) (Below.refl _ _) rfl)⟩)
      · have e6 := hI.v 6 26 (by decide) (hp ⟨6, .data⟩ (by simp) rfl)
        exact og_op rfl rfl (og_value (run_loadP ((over_eval _ _ _ (by decide) (by show 26 < 34; omega)).trans e6) (cell_of HV 0 _ rfl)) ⟨_, over_put _ _ _ (by decide) _, apI.step 7 (by omega) h14 (hI.pure mV mC WF (i := 7) (by decide) (Below.refl _ _) rfl)⟩)
      · have e7 := hI.v 7 27 (by decide) (hp ⟨7, .data⟩ (by simp) rfl)
        exact og_op rfl rfl (og_value (run_nilCheck ((over_eval _ _ _ (by decide) (by show 27 < 34; omega)).trans e7)) ⟨_, over_put _ _ _ (by decide) _, apI.step 8 (by omega) h14 (hI.pure mV mC WF (i := 8) (by decide) (Below.refl _ _) rfl)⟩)
      · have e8 := hI.v 8 28 (by decide) (hp ⟨8, .data⟩ (by simp) rfl)
        exact og_op rfl rfl (og_value (run_loadL ((over_eval _ _ _ (by decide) (by show 28 < 34; omega)).trans e8) (cell_of_one HPz)) ⟨_, over_put _ _ _ (by decide) _, apI.step 9 (by omega) h14 (hI.pure mV mC WF (i := 9) (by decide) (Below.refl _ _) rfl)⟩)
      · exact og_op rfl rfl (og_value (run_move ((over_eval_out _ _ _ (by decide)).trans rfl)) ⟨_, over_put _ _ _ (by decide) _, apI.step 10 (by omega) h14 (hI.pure mV mC WF (i := 10) (by decide) (Below.refl _ _) rfl)⟩)
      · have e10 := hI.v 10 30 (by decide) (hp ⟨10, .data⟩ (by simp) rfl)
        exact og_op rfl rfl (og_value (run_build1 ((over_eval _ _ _ (by decide) (by show 30 < 34; omega)).trans e10)) ⟨_, over_put _ _ _ (by decide) _, apI.step 11 (by omega) h14 (hI.built mV mC WF hl [Value.string s] rfl)⟩)
      · have e9 := hI.v 9 29 (by decide) (hp ⟨9, .data⟩ (by simp) rfl)
        have hB := hp ⟨11, .data⟩ (by simp) rfl
        have hZ := hp ⟨9, .data⟩ (by simp) rfl
        refine og_op rfl rfl (Oper.wp_mono ?_ (hI.append (Q := _) mV mC WF hl hB hZ (.tmp 29) (.tmp 31) rfl rfl (by decide) Tryd.underlying22 infoStr rfl (by omega) ((over_eval _ _ _ (by decide) (by show 29 < 34; omega)).trans e9) (over_eval _ _ _ (by decide) (by show 31 < 34; omega)) (fun cs _ h => by subst h; exact ⟨rfl, by simp [Value.oneCell']⟩) (by unfold maxLen; omega) (by omega) (Nat.le_trans hb hI.bel.size)))
        rintro a' w' ⟨f', e1, e2⟩
        exact ⟨f', e1, apI.step 12 (by omega) h14 e2⟩
      · have e3 := hI.v 3 23 (by decide) (hp ⟨3, .data⟩ (by simp) rfl)
        exact og_op rfl rfl (og_value (run_nilCheck ((over_eval _ _ _ (by decide) (by show 23 < 34; omega)).trans e3)) ⟨_, over_put _ _ _ (by decide) _, apI.step 13 (by omega) h14 (hI.pure mV mC WF (i := 13) (by decide) (Below.refl _ _) rfl)⟩)
      · have e13 := hI.v 13 33 (by decide) (hp ⟨13, .data⟩ (by simp) rfl)
        have hA := hp ⟨12, .data⟩ (by simp) rfl
        have hall : ∀ i, i < 14 → L i = true := by
          intro i hi
          obtain rfl | rfl | rfl | rfl | rfl | rfl | rfl | rfl | rfl | rfl | rfl | rfl | rfl | rfl : i = 0 ∨ i = 1 ∨ i = 2 ∨ i = 3 ∨ i = 4 ∨ i = 5 ∨ i = 6 ∨ i = 7 ∨ i = 8 ∨ i = 9 ∨ i = 10 ∨ i = 11 ∨ i = 12 ∨ i = 13 := by omega
          · exact hp ⟨0, .phase⟩ (by simp) rfl
          · exact hp ⟨1, .phase⟩ (by simp) rfl
          · exact hp ⟨2, .phase⟩ (by simp) rfl
          · exact hp ⟨3, .phase⟩ (by simp) rfl
          · exact hp ⟨4, .phase⟩ (by simp) rfl
          · exact hp ⟨5, .phase⟩ (by simp) rfl
          · exact hp ⟨6, .phase⟩ (by simp) rfl
          · exact hp ⟨7, .phase⟩ (by simp) rfl
          · exact hp ⟨8, .phase⟩ (by simp) rfl
          · exact hp ⟨9, .phase⟩ (by simp) rfl
          · exact hp ⟨10, .phase⟩ (by simp) rfl
          · exact hp ⟨11, .phase⟩ (by simp) rfl
          · exact hp ⟨12, .phase⟩ (by simp) rfl
          · exact hp ⟨13, .data⟩ (by simp) rfl
        obtain ⟨cs, -, hown⟩ := hI.r1 hA
        obtain ⟨g2, c2, hform⟩ := row_form hown
        refine og_op rfl rfl (og_skip (run_storeL ((over_eval _ _ _ (by decide) (by show 33 < 34; omega)).trans e13) ((over_eval _ _ _ (by decide) (by show 32 < 34; omega)).trans (show f 32 = _ from hform)) (cell_of_one HPz) (free_of_one HPz)) ⟨f, rfl, ?_⟩)
        rw [← show f 32 = _ from hform]
        exact ap_last (by simpa using H.out) hI hA hall
    · intro L f wz hl hJ
      have hF := hJ.2.2 (hl 14 (by show 14 < 15; omega))
      have HF := Lib.hid hF
      clear hJ hF hl
      simp only [over, ovl, List.contains, List.elem, Nat.reduceBEq, Bool.false_eq_true, if_false, if_true, Nat.reduceAdd] at HF ⊢
      generalize f 32 = v7 at *
      go_wp2_with fail
      go_ret
      exact ⟨_, _, rfl, rfl, by simpa using HF.out.1, HF.out.2⟩

set_option maxRecDepth 100000 in
theorem appendArr_any (vb pb base : Nat) (ch : Bool) (pv : Value) (l : List ByteArray) (s : ByteArray) (w : World) (h : AV base vb pb ch pv (l.map .string) w) (hl : l.length ≤ 8589934592) (hb : base ≤ w.heap.size) :
    Calls Tryd.prog 26 #[.pointer (some ⟨vb, 0, none⟩), .string s] w (Did 62 22 9 base vb pb pv false ch ((l ++ [s]).map .string) w) := by
  have H := Lib.hid h
  have l1 := lt_of_block h.v
  have l2 := lt_of_block h.p
  clear h
  · obtain ⟨ra, rc, rfl⟩ := row_form H.out.row
    simp only [List.length_map] at *
    go_enter Tryd.func26, Tryd.ntmps26
    go_upto_region 1 with fail
    have WF : (apS 5).Wf := ⟨by decide, by decide⟩
    have mV : ∀ (i : Nat) (v : Value) (w w' : World), w.grownBy w' (Value.slice ra l.length rc).ownBlock → v = (apV vb pb ra l.length rc s).getD i undef → v = (apV vb pb ra l.length rc s).getD i undef := fun _ _ _ _ _ h => h
    have mC : ∀ (c : List Value) (w w' : World), w.grownBy w' (Value.slice ra l.length rc).ownBlock → c = [Value.string s] → c = [Value.string s] := fun _ _ _ _ h => h
    refine wp_region_og [5, 6, 7, 8, 9, 10, 11, 12, 13, 14, 15, 16, 17, 18] (apI w base vb pb 5 ch ra rc l s) (by kernel_rfl) (by kernel_rfl) ⟨fun _ => SJ.start rfl (by simpa using H.out.row) _ (fun h => absurd h (by decide)), fun _ _ h => Bool.noConfusion h, fun h => Bool.noConfusion h⟩ ?_ ?_
    · intro i o ho L f wz hl hp hJ
      have hi : i < 15 := (Array.getElem?_eq_some_iff.1 ho).1
      have h14 : L 14 = false := by
        cases hc : L 14 with
        | false => rfl
        | true =>
          by_cases e : i = 14
          · subst e; rw [hc] at hl; cases hl
          · rw [hJ.2.1 i (by omega) hc] at hl; cases hl
      have hI := hJ.1 h14
      have HV : wz.heap[vb]? = some (.cells #[.pointer (some ⟨pb, 0, none⟩), .bool ch] 62 (0, 0)) := (hI.bel.block _ (lt_of_block H.out.v) (fun q => row_ne H.out.v H.out.row (by decide) (by simpa using q.symm))).trans H.out.v
      have HPz : wz.heap[pb]? = some (.cells #[.slice ra l.length rc] 22 (0, 0)) := (hI.bel.block _ (lt_of_block H.out.p) (fun q => row_ne H.out.p H.out.row (by decide) (by simpa using q.symm))).trans (by simpa using H.out.p)
      obtain rfl | rfl | rfl | rfl | rfl | rfl | rfl | rfl | rfl | rfl | rfl | rfl | rfl | rfl | rfl : i = 0 ∨ i = 1 ∨ i = 2 ∨ i = 3 ∨ i = 4 ∨ i = 5 ∨ i = 6 ∨ i = 7 ∨ i = 8 ∨ i = 9 ∨ i = 10 ∨ i = 11 ∨ i = 12 ∨ i = 13 ∨ i = 14 := by omega
      all_goals obtain rfl := Option.some.inj ho
      · exact og_op rfl rfl (og_value (run_move ((over_eval_out _ _ _ (by decide)).trans rfl)) ⟨_, over_put _ _ _ (by decide) _, apI.step 0 (by omega) h14 (hI.pure mV mC WF (i := 0) (by decide) (Below.refl _ _) rfl)⟩)
      · have e0 := hI.v 0 5 (by decide) (hp ⟨0, .data⟩ (by simp) rfl)
        exact og_op rfl rfl (og_value (run_nilCheck ((over_eval _ _ _ (by decide) (by show 5 < 19; omega)).trans e0)) ⟨_, over_put _ _ _ (by decide) _, apI.step 1 (by omega) h14 (hI.pure mV mC WF (i := 1) (by decide) (Below.refl _ _) rfl)⟩)
      · have e1 := hI.v 1 6 (by decide) (hp ⟨1, .data⟩ (by simp) rfl)
        exact og_op rfl rfl (og_value (run_field0 ((over_eval _ _ _ (by decide) (by show 6 < 19; omega)).trans e1)) ⟨_, over_put _ _ _ (by decide) _, apI.step 2 (by omega) h14 (hI.pure mV mC WF (i := 2) (by decide) (Below.refl _ _) rfl)⟩)
      · have e2 := hI.v 2 7 (by decide) (hp ⟨2, .data⟩ (by simp) rfl)
        exact og_op rfl rfl (og_value (run_loadP ((over_eval _ _ _ (by decide) (by show 7 < 19; omega)).trans e2) (cell_of HV 0 _ rfl)) ⟨_, over_put _ _ _ (by decide) _, apI.step 3 (by omega) h14 (hI.pure mV mC WF (i := 3) (by decide) (Below.refl _ _) rfl)⟩)
      · exact og_op rfl rfl (og_value (run_move ((over_eval_out _ _ _ (by decide)).trans rfl)) ⟨_, over_put _ _ _ (by decide) _, apI.step 4 (by omega) h14 (hI.pure mV mC WF (i := 4) (by decide) (Below.refl _ _) rfl)⟩)
      · have e4 := hI.v 4 9 (by decide) (hp ⟨4, .data⟩ (by simp) rfl)
        exact og_op rfl rfl (og_value (run_nilCheck ((over_eval _ _ _ (by decide) (by show 9 < 19; omega)).trans e4)) ⟨_, over_put _ _ _ (by decide) _, apI.step 5 (by omega) h14 (hI.pure mV mC WF (i := 5) (by decide) (Below.refl _ _) rfl)⟩)
      · have e5 := hI.v 5 10 (by decide) (hp ⟨5, .data⟩ (by simp) rfl)
        exact og_op rfl rfl (og_value (run_field0 ((over_eval _ _ _ (by decide) (by show 10 < 19; omega)).trans e5)) ⟨_, over_put _ _ _ (by decide) _, apI.step 6 (by omega) h14 (hI.pure mV mC WF (i := 6) (by decide) (Below.refl _ _) rfl)⟩)
      · have e6 := hI.v 6 11 (by decide) (hp ⟨6, .data⟩ (by simp) rfl)
        exact og_op rfl rfl (og_value (run_loadP ((over_eval _ _ _ (by decide) (by show 11 < 19; omega)).trans e6) (cell_of HV 0 _ rfl)) ⟨_, over_put _ _ _ (by decide) _, apI.step 7 (by omega) h14 (hI.pure mV mC WF (i := 7) (by decide) (Below.refl _ _) rfl)⟩)
      · have e7 := hI.v 7 12 (by decide) (hp ⟨7, .data⟩ (by simp) rfl)
        exact og_op rfl rfl (og_value (run_nilCheck ((over_eval _ _ _ (by decide) (by show 12 < 19; omega)).trans e7)) ⟨_, over_put _ _ _ (by decide) _, apI.step 8 (by omega) h14 (hI.pure mV mC WF (i := 8) (by decide) (Below.refl _ _) rfl)⟩)
      · have e8 := hI.v 8 13 (by decide) (hp ⟨8, .data⟩ (by simp) rfl)
        exact og_op rfl rfl (og_value (run_loadL ((over_eval _ _ _ (by decide) (by show 13 < 19; omega)).trans e8) (cell_of_one HPz)) ⟨_, over_put _ _ _ (by decide) _, apI.step 9 (by omega) h14 (hI.pure mV mC WF (i := 9) (by decide) (Below.refl _ _) rfl)⟩)
      · exact og_op rfl rfl (og_value (run_move ((over_eval_out _ _ _ (by decide)).trans rfl)) ⟨_, over_put _ _ _ (by decide) _, apI.step 10 (by omega) h14 (hI.pure mV mC WF (i := 10) (by decide) (Below.refl _ _) rfl)⟩)
      · have e10 := hI.v 10 15 (by decide) (hp ⟨10, .data⟩ (by simp) rfl)
        exact og_op rfl rfl (og_value (run_build1 ((over_eval _ _ _ (by decide) (by show 15 < 19; omega)).trans e10)) ⟨_, over_put _ _ _ (by decide) _, apI.step 11 (by omega) h14 (hI.built mV mC WF hl [Value.string s] rfl)⟩)
      · have e9 := hI.v 9 14 (by decide) (hp ⟨9, .data⟩ (by simp) rfl)
        have hB := hp ⟨11, .data⟩ (by simp) rfl
        have hZ := hp ⟨9, .data⟩ (by simp) rfl
        refine og_op rfl rfl (Oper.wp_mono ?_ (hI.append (Q := _) mV mC WF hl hB hZ (.tmp 14) (.tmp 16) rfl rfl (by decide) Tryd.underlying22 infoStr rfl (by omega) ((over_eval _ _ _ (by decide) (by show 14 < 19; omega)).trans e9) (over_eval _ _ _ (by decide) (by show 16 < 19; omega)) (fun cs _ h => by subst h; exact ⟨rfl, by simp [Value.oneCell']⟩) (by unfold maxLen; omega) (by omega) (Nat.le_trans hb hI.bel.size)))
        rintro a' w' ⟨f', e1, e2⟩
        exact ⟨f', e1, apI.step 12 (by omega) h14 e2⟩
      · have e3 := hI.v 3 8 (by decide) (hp ⟨3, .data⟩ (by simp) rfl)
        exact og_op rfl rfl (og_value (run_nilCheck ((over_eval _ _ _ (by decide) (by show 8 < 19; omega)).trans e3)) ⟨_, over_put _ _ _ (by decide) _, apI.step 13 (by omega) h14 (hI.pure mV mC WF (i := 13) (by decide) (Below.refl _ _) rfl)⟩)
      · have e13 := hI.v 13 18 (by decide) (hp ⟨13, .data⟩ (by simp) rfl)
        have hA := hp ⟨12, .data⟩ (by simp) rfl
        have hall : ∀ i, i < 14 → L i = true := by
          intro i hi
          obtain rfl | rfl | rfl | rfl | rfl | rfl | rfl | rfl | rfl | rfl | rfl | rfl | rfl | rfl : i = 0 ∨ i = 1 ∨ i = 2 ∨ i = 3 ∨ i = 4 ∨ i = 5 ∨ i = 6 ∨ i = 7 ∨ i = 8 ∨ i = 9 ∨ i = 10 ∨ i = 11 ∨ i = 12 ∨ i = 13 := by omega
          · exact hp ⟨0, .phase⟩ (by simp) rfl
          · exact hp ⟨1, .phase⟩ (by simp) rfl
          · exact hp ⟨2, .phase⟩ (by simp) rfl
          · exact hp ⟨3, .phase⟩ (by simp) rfl
          · exact hp ⟨4, .phase⟩ (by simp) rfl
          · exact hp ⟨5, .phase⟩ (by simp) rfl
          · exact hp ⟨6, .phase⟩ (by simp) rfl
          · exact hp ⟨7, .phase⟩ (by simp) rfl
          · exact hp ⟨8, .phase⟩ (by simp) rfl
          · exact hp ⟨9, .phase⟩ (by simp) rfl
          · exact hp ⟨10, .phase⟩ (by simp) rfl
          · exact hp ⟨11, .phase⟩ (by simp) rfl
          · exact hp ⟨12, .phase⟩ (by simp) rfl
          · exact hp ⟨13, .data⟩ (by simp) rfl
        obtain ⟨cs, -, hown⟩ := hI.r1 hA
        obtain ⟨g2, c2, hform⟩ := row_form hown
        refine og_op rfl rfl (og_skip (run_storeL ((over_eval _ _ _ (by decide) (by show 18 < 19; omega)).trans e13) ((over_eval _ _ _ (by decide) (by show 17 < 19; omega)).trans (show f 17 = _ from hform)) (cell_of_one HPz) (free_of_one HPz)) ⟨f, rfl, ?_⟩)
        rw [← show f 17 = _ from hform]
        exact ap_last (by simpa using H.out) hI hA hall
    · intro L f wz hl hJ
      have hF := hJ.2.2 (hl 14 (by show 14 < 15; omega))
      have HF := Lib.hid hF
      clear hJ hF hl
      simp only [over, ovl, List.contains, List.elem, Nat.reduceBEq, Bool.false_eq_true, if_false, if_true, Nat.reduceAdd] at HF ⊢
      generalize f 17 = v7 at *
      go_wp2_with fail
      go_ret
      exact ⟨_, _, rfl, rfl, by simpa using HF.out.1, HF.out.2⟩

set_option maxRecDepth 100000 in
theorem getArr_any (vb pb base : Nat) (ch : Bool) (pv : Value) (l : List ByteArray) (w : World) (h : AV base vb pb ch pv (l.map .string) w) (hl : l.length ≤ 8589934592) :
    Calls Tryd.prog 28 #[.pointer (some ⟨vb, 0, none⟩)] w fun e w' => ∃ g, e = .returned (.slice (some ⟨g, 0, none⟩) l.length l.length) ∧ Fill 9 (.string ⟨#[]⟩) w g (l.map .string) l.length w' := by
  have HV := Lib.hid (fun W (hb : Below w.heap.size w W) => h.later hb)
  obtain ⟨ra, rc, rfl⟩ := row_form h.row
  simp only [List.length_map] at *
  have H := Lib.hid h
  have c1 := cell_of h.v 0 _ rfl
  have c3 := cell_of_one h.p
  have l1 := lt_of_block h.v
  have l2 := lt_of_block h.p
  clear h
  obtain ⟨G, hG⟩ : ∃ G, G = w.heap.size := ⟨_, rfl⟩
  obtain ⟨w1, hw1⟩ : ∃ w1, w1 = w.alloc (.cells (Array.replicate l.length (.string ⟨#[]⟩)) 9) := ⟨_, rfl⟩
  have HM := make_full (P := Tryd.prog) w Tryd.underlying22 infoStr rfl l.length (by omega) (by omega)
  rw [← hw1, ← hG] at HM
  have F0 : Fill 9 (.string ⟨#[]⟩) w G (l.map .string) 0 w1 := by
    rw [hG]
    exact Fill.start (Below.refl _ _) (by rw [hw1]; simp)
  have F := Lib.hid F0
  have hv1 := HV.out w1 F0.bel
  have d1 := cell_of hv1.v 0 _ rfl
  have d3 := cell_of_one hv1.p
  clear F0 hv1 hG hw1
  go_enter Tryd.func28, Tryd.ntmps28
  go_wp2_with fail
  go_loopw [4, 5, 21] (fun _ _ vi wr => ∃ k : Nat, k ≤ l.length ∧ vi = .int .i64 k ∧ Fill 9 (.string ⟨#[]⟩) w G (l.map .string) k wr) (fun _ _ vi _ => l.length - (intOf vi).toNat)
  case atStart => exact ⟨0, Nat.zero_le _, rfl, F.out⟩
  case round =>
    obtain ⟨k, hk, rfl, hr⟩ := hrel
    have HR := Lib.hid hr
    by_cases hlt : k < l.length
    case neg =>
      have ek : k = l.length := by omega
      have HF : Hid (Fill 9 (.string ⟨#[]⟩) w G (l.map .string) (l.map Value.string).length wr) := Lib.hid (by
        subst ek; simpa using hr)
      clear ek hr
      go_wp2_with fail
      go_ret
      exact ⟨_, rfl, by simpa using HF.out⟩
    obtain ⟨tb, tof, rfl, hc⟩ := (Vals.owned (HV.out wr hr.bel).row).cell (by simpa using Nat.lt_of_le_of_lt (Nat.zero_le _) hlt)
    have hck := hc k (by simpa using hlt)
    rw [List.getElem_map] at hck
    have g1 := hr.cell (by simpa using hlt)
    have g2 := frozen_of hr.row k
    clear hr hc
    go_wp2_with fail
    go_roundw
    case rel => exact ⟨k + 1, by omega, by go_num, HR.out.next (by simpa using hlt) (by simp)⟩
    case measure => simp [intOf]; omega

set_option maxRecDepth 100000 in
theorem replaceArr_any (vb pb base : Nat) (ch : Bool) (pv : Value) (l : List ByteArray) (sv : Value) (ts : List ByteArray) (w : World) (h : AV base vb pb ch pv (l.map .string) w) (ht : Strs w sv ts) (hl : ts.length ≤ 8589934592) (hb : base ≤ w.heap.size) :
    Calls Tryd.prog 27 #[.pointer (some ⟨vb, 0, none⟩), sv] w (Did 62 22 9 base vb pb pv false ch (ts.map .string) w) := by
  have HV := Lib.hid (fun W (hb : Below w.heap.size w W) => h.later hb)
  have HT := Lib.hid (fun W (hb : Below w.heap.size w W) => ht.later hb.block)
  obtain ⟨ta, tc, rfl⟩ := ht.len
  have HB := Lib.hid hb
  obtain ⟨G, hG⟩ : ∃ G, G = w.heap.size := ⟨_, rfl⟩
  obtain ⟨w1, hw1⟩ : ∃ w1, w1 = w.alloc (.cells (Array.replicate ts.length (.string ⟨#[]⟩)) 9) := ⟨_, rfl⟩
  have HM := make_full (P := Tryd.prog) w Tryd.underlying22 infoStr rfl ts.length (by omega) (by omega)
  rw [← hw1, ← hG] at HM
  have F0 : Fill 9 (.string ⟨#[]⟩) w G (ts.map .string) 0 w1 := by
    rw [hG]
    exact Fill.start (Below.refl _ _) (by rw [hw1]; simp)
  have F := Lib.hid F0
  have HG := Lib.hid hG
  clear F0 hG hw1 h ht hb
  go_enter Tryd.func27, Tryd.ntmps27
  go_wp2_with fail
  go_loopw [6, 7, 13] (fun _ _ vi wr => ∃ k : Nat, k ≤ ts.length ∧ vi = .int .i64 k ∧ Fill 9 (.string ⟨#[]⟩) w G (ts.map .string) k wr) (fun _ _ vi _ => ts.length - (intOf vi).toNat)
  case atStart => exact ⟨0, Nat.zero_le _, rfl, F.out⟩
  case round =>
    obtain ⟨k, hk, rfl, hr⟩ := hrel
    have HR := Lib.hid hr
    by_cases hlt : k < ts.length
    case neg =>
      have ek : k = ts.length := by omega
      have HF : Hid (Fill 9 (.string ⟨#[]⟩) w G (ts.map .string) (ts.map Value.string).length wr) := Lib.hid (by
        subst ek; simpa using hr)
      have hv := HV.out wr hr.bel
      have c1 := cell_of hv.v 0 _ rfl
      have c3 := cell_of_one hv.p
      have f3 := free_of_one hv.p
      clear ek hr hv
      go_wp2_with fail
      go_ret
      have hV := HV.out wr HF.out.bel
      have hne : pb ≠ vb := cells_ne hV.p hV.v (by decide)
      have hgp : pb < w.heap.size := lt_of_block (HV.out w (Below.refl _ _)).p
      have hown := HF.out.owned (by unfold maxLen; simp; omega) HB.out
      refine ⟨_, .slice (some ⟨G, 0, none⟩) ts.length ts.length, rfl, rfl, ⟨heap_ne' (Ne.symm hne) hV.v, heap_set hV.p 0 _, ?_⟩, ⟨HF.out.bel.os, HF.out.bel.tape, HF.out.bel.output, by rw [size_setCell]; exact HF.out.bel.size, fun b hb0 h1 h2 _ => (heap_ne _ _ _ _ h2).trans (HF.out.bel.block b hb0), .inr (by intro b hb; cases hb; rw [HG.out]; exact Nat.le_refl _)⟩⟩
      have := ownsRow_at (w' := wr.setCell ⟨pb, 0, none⟩ (.slice (some ⟨G, 0, none⟩) ts.length ts.length)) hown (fun g hg => heap_ne _ _ _ _ (by
        obtain ⟨_, c, hc⟩ := ownsRow_cells hown hg
        exact cells_ne hc hV.p (by decide)))
      simpa using this
    obtain ⟨tb, tof, rfl, hc⟩ := (HT.out wr hr.bel).cell (by omega)
    have hck := hc k hlt
    have g1 := hr.cell (by simpa using hlt)
    have g2 := frozen_of hr.row k
    clear hr hc
    go_wp2_with fail
    go_roundw
    case rel => exact ⟨k + 1, by omega, by go_num, HR.out.next (by simpa using hlt) (by simp)⟩
    case measure => simp [intOf]; omega
end Go.Proofs.YtechagcodmiliaaDoor
