/- The set with a flag of texts: set, asked. -/
import Derived.Test.YtkhjffjdchkobaaOneT
namespace Go.Proofs.Ytkhjffjdchkobaa
open Go.RowKit
set_option linter.unusedVariables false
set_option linter.unusedSimpArgs false

/-- What stays: all but three blocks. -/
structure Fr (F G P : Nat) (w w' : World) : Prop where
  size : w.heap.size ≤ w'.heap.size
  block : ∀ b, b < w.heap.size → b ≠ F → b ≠ G → b ≠ P → w'.heap[b]? = w.heap[b]?
theorem Fr.below {F G P : Nat} {w w' : World} (h : Below w.heap.size w w') : Fr F G P w w' := ⟨h.size, fun b hb _ _ _ => h.block b hb⟩
theorem Fr.trans {F G P : Nat} {a b c : World} (h : Fr F G P a b) (k : Fr F G P b c) : Fr F G P a c :=
  ⟨Nat.le_trans h.size k.size, fun i hi h1 h2 h3 => (k.block i (Nat.lt_of_lt_of_le hi h.size) h1 h2 h3).trans (h.block i hi h1 h2 h3)⟩
theorem Fr.set {F G P : Nat} {w : World} {b j : Nat} {v : Value} (h : b = F ∨ b = G ∨ b = P) : Fr F G P w (w.setCell ⟨b, j, none⟩ v) :=
  ⟨by rw [size_setCell]; exact Nat.le_refl _, fun i _ h1 h2 h3 => heap_ne _ _ _ _ (by rcases h with rfl | rfl | rfl <;> assumption)⟩
theorem Fr.row {F G P : Nat} {w w' : World} (h : Fr F G P w w') {base : Nat} {e tF tG tP : TypeId} {sz n : Nat} {v : Value} {xs : List Value} {cF cG cP : Array Value} {z1 z2 z3 : Nat × Nat} (hr : w.ownsRow base e sz v n xs) (hF : w.heap[F]? = some (.cells cF tF z1)) (hG : w.heap[G]? = some (.cells cG tG z2)) (hP : w.heap[P]? = some (.cells cP tP z3)) (h1 : tF ≠ e) (h2 : tG ≠ e) (h3 : tP ≠ e) : w'.ownsRow base e sz v n xs :=
  ownsRow_at hr fun g hg => by
    obtain ⟨_, c, hc⟩ := ownsRow_cells hr hg
    exact h.block g (lt_of_block hc) (cells_ne hc hF (Ne.symm h1)) (cells_ne hc hG (Ne.symm h2)) (cells_ne hc hP (Ne.symm h3))

section
variable {w0 : World} {F G M P : Nat} {df : ByteArray} {chg : Bool} {s : ByteArray} {act oav ofv : Value}
theorem lookup_any (w : World) (h : OneT w0 F G M P df chg s act oav ofv w) : Calls Try.prog 21 #[ptr F, .string X] w fun e w' => e = .returned (ptr G) ∧ w = w' := by
  have c8 := h.cF 8 (.map (some M)) rfl
  have hl := h.find false
  simp only [Bool.false_eq_true, if_false] at hl
  clear h
  unfold ptr X at *
  go_enter Try.func21, Try.ntmps21
  go_wp2_with fail
  go_ret
  exact ⟨rfl, rfl⟩
theorem Lookup_any (w : World) (h : OneT w0 F G M P df chg s act oav ofv w) : Calls Try.prog 17 #[ptr F, .string X] w fun e w' => e = .returned (ptr G) ∧ Below w.heap.size w w' := by
  have C1 := Lib.hid (norm_any F w h.hF X)
  have C2 := Lib.hid (fun W (hb : Below w.heap.size w W) => lookup_any W (h.later hb))
  clear h
  unfold ptr X at *
  go_enter Try.func17, Try.ntmps17
  go_wp2_with fail
  refine C1.out.mono ?_
  rintro e w1 ⟨rfl, hb1⟩
  have HB := Lib.hid hb1
  clear hb1
  go_wp2_with fail
  refine (C2.out w1 HB.out).mono ?_
  rintro e w2 ⟨rfl, rfl⟩
  go_wp2_with fail
  go_ret
  exact ⟨rfl, HB.out⟩
theorem conv_any (t : ByteArray) (w : World) : Calls Try.prog 13 #[.string t] w fun e w' => e = .returned (.tuple #[.iface 9 (.string t), .nilIface]) ∧ w = w' := by
  go_enter Try.func13, Try.ntmps13
  go_wp2_with fail
  go_ret2
  exact ⟨rfl, rfl⟩

set_option maxRecDepth 100000 in
theorem getType_any (w : World) (h : OneT w0 F G M P df chg s act oav ofv w) : Calls Try.prog 12 #[ptr F, .string X, .string ⟨#[115, 116, 114, 105, 110, 103]⟩, .func (.func 13) #[] #[]] w fun e w' => e = .returned (.tuple #[.iface 9 (.string s), .nilIface]) ∧ Below w.heap.size w w' := by
  have hm1 : ∀ w, (method 198 69 (.pointer (some ⟨P, 0, none⟩)) "String").run Try.prog w = .ok (43, .pointer (some ⟨P, 0, none⟩)) w := fun _ => by kernel_rfl
  have hm2 : ∀ w, (method 198 69 (.pointer (some ⟨P, 0, none⟩)) "Type").run Try.prog w = .ok (44, .pointer (some ⟨P, 0, none⟩)) w := fun _ => by kernel_rfl
  have C1 := Lib.hid (Lookup_any w h)
  have HL := Lib.hid (fun W (hb : Below w.heap.size w W) => h.later hb)
  clear h
  unfold ptr X at *
  go_enter Try.func12, Try.ntmps12
  go_wp2_with fail
  refine C1.out.mono ?_
  rintro e w1 ⟨rfl, hb1⟩
  have h1 := HL.out w1 hb1
  have c3 := h1.cG 3 (.iface 69 (.pointer (some ⟨P, 0, none⟩))) rfl
  have CT := Lib.hid (strType_any P w1)
  have CS := Lib.hid (strText_any P s w1 h1.hP)
  have HB := Lib.hid hb1
  clear h1 hb1
  unfold ptr at CT CS
  go_wp2_with fail
  refine CT.out.mono ?_
  rintro e w2 ⟨rfl, rfl⟩
  go_wp2_with fail
  refine CS.out.mono ?_
  rintro e w2 ⟨rfl, rfl⟩
  go_wp2_with fail
  refine (conv_any s _).mono ?_
  rintro e w2 ⟨rfl, rfl⟩
  go_wp2_with fail
  go_ret2
  exact ⟨rfl, HB.out⟩
set_option maxRecDepth 100000 in
theorem getS_any (w : World) (h : OneT w0 F G M P df chg s act oav ofv w) : Calls Try.prog 9 #[ptr F, .string X] w fun e w' => e = .returned (.tuple #[.string s, .nilIface]) ∧ Below w.heap.size w w' := by
  have C := Lib.hid (getType_any w h)
  have hta : ∀ w, (Instr.typeAssert (.iface 9 (.string s)) 20 9 false).run Try.prog w = .ok (.string s) w := fun _ => by kernel_rfl
  clear h
  unfold ptr X at *
  go_enter Try.func9, Try.ntmps9
  go_wp2_with fail
  refine C.out.mono ?_
  rintro e w1 ⟨rfl, hb1⟩
  have HB := Lib.hid hb1
  clear hb1
  go_wp2_with fail
  go_ret2
  exact ⟨rfl, HB.out⟩

set_option maxRecDepth 100000 in
theorem setS_any (w : World) (t : ByteArray) (h : OneT w0 F G M P df chg s act oav ofv w) (hc : chg = false → act = .map none ∧ oav = .slice none 0 0) :
    Calls Try.prog 8 #[ptr F, .string X, .string t] w fun e w' => e = .returned .nilIface ∧ ∃ act' oav', OneT w0 F G M P df true t act' oav' ofv w' ∧ Fr F G P w w' := by
  have hm : ∀ w, (method 198 69 (.pointer (some ⟨P, 0, none⟩)) "Set").run Try.prog w = .ok (42, .pointer (some ⟨P, 0, none⟩)) w := fun _ => by kernel_rfl
  have hn1 : ∀ w, Sem.run Try.prog (binOp BinOp.eql 41 (Value.map none) (Value.map none)) w = .ok (.bool true) w := fun _ => by kernel_rfl
  have hmm := @run_makeMap Try.prog
  have C1 := Lib.hid (norm_any F w h.hF X)
  have HL := Lib.hid (fun W (hb : Below w.heap.size w W) => h.later hb)
  clear h
  unfold ptr X at *
  go_enter Try.func8, Try.ntmps8
  go_wp2_with fail
  refine C1.out.mono ?_
  rintro e w1 ⟨rfl, hb1⟩
  have h1 := HL.out w1 hb1
  have c8 := h1.cF 8 (.map (some M)) rfl
  have c3 := h1.cG 3 (.iface 69 (.pointer (some ⟨P, 0, none⟩))) rfl
  have hl := h1.find true
  simp only [if_true] at hl
  have CS := Lib.hid (strSet_any P _ t w1 h1.hP)
  have H2 := Lib.hid (h1.setP (.string t))
  have HFR : Hid (Fr F G P w (w1.setCell ⟨P, 0, none⟩ (.string t))) := Lib.hid ((Fr.below hb1).trans (Fr.set (.inr (.inr rfl))))
  clear h1 hb1 C1 HL
  unfold ptr at hl CS
  unfold X at hl
  go_wp2_with fail
  refine CS.out.mono ?_
  rintro e w2 ⟨rfl, hw2⟩
  rw [← hw2] at H2 HFR
  clear hw2 CS hl c8 c3
  have c5 := H2.out.cG 5 (.bool chg) rfl
  have d5 := H2.out.cF 5 act rfl
  have z5 := H2.out.zF 5
  have lF := lt_of_block H2.out.hF
  have lG := lt_of_block H2.out.hG
  cases chg with
  | true =>
    clear hc
    go_wp2_with fail
    go_ret
    exact ⟨rfl, _, _, H2.out, HFR.out⟩
  | false =>
    obtain ⟨rfl, rfl⟩ := hc rfl
    obtain ⟨i0, hi0, hz0, hz1, hz2⟩ := info_parts infoFP
    obtain ⟨WX, hWX⟩ : ∃ WX, WX = ((w2.setCell ⟨F, 5, none⟩ (.map (some w2.heap.size))).alloc (.map #[] 0)) := ⟨_, rfl⟩
    have xs : WX.heap.size = w2.heap.size + 1 := by rw [hWX]; simp [size_setCell]
    have xM : MapIs strKey WX w2.heap.size [] := by
      rw [hWX]
      have := MapIs.empty (K := strKey) (w2.setCell ⟨F, 5, none⟩ (.map (some w2.heap.size)))
      simpa [size_setCell] using this
    have xO := (H2.out.setAct (.map (some w2.heap.size))).later (w' := WX) (by rw [hWX]; exact (Below.refl _ _).alloc (Nat.le_refl _) _)
    obtain ⟨o, hmu, xM2⟩ := run_mapUpdate_map (P := Try.prog) (T := 41) (kt := 48) (et := 50) xM (by kernel_rfl) (by kernel_rfl) ⟨#[120]⟩ (ptr G)
    obtain ⟨w4, hw4⟩ : ∃ w4, w4 = ({ WX with heap := WX.heap.setIfInBounds w2.heap.size o } : World) := ⟨_, rfl⟩
    have HO := xO.putMap (o := o) H2.out.bel.size (by omega) (by omega) (by have := H2.out.hM.lt; omega) (by have := lt_of_block H2.out.hP; omega)
    rw [← hw4] at hmu HO
    have hmu' : (Instr.mapUpdate 41 (.map (some w2.heap.size)) (.string ⟨#[120]⟩) (.pointer (some ⟨G, 0, none⟩))).run Try.prog WX = .ok () w4 := hmu
    rw [hWX] at hmu'
    have HOX := Lib.hid HO
    have HF4 : Hid (Fr F G P w2 w4) := Lib.hid (by
      rw [hw4]
      refine ⟨by show _ ≤ (WX.heap.setIfInBounds _ o).size; rw [Array.size_setIfInBounds]; omega, fun b hb h1 _ _ => ?_⟩
      rw [setBlock_ne (by omega), hWX, heap_past _ _ _ (by simpa [size_setCell] using hb)]
      exact heap_ne _ _ _ _ h1)
    have d6 := HO.cF 6 (.slice none 0 0) rfl
    clear hw4 hWX xs xM xM2 xO HO hmu hc
    go_wp2_with (
      at_builtin
      refine wpList_append_lies _ (by rfl) _ _ _ (by rfl) w0.heap.size 50 i0 _ 1 8 Try.underlying42 hi0 hz0 hz1 hz2 rfl (by omega) (.slice none 0 0) 0 [] (by rfl) (World.ownsRow_nil _ _ _ _)
        ⟨w4.heap.size, 0, none⟩ 1 1 [.pointer (some ⟨G, 0, none⟩)] (by rfl) (by rfl) (World.news_of_block (cs := #[.pointer (some ⟨G, 0, none⟩)]) (t := 50) (fr := (0, 0)) (heap_alloc_new w4 _)) (by simp [Value.oneCell'])
        (by omega) (by unfold maxLen; omega) (by omega) (by have := HOX.out.bel.size; simp only [World.size_alloc]; exact Nat.le_succ_of_le this) (w4.heap.size + 1) (by simp only [World.size_alloc]) ?_
      intro gg cap w5 hown1 hgrow hat hlt5
      have hb5 : Below w4.heap.size w4 w5 := by
        have h1 : Below w4.heap.size w4 (w4.alloc (.cells #[.pointer (some ⟨G, 0, none⟩)] 50)) := by (repeat (first | (with_reducible exact Below.refl _ _) | (with_reducible assumption) | ((with_reducible refine Below.alloc ?_ ?_ _); rotate_left; focus ((try simp only [World.size_alloc, size_setCell, World.heap_drewN]); (try omega); done)) | ((with_reducible refine Below.setCell ?_ ?_ _); rotate_left; focus ((try simp only [World.size_alloc, size_setCell, World.heap_drewN]); (try omega); done)) | (with_reducible refine Below.drewN' ?_) | (with_reducible refine Below.drew ?_)))
        exact h1.trans (grownBy_below hgrow (fun k hk => by cases hk) h1.size)
      have H5 := HOX.out.later hb5
      have HF5 : Hid (Fr F G P w w5) := Lib.hid ((HFR.out.trans HF4.out).trans (Fr.below hb5))
      have f1 := H5.cF 6 (.slice none 0 0) rfl
      have f2 := H5.zF 6
      have f3 := H5.cG 5 (.bool false) rfl
      have f6 := H5.zG 5
      have f4 := lt_of_block H5.hF
      have f5 := lt_of_block H5.hG
      have f7 := H5.nFG
      have f8 := Ne.symm H5.nFG)
    go_ret
    exact ⟨rfl, _, _, (H5.setOa _).setChg true, (HF5.out.trans (Fr.set (.inl rfl))).trans (Fr.set (.inr (.inl rfl)))⟩
end
end Go.Proofs.Ytkhjffjdchkobaa
