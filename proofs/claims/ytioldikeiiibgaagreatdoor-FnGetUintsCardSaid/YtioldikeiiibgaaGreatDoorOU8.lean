/- A set (package few) with one flag of kind uint8: made, set, asked. (Printed by gen_oneu.py.) -/
import Derived.Test.YtioldikeiiibgaaGreatDoorPub0
import Derived.Test.YtioldikeiiibgaaGreatDoorUVal
import Derived.Test.YtioldikeiiibgaaGreatDoorOneS2
namespace Go.Proofs.YtioldikeiiibgaaGreatDoor.U8
open Go.RowKit
set_option linter.unusedVariables false
set_option linter.unusedSimpArgs false

theorem fset_any (P : Nat) (y : Int) (T : TypeId) (s : ByteArray) (hs : s.size ≤ 2147483647) (w : World) (hP : w.heap[P]? = some (.cells #[.int .u8 y] T (0, 0))) (hE : ErrsAt w) :
    Calls Tryz.prog 125 #[.pointer (some ⟨P, 0, none⟩), .string s] w (SetTo P (.int .u8 (uv 255 s : Nat)) (ub 255 s) w) := by
  have C := Lib.hid (pubU_any 8 255 (.inl ⟨rfl, rfl⟩) s hs w hE)
  have hle := uv_le 255 s
  have HP := Lib.hid hP
  unfold uv ub at *
  generalize valE 255 (pu0 255 s.data.toList) = vn at *
  generalize badE (pu0 255 s.data.toList) = bad at *
  obtain ⟨v, hv⟩ : ∃ v : Int, v = (vn : Nat) := ⟨_, rfl⟩
  rw [← hv] at C ⊢
  have v0 : 0 ≤ v := by omega
  have v1 : v ≤ 255 := by omega
  clear hP hE hle hv
  go_enter Tryz.func125, Tryz.ntmps125
  go_wp2_with fail
  refine C.out.mono ?_
  rintro e w2 ⟨er, rfl, her, hb⟩
  have hP2 := (hb.block _ (lt_of_block HP.out)).trans HP.out
  have HB := Lib.hid hb
  have HER := Lib.hid her
  have h1 := cell_of_one hP2
  have h2 := free_of_one hP2
  clear hb hP2 her C
  go_wp2_with fail
  go_ret
  exact ⟨_, w2, rfl, HER.out, HB.out, rfl⟩
theorem ftext_any (P vn : Nat) (h : vn ≤ 255) (w : World) (hc : w.cell? ⟨P, 0, none⟩ = some (.int .u8 (vn : Nat))) (hT : Tab w) :
    Calls Tryz.prog 126 #[.pointer (some ⟨P, 0, none⟩)] w fun e w' => e = .returned (.string (numS vn)) ∧ Below w.heap.size w w' := by
  have C := Lib.hid (fmtU_any vn (by omega) w hT)
  generalize numS vn = t at *
  obtain ⟨v, hv⟩ : ∃ v : Int, v = (vn : Nat) := ⟨_, rfl⟩
  rw [← hv] at C hc
  have v0 : 0 ≤ v := by omega
  have v1 : v ≤ 255 := by omega
  clear h hv hT
  go_enter Tryz.func126, Tryz.ntmps126
  go_wp2_with fail
  refine C.out.mono ?_
  rintro e w2 ⟨rfl, hb⟩
  have HB := Lib.hid hb
  clear hb
  go_wp2_with fail
  go_ret
  exact ⟨rfl, HB.out⟩

def valV (t : ByteArray) : Nat := uv 255 t
def badV (t : ByteArray) : Bool := ub 255 t
def txtV (x : Nat) : ByteArray := numS x
theorem setV_any (P : Nat) (x : Nat) (t : ByteArray) (ht : t.size ≤ 2147483647) (w : World) (h : w.heap[P]? = some (.cells #[.int .u8 x] 5 (0, 0))) (hE : EnvV w) :
    Calls Tryz.prog 125 #[ptr P, .string t] w (SetTo P (.int .u8 (valV t)) (badV t) w) := fset_any P x _ t ht w h hE.1
theorem txtV_any (P : Nat) (x : Nat) (w : World) (h : w.heap[P]? = some (.cells #[.int .u8 x] 5 (0, 0))) (hx : x ≤ 255) (hE : EnvV w) :
    Calls Tryz.prog 126 #[ptr P] w fun e w' => e = .returned (.string (txtV x)) ∧ Below w.heap.size w w' := ftext_any P x hx w (cell_of_one h) hE.2
theorem typV_any (P : Nat) (w : World) :
    Calls Tryz.prog 127 #[ptr P] w fun e w' => e = .returned (.string ⟨#[117, 105, 110, 116, 56]⟩) ∧ w = w' := by
  unfold ptr
  go_enter Tryz.func127, Tryz.ntmps127
  go_wp2_with fail
  go_ret
  exact ⟨rfl, rfl⟩
theorem cnvV_any (x : Nat) (w : World) (hx : x ≤ 255) (hE : EnvV w) :
    Calls Tryz.prog 43 #[.string (txtV x)] w fun e w' => e = .returned (.tuple #[.iface 5 (.int .u8 x), .nilIface]) ∧ Below w.heap.size w w' := by
  have C := Lib.hid (pubU_any 8 255 (.inl ⟨rfl, rfl⟩) (numS x) (by have := numS_len (u := x) (by omega); omega) w hE.1)
  obtain ⟨r1, r2⟩ := readBack hx
  rw [r1, r2] at C
  unfold txtV
  generalize numS x = t at *
  obtain ⟨v, hv⟩ : ∃ v : Int, v = (x : Nat) := ⟨_, rfl⟩
  rw [← hv] at C ⊢
  have v0 : 0 ≤ v := by omega
  have v1 : v ≤ 255 := by omega
  clear hx hv hE r1 r2
  go_enter Tryz.func43, Tryz.ntmps43
  go_wp2_with fail
  refine C.out.mono ?_
  rintro e w2 ⟨er, rfl, her, hb⟩
  have her2 : er = .nilIface := her
  subst her2
  have HB := Lib.hid hb
  clear hb her C
  go_wp2_with fail
  go_ret2
  exact ⟨rfl, HB.out⟩

def ivV (P : Nat) : Value := .iface 115 (ptr P)
abbrev OneV (w0 : World) (F G M P : Nat) (df no : ByteArray) (chg : Bool) (x : Nat) (act oav ofv : Value) (w : World) : Prop := OneX 5 (ivV P) w0 F G M P df no chg (.int .u8 x) act oav ofv w

set_option maxRecDepth 100000 in
theorem varPFV_any (w0 : World) (F P : Nat) (x : Nat) (w : World) (hb : Below w0.heap.size w0 w) (hF : w.heap[F]? = some (.cells (fsC (.map none) (.slice none 0 0) (.map none) (.slice none 0 0)) 79 (0, 0))) (hP : w.heap[P]? = some (.cells #[.int .u8 x] 5 (0, 0))) (lF : w0.heap.size ≤ F) (lP : w0.heap.size ≤ P) (nFP : F ≠ P) (hx : x ≤ 255) (hE : EnvV w) :
    Calls Tryz.prog 70 #[ptr F, ivV P, .string X, .string ⟨#[]⟩, .string ⟨#[]⟩] w fun e w' => ∃ G, e = .returned (ptr G) ∧ ∃ M ofv, OneV w0 F G M P (txtV x) ⟨#[]⟩ false x (.map none) (.slice none 0 0) ofv w' ∧ Keep F F w w' := by
  have hm : ∀ w, (method 290 115 (.pointer (some ⟨P, 0, none⟩)) "String").run Tryz.prog w = .ok (126, .pointer (some ⟨P, 0, none⟩)) w := fun _ => by kernel_rfl
  have CS := Lib.hid (txtV_any P x w hP hx hE)
  have HK := Lib.hid (show ∀ W, Below w.heap.size w W → Calls Tryz.prog 83 #[ptr F, ptr W.heap.size] (W.alloc (.cells (flC (ivV P) (txtV x) ⟨#[]⟩ false) 100)) fun e w' => e = .returned (.tuple #[]) ∧ ∃ M ofv, OneX 5 (ivV P) w0 F W.heap.size M P (txtV x) ⟨#[]⟩ false (.int .u8 x) (.map none) (.slice none 0 0) ofv w' ∧ Keep F W.heap.size (W.alloc (.cells (flC (ivV P) (txtV x) ⟨#[]⟩ false) 100)) w' from fun W h => by
    have hb' := hb.trans (h.mono hb.size)
    have hF' := (h.block _ (lt_of_block hF)).trans hF
    have hP' := (h.block _ (lt_of_block hP)).trans hP
    have lF1 := lt_of_block hF'
    have lP1 := lt_of_block hP'
    exact addF_any (W.alloc (.cells (flC (ivV P) (txtV x) ⟨#[]⟩ false) 100)) (hb'.alloc hb'.size _) (heap_past' lF1 hF') (heap_at _ _ _ rfl) (heap_past' lP1 hP') lF hb'.size lP (by omega) nFP (by omega))
  clear hb hF hP hE
  unfold ptr ivV X at *
  unfold ptr flC X at *
  go_enter Tryz.func70, Tryz.ntmps70
  go_wp2_with fail
  refine CS.out.mono ?_
  rintro e w1 ⟨rfl, hb1⟩
  have CA := Lib.hid (HK.out w1 hb1)
  have HB1 := Lib.hid hb1
  clear hb1 HK
  go_wp2_with fail
  refine CA.out.mono ?_
  rintro e w3 ⟨rfl, M, ofv, h3, k3⟩
  have H3 := Lib.hid h3
  have K3 : Hid (Keep F F w w3) := Lib.hid ⟨by have := k3.size; have := HB1.out.size; simp only [World.size_alloc] at *; omega, fun b hb h1 _ => (k3.block b (by have := HB1.out.size; simp only [World.size_alloc]; omega) h1 (by have := HB1.out.size; omega)).trans ((heap_past _ _ _ (by have := HB1.out.size; omega)).trans (HB1.out.block b hb))⟩
  clear h3 k3
  go_wp2_with fail
  go_ret
  exact ⟨_, rfl, M, ofv, H3.out, K3.out⟩
set_option maxRecDepth 100000 in
theorem newV_any (P : Nat) (v : Value) (x : Nat) (w : World) (h : w.heap[P]? = some (.cells #[v] 5 (0, 0))) :
    Calls Tryz.prog 62 #[.int .u8 x, ptr P] w fun e w' => e = .returned (ptr P) ∧ w' = w.setCell ⟨P, 0, none⟩ (.int .u8 x) := by
  have c := cell_of_one h
  have z := free_of_one h
  clear h
  unfold ptr
  go_enter Tryz.func62, Tryz.ntmps62
  go_wp2_with fail
  go_ret
  exact ⟨rfl, rfl⟩
set_option maxRecDepth 100000 in
theorem newFS_any (w : World) :
    Calls Tryz.prog 7 #[.string ⟨#[]⟩, .int .i64 0] w fun e w' => e = .returned (ptr w.heap.size) ∧ w' = w.alloc (.cells (fsC (.map none) (.slice none 0 0) (.map none) (.slice none 0 0)) 79) := by
  go_enter Tryz.func7, Tryz.ntmps7
  go_wp2_with fail
  go_ret
  exact ⟨rfl, rfl⟩

/-- What stays: all but three blocks. -/
structure Fr (F G P : Nat) (w w' : World) : Prop where
  size : w.heap.size ≤ w'.heap.size
  block : ∀ b, b < w.heap.size → b ≠ F → b ≠ G → b ≠ P → w'.heap[b]? = w.heap[b]?
theorem Fr.below {F G P : Nat} {w w' : World} (h : Below w.heap.size w w') : Fr F G P w w' := ⟨h.size, fun b hb _ _ _ => h.block b hb⟩
theorem Fr.trans {F G P : Nat} {a b c : World} (h : Fr F G P a b) (k : Fr F G P b c) : Fr F G P a c :=
  ⟨Nat.le_trans h.size k.size, fun i hi h1 h2 h3 => (k.block i (Nat.lt_of_lt_of_le hi h.size) h1 h2 h3).trans (h.block i hi h1 h2 h3)⟩
theorem Fr.set {F G P : Nat} {w : World} {b j : Nat} {v : Value} (h : b = F ∨ b = G ∨ b = P) : Fr F G P w (w.setCell ⟨b, j, none⟩ v) :=
  ⟨by rw [size_setCell]; exact Nat.le_refl _, fun i _ h1 h2 h3 => heap_ne _ _ _ _ (by rcases h with rfl | rfl | rfl <;> assumption)⟩
theorem Fr.row {F G P : Nat} {w w' : World} (h : Fr F G P w w') {base : Nat} {e tF tG tP : TypeId} {sz n : Nat} {v : Value} {xs : List Value} {cF cG cP : Array Value} {z1 z2 z3 : Nat × Nat} (hr : w.ownsRow base e sz v n xs) (hF : w.heap[F]? = some (.cells cF tF z1)) (hG : w.heap[G]? = some (.cells cG tG z2)) (hP : w.heap[P]? = some (.cells cP tP z3)) (h1 : tF ≠ e) (h2 : tG ≠ e) (h3 : tP ≠ e) : w'.ownsRow base e sz v n xs :=
  ownsRow_at hr fun g hg => by
    obtain ⟨_, c, hc⟩ := ownsRow_cells hr hg
    exact h.block g (lt_of_block hc) (cells_ne hc hF (Ne.symm h1)) (cells_ne hc hG (Ne.symm h2)) (cells_ne hc hP (Ne.symm h3))

section
variable {w0 : World} {F G M P : Nat} {df no : ByteArray} {chg : Bool} {x : Nat} {act oav ofv : Value}
theorem lookup_any (w : World) (h : OneV w0 F G M P df no chg x act oav ofv w) : Calls Tryz.prog 71 #[ptr F, .string X] w fun e w' => e = .returned (ptr G) ∧ w = w' := by
  have c8 := h.cF 8 (.map (some M)) rfl
  have hl := h.find false
  simp only [Bool.false_eq_true, if_false] at hl
  clear h
  unfold ptr X at *
  go_enter Tryz.func71, Tryz.ntmps71
  go_wp2_with fail
  go_ret
  exact ⟨rfl, rfl⟩
theorem Lookup_any (w : World) (h : OneV w0 F G M P df no chg x act oav ofv w) : Calls Tryz.prog 60 #[ptr F, .string X] w fun e w' => e = .returned (ptr G) ∧ Below w.heap.size w w' := by
  have C1 := Lib.hid (norm_any F w h.hF X)
  have C2 := Lib.hid (fun W (hb : Below w.heap.size w W) => lookup_any W (h.later hb))
  clear h
  unfold ptr X at *
  go_enter Tryz.func60, Tryz.ntmps60
  go_wp2_with fail
  refine C1.out.mono ?_
  rintro e w1 ⟨rfl, hb1⟩
  have HB := Lib.hid hb1
  clear hb1
  go_wp2_with fail
  refine (C2.out w1 HB.out).mono ?_
  rintro e w2 ⟨rfl, rfl⟩
  go_wp2_with fail
  go_ret
  exact ⟨rfl, HB.out⟩

set_option maxRecDepth 100000 in
theorem getType_any (w : World) (hx : x ≤ 255) (hE : EnvV w) (h : OneV w0 F G M P df no chg x act oav ofv w) : Calls Tryz.prog 40 #[ptr F, .string X, .string ⟨#[117, 105, 110, 116, 56]⟩, .func (.func 43) #[] #[]] w fun e w' => e = .returned (.tuple #[.iface 5 (.int .u8 x), .nilIface]) ∧ Below w.heap.size w w' := by
  have hm1 : ∀ w, (method 290 115 (.pointer (some ⟨P, 0, none⟩)) "String").run Tryz.prog w = .ok (126, .pointer (some ⟨P, 0, none⟩)) w := fun _ => by kernel_rfl
  have hm2 : ∀ w, (method 290 115 (.pointer (some ⟨P, 0, none⟩)) "Type").run Tryz.prog w = .ok (127, .pointer (some ⟨P, 0, none⟩)) w := fun _ => by kernel_rfl
  have C1 := Lib.hid (Lookup_any w h)
  have HL := Lib.hid (fun W (hb : Below w.heap.size w W) => h.later hb)
  have HE := Lib.hid (fun W (hb : Below w.heap.size w W) => hE.later hb)
  clear h hE
  unfold ptr X at *
  go_enter Tryz.func40, Tryz.ntmps40
  go_wp2_with fail
  refine C1.out.mono ?_
  rintro e w1 ⟨rfl, hb1⟩
  have h1 := HL.out w1 hb1
  have c3 := h1.cG 3 (.iface 115 (.pointer (some ⟨P, 0, none⟩))) rfl
  have CT := Lib.hid (typV_any P w1)
  have CS := Lib.hid (txtV_any P x w1 h1.hP hx (HE.out w1 hb1))
  have HB := Lib.hid hb1
  clear h1 hb1
  unfold ptr at CT CS
  go_wp2_with fail
  refine CT.out.mono ?_
  rintro e w2 ⟨rfl, rfl⟩
  go_wp2_with fail
  refine CS.out.mono ?_
  rintro e w2 ⟨rfl, hb2⟩
  have HB2 := Lib.hid (Below.after HB.out hb2)
  have CC := Lib.hid (cnvV_any x w2 hx (HE.out w2 HB2.out))
  clear hb2
  go_wp2_with fail
  refine CC.out.mono ?_
  rintro e w3 ⟨rfl, hb3⟩
  have HB3 := Lib.hid (Below.after HB2.out hb3)
  clear hb3
  go_wp2_with fail
  go_ret2
  exact ⟨rfl, HB3.out⟩
set_option maxRecDepth 100000 in
theorem getV_any (w : World) (hx : x ≤ 255) (hE : EnvV w) (h : OneV w0 F G M P df no chg x act oav ofv w) : Calls Tryz.prog 13 #[ptr F, .string X] w fun e w' => e = .returned (.tuple #[.int .u8 x, .nilIface]) ∧ Below w.heap.size w w' := by
  have C := Lib.hid (getType_any w hx hE h)
  have hta : ∀ w, (Instr.typeAssert (.iface 5 (.int .u8 x)) 20 5 false).run Tryz.prog w = .ok (.int .u8 x) w := fun _ => by kernel_rfl
  clear h hE
  unfold ptr X at *
  go_enter Tryz.func13, Tryz.ntmps13
  go_wp2_with fail
  refine C.out.mono ?_
  rintro e w1 ⟨rfl, hb1⟩
  have HB := Lib.hid hb1
  clear hb1
  go_wp2_with fail
  go_ret2
  exact ⟨rfl, HB.out⟩

/-- An error, or none. -/
def ErV (bad : Bool) (er : Value) : Prop := if bad then ∃ t p, er = .iface t p else er = .nilIface
set_option maxRecDepth 100000 in
set_option maxHeartbeats 800000 in
theorem setX_any (w : World) (t : ByteArray) (ht : t.size ≤ 2147483647) (hE : EnvV w) (h : OneV w0 F G M P df no chg x act oav ofv w) (hc : chg = false → act = .map none ∧ oav = .slice none 0 0) :
    Calls Tryz.prog 23 #[ptr F, .string X, .string t] w fun e w' => ∃ er, e = .returned er ∧ ErV (badV t) er ∧ ∃ chg' act' oav', OneV w0 F G M P df no chg' (valV t) act' oav' ofv w' ∧ (chg' = false → act' = .map none ∧ oav' = .slice none 0 0) ∧ Fr F G P w w' := by
  have hm : ∀ w, (method 290 115 (.pointer (some ⟨P, 0, none⟩)) "Set").run Tryz.prog w = .ok (125, .pointer (some ⟨P, 0, none⟩)) w := fun _ => by kernel_rfl
  have hn1 : ∀ w, Sem.run Tryz.prog (binOp BinOp.eql 74 (Value.map none) (Value.map none)) w = .ok (.bool true) w := fun _ => by kernel_rfl
  have hmm := @run_makeMap Tryz.prog
  have C1 := Lib.hid (norm_any F w h.hF X)
  have HL := Lib.hid (fun W (hb : Below w.heap.size w W) => h.later hb)
  have HE := Lib.hid (fun W (hb : Below w.heap.size w W) => hE.later hb)
  clear h hE
  unfold ptr X at *
  go_enter Tryz.func23, Tryz.ntmps23
  go_wp2_with fail
  refine C1.out.mono ?_
  rintro e w1 ⟨rfl, hb1⟩
  have h1 := HL.out w1 hb1
  have c8 := h1.cF 8 (.map (some M)) rfl
  have c3 := h1.cG 3 (.iface 115 (.pointer (some ⟨P, 0, none⟩))) rfl
  have hl := h1.find true
  simp only [if_true] at hl
  have CS := Lib.hid (setV_any P x t ht w1 h1.hP (HE.out w1 hb1))
  have HL2 := Lib.hid (fun W (hb : Below w1.heap.size w1 W) => (h1.later hb).setP (.int .u8 (valV t)))
  have HFR0 : Hid (Fr F G P w w1) := Lib.hid (Fr.below hb1)
  clear h1 hb1 C1 HL HE
  unfold ptr at hl CS
  unfold X at hl
  obtain ⟨bad, hbad⟩ : ∃ bad, badV t = bad := ⟨_, rfl⟩
  rw [hbad] at CS
  have HBAD := Lib.hid hbad
  clear hbad
  go_wp2_with fail
  refine CS.out.mono ?_
  rintro e w2 ⟨er, w20, rfl, her, hb2, hw2⟩
  have H2 := Lib.hid (HL2.out w20 hb2)
  have HFR : Hid (Fr F G P w w2) := Lib.hid (by rw [hw2]; exact (HFR0.out.trans (Fr.below hb2)).trans (Fr.set (.inr (.inr rfl))))
  rw [← hw2] at H2
  clear hw2 CS hl c8 c3 hb2 HL2 HFR0
  cases bad with
  | true =>
    obtain ⟨t2, p2, rfl⟩ := her
    go_wp2_with fail
    go_ret
    have hbx : ∀ W, Below w2.heap.size w2 W → OneV w0 F G M P df no chg (valV t) act oav ofv W ∧ Fr F G P w W := fun W hb => ⟨H2.out.later hb, HFR.out.trans (Fr.below hb)⟩
    refine ⟨_, rfl, ?_, chg, act, oav, ?_, hc, ?_⟩
    · rw [HBAD.out]; exact ⟨_, _, rfl⟩
    · exact (hbx _ (by (repeat (first | (with_reducible exact Below.refl _ _) | (with_reducible assumption) | ((with_reducible refine Below.alloc ?_ ?_ _); rotate_left; focus ((try simp only [World.size_alloc, size_setCell, World.heap_drewN]); (try omega); done)) | ((with_reducible refine Below.setCell ?_ ?_ _); rotate_left; focus ((try simp only [World.size_alloc, size_setCell, World.heap_drewN]); (try omega); done)) | (with_reducible refine Below.drewN' ?_) | (with_reducible refine Below.drew ?_))))).1
    · exact (hbx _ (by (repeat (first | (with_reducible exact Below.refl _ _) | (with_reducible assumption) | ((with_reducible refine Below.alloc ?_ ?_ _); rotate_left; focus ((try simp only [World.size_alloc, size_setCell, World.heap_drewN]); (try omega); done)) | ((with_reducible refine Below.setCell ?_ ?_ _); rotate_left; focus ((try simp only [World.size_alloc, size_setCell, World.heap_drewN]); (try omega); done)) | (with_reducible refine Below.drewN' ?_) | (with_reducible refine Below.drew ?_))))).2
  | false =>
    have her2 : er = .nilIface := her
    subst her2
    clear her
    have c5 := H2.out.cG 5 (.bool chg) rfl
    have d5 := H2.out.cF 5 act rfl
    have z5 := H2.out.zF 5
    have lF := lt_of_block H2.out.hF
    have lG := lt_of_block H2.out.hG
    cases chg with
    | true =>
      clear hc
      go_wp2_with fail
      go_ret
      exact ⟨_, rfl, (by rw [HBAD.out]; rfl), true, act, oav, H2.out, (fun h => by cases h), HFR.out⟩
    | false =>
      obtain ⟨rfl, rfl⟩ := hc rfl
      obtain ⟨i0, hi0, hz0, hz1, hz2⟩ := info_parts infoFP
      obtain ⟨WX, hWX⟩ : ∃ WX, WX = ((w2.setCell ⟨F, 5, none⟩ (.map (some w2.heap.size))).alloc (.map #[] 0)) := ⟨_, rfl⟩
      have xs : WX.heap.size = w2.heap.size + 1 := by rw [hWX]; simp [size_setCell]
      have xM : MapIs strKey WX w2.heap.size [] := by
        rw [hWX]
        have := MapIs.empty (K := strKey) (w2.setCell ⟨F, 5, none⟩ (.map (some w2.heap.size)))
        simpa [size_setCell] using this
      have xO := (H2.out.setAct (.map (some w2.heap.size))).later (w' := WX) (by rw [hWX]; exact (Below.refl _ _).alloc (Nat.le_refl _) _)
      obtain ⟨o, hmu, xM2⟩ := run_mapUpdate_map (P := Tryz.prog) (T := 74) (kt := 88) (et := 90) xM (by kernel_rfl) (by kernel_rfl) ⟨#[120]⟩ (ptr G)
      obtain ⟨w4, hw4⟩ : ∃ w4, w4 = ({ WX with heap := WX.heap.setIfInBounds w2.heap.size o } : World) := ⟨_, rfl⟩
      have HO := xO.putMap (o := o) H2.out.bel.size (by omega) (by omega) (by have := H2.out.hM.lt; omega) (by have := lt_of_block H2.out.hP; omega)
      rw [← hw4] at hmu HO
      have hmu' : (Instr.mapUpdate 74 (.map (some w2.heap.size)) (.string ⟨#[120]⟩) (.pointer (some ⟨G, 0, none⟩))).run Tryz.prog WX = .ok () w4 := hmu
      have HF4 : Hid (Fr F G P w2 w4) := Lib.hid (by
        rw [hw4]
        refine ⟨by show _ ≤ (WX.heap.setIfInBounds _ o).size; rw [Array.size_setIfInBounds]; omega, fun b hb h1 _ _ => ?_⟩
        rw [setBlock_ne (by omega), hWX, heap_past _ _ _ (by simpa [size_setCell] using hb)]
        exact heap_ne _ _ _ _ h1)
      rw [hWX] at hmu'
      have HOX := Lib.hid HO
      have d6 := HO.cF 6 (.slice none 0 0) rfl
      clear hw4 hWX xs xM xM2 xO HO hmu hc
      go_wp2_with (
        at_builtin
        refine wpList_append_lies _ (by rfl) _ _ _ (by rfl) w0.heap.size 90 i0 _ 1 8 Tryz.underlying75 hi0 hz0 hz1 hz2 rfl (by omega) (.slice none 0 0) 0 [] (by rfl) (World.ownsRow_nil _ _ _ _)
          ⟨w4.heap.size, 0, none⟩ 1 1 [.pointer (some ⟨G, 0, none⟩)] (by rfl) (by rfl) (World.news_of_block (cs := #[.pointer (some ⟨G, 0, none⟩)]) (t := 90) (fr := (0, 0)) (heap_alloc_new w4 _)) (by simp [Value.oneCell'])
          (by omega) (by unfold maxLen; omega) (by omega) (by have := HOX.out.bel.size; simp only [World.size_alloc]; exact Nat.le_succ_of_le this) (w4.heap.size + 1) (by simp only [World.size_alloc]) ?_
        intro gg cap w5 hown1 hgrow hat hlt5
        have hb5 : Below w4.heap.size w4 w5 := by
          have h1 : Below w4.heap.size w4 (w4.alloc (.cells #[.pointer (some ⟨G, 0, none⟩)] 90)) := by (repeat (first | (with_reducible exact Below.refl _ _) | (with_reducible assumption) | ((with_reducible refine Below.alloc ?_ ?_ _); rotate_left; focus ((try simp only [World.size_alloc, size_setCell, World.heap_drewN]); (try omega); done)) | ((with_reducible refine Below.setCell ?_ ?_ _); rotate_left; focus ((try simp only [World.size_alloc, size_setCell, World.heap_drewN]); (try omega); done)) | (with_reducible refine Below.drewN' ?_) | (with_reducible refine Below.drew ?_)))
          exact h1.trans (grownBy_below hgrow (fun k hk => by cases hk) h1.size)
        have H5 := HOX.out.later hb5
        have HF5 : Hid (Fr F G P w w5) := Lib.hid ((HFR.out.trans HF4.out).trans (Fr.below hb5))
        have f1 := H5.cF 6 (.slice none 0 0) rfl
        have f2 := H5.zF 6
        have f3 := H5.cG 5 (.bool false) rfl
        have f6 := H5.zG 5
        have f4 := lt_of_block H5.hF
        have f5 := lt_of_block H5.hG
        have f7 := H5.nFG
        have f8 := Ne.symm H5.nFG)
      go_ret
      exact ⟨_, rfl, (by rw [HBAD.out]; rfl), true, _, _, (H5.setOa _).setChg true, (fun h => by cases h), (HF5.out.trans (Fr.set (.inl rfl))).trans (Fr.set (.inr (.inl rfl)))⟩
end

def Fresh0 (w0 : World) (F : Nat) (w : World) : Prop := Below w0.heap.size w0 w ∧ w.heap[F]? = some (.cells (fsC (.map none) (.slice none 0 0) (.map none) (.slice none 0 0)) 79 (0, 0)) ∧ w0.heap.size ≤ F
set_option maxRecDepth 100000 in
theorem varPV_any (w0 : World) (F P : Nat) (x : Nat) (w : World) (hf : Fresh0 w0 F w) (hP : w.heap[P]? = some (.cells #[.int .u8 x] 5 (0, 0))) (lP : w0.heap.size ≤ P) (nFP : F ≠ P) (hx : x ≤ 255) (hE : EnvV w) :
    Calls Tryz.prog 58 #[ptr F, ivV P, .string X, .string ⟨#[]⟩, .string ⟨#[]⟩] w fun e w' => e = .returned (.tuple #[]) ∧ ∃ G M ofv, OneV w0 F G M P (txtV x) ⟨#[]⟩ false x (.map none) (.slice none 0 0) ofv w' ∧ Keep F F w w' := by
  have C := Lib.hid (varPFV_any w0 F P x w hf.1 hf.2.1 hP hf.2.2 lP nFP hx hE)
  clear hf hP hE
  unfold ivV ptr X at *
  go_enter Tryz.func58, Tryz.ntmps58
  go_wp2_with fail
  refine C.out.mono ?_
  rintro e w3 ⟨G, rfl, M, ofv, h3⟩
  have H3 := Lib.hid h3
  clear h3 C
  go_wp2_with fail
  go_end0
  exact ⟨rfl, G, M, ofv, H3.out⟩
set_option maxRecDepth 100000 in
theorem kindVarP_any (w0 : World) (F P : Nat) (v : Value) (x : Nat) (w : World) (hf : Fresh0 w0 F w) (hP : w.heap[P]? = some (.cells #[v] 5 (0, 0))) (lP : w0.heap.size ≤ P) (nFP : F ≠ P) (hx : x ≤ 255) (hE : EnvV (w.setCell ⟨P, 0, none⟩ (.int .u8 x))) :
    Calls Tryz.prog 42 #[ptr F, ptr P, .string X, .string ⟨#[]⟩, .int .u8 x, .string ⟨#[]⟩] w fun e w' => e = .returned (.tuple #[]) ∧ ∃ G M ofv, OneV w0 F G M P (txtV x) ⟨#[]⟩ false x (.map none) (.slice none 0 0) ofv w' ∧ Keep F P w w' := by
  have C1 := Lib.hid (newV_any P v x w hP)
  have C := Lib.hid (varPV_any w0 F P x (w.setCell ⟨P, 0, none⟩ (.int .u8 x)) ⟨hf.1.setCell lP _, heap_ne' nFP hf.2.1, hf.2.2⟩ (heap_set hP 0 _) lP nFP hx hE)
  have HKP : Hid (∀ w', Keep F F (w.setCell ⟨P, 0, none⟩ (.int .u8 x)) w' → Keep F P w w') := Lib.hid (fun w' k => (Keep.set (.inr rfl)).trans ⟨k.size, fun b hb h1 _ => k.block b hb h1 h1⟩)
  clear hf hP hE
  unfold ivV ptr X at *
  go_enter Tryz.func42, Tryz.ntmps42
  go_wp2_with fail
  refine C1.out.mono ?_
  rintro e w1 ⟨rfl, hw1⟩
  rw [← hw1] at C HKP
  clear hw1
  go_wp2_with fail
  refine C.out.mono ?_
  rintro e w3 ⟨rfl, G, M, ofv, h3, k3⟩
  have H3 := Lib.hid h3
  have K3 := Lib.hid (HKP.out w3 k3)
  clear h3 k3 C
  go_wp2_with fail
  go_end0
  exact ⟨rfl, G, M, ofv, H3.out, K3.out⟩
set_option maxRecDepth 100000 in
theorem kindF_any (w0 : World) (F : Nat) (x : Nat) (w : World) (hf : Fresh0 w0 F w) (hx : x ≤ 255) (hE : EnvV w) :
    Calls Tryz.prog 11 #[ptr F, .string X, .int .u8 x, .string ⟨#[]⟩] w fun e w' => ∃ P, e = .returned (ptr P) ∧ ∃ G M ofv, OneV w0 F G M P (txtV x) ⟨#[]⟩ false x (.map none) (.slice none 0 0) ofv w' ∧ Keep F F w w' := by
  have lF1 := lt_of_block hf.2.1
  have hb2 : Below w.heap.size w ((w.alloc (.cells #[.int .u8 0] 5)).setCell ⟨w.heap.size, 0, none⟩ (.int .u8 x)) := ((Below.refl _ _).alloc (Nat.le_refl _) _).setCell (Nat.le_refl _) _
  have C := Lib.hid (kindVarP_any w0 F w.heap.size (.int .u8 0) x (w.alloc (.cells #[.int .u8 0] 5)) ⟨hf.1.alloc hf.1.size _, heap_past' lF1 hf.2.1, hf.2.2⟩ (heap_at _ _ _ rfl) hf.1.size (by omega) hx (hE.later hb2))
  have HKP : Hid (∀ w', Keep F w.heap.size (w.alloc (.cells #[.int .u8 0] 5)) w' → Keep F F w w') := Lib.hid (fun w' k => ⟨by have := k.size; simp only [World.size_alloc] at this; omega, fun b hb h1 _ => (k.block b (by simp only [World.size_alloc]; omega) h1 (by omega)).trans (heap_past _ _ _ hb)⟩)
  clear hf hE hb2
  unfold ptr X at *
  go_enter Tryz.func11, Tryz.ntmps11
  go_wp2_with fail
  refine C.out.mono ?_
  rintro e w3 ⟨rfl, G, M, ofv, h3, k3⟩
  have H3 := Lib.hid h3
  have K3 := Lib.hid (HKP.out w3 k3)
  clear h3 k3 C
  go_wp2_with fail
  go_ret
  exact ⟨_, rfl, G, M, ofv, H3.out, K3.out⟩
set_option maxRecDepth 100000 in
theorem get_any {w0 : World} {F G M P : Nat} {df no : ByteArray} {chg : Bool} {x : Nat} {act oav ofv : Value} (bF : Nat) (w : World) (hB : w.heap[bF]? = some (.cells #[ptr F] 31 (0, 0))) (hx : x ≤ 255) (hE : EnvV w) (h : OneV w0 F G M P df no chg x act oav ofv w) :
    Calls Tryz.prog 12 #[.pointer (some ⟨bF, 0, none⟩)] w fun e w' => e = .returned (.tuple #[.int .u64 x, .nilIface]) ∧ Below w.heap.size w w' := by
  have C := Lib.hid (getV_any w hx hE h)
  have c1 := cell_of_one hB
  clear h hE hB
  unfold ptr X at *
  obtain ⟨v, hv⟩ : ∃ v : Int, v = (x : Nat) := ⟨_, rfl⟩
  rw [← hv] at C ⊢
  have v0 : 0 ≤ v := by omega
  have v1 : v ≤ 255 := by omega
  clear hv hx
  go_enter Tryz.func12, Tryz.ntmps12
  go_wp2_with fail
  refine C.out.mono ?_
  rintro e w1 ⟨rfl, hb1⟩
  have HB := Lib.hid hb1
  clear hb1
  go_wp2_with fail
  go_ret2
  exact ⟨rfl, HB.out⟩
end Go.Proofs.YtioldikeiiibgaaGreatDoor.U8
