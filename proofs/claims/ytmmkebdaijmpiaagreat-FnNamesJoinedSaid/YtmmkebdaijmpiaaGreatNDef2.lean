/- Flags of texts and of bools are defined (package few), to the end: define. (Printed by gen_ndef2.py.) -/
import Derived.Test.YtmmkebdaijmpiaaGreatNDef
namespace Go.Proofs.YtmmkebdaijmpiaaGreat
open Go.RowKit
set_option linter.unusedVariables false
set_option linter.unusedSimpArgs false

set_option maxRecDepth 100000 in
theorem varPS_any {w0 w : World} {F : Nat} {fm : Option Nat} {fl : List (ByteArray × Value)} {sm : Option Nat} {sl : List (UInt8 × Value)} {ofv : Value} {ol : List Value} (h : Many w0 F fm fl sm sl ofv ol w) (nm sh : ByteArray) (ho : ol.length ≤ 1099511627776) (hsz : sh.size ≤ 4294967295) (x : ByteArray) (P : Nat) (hP : w.heap[P]? = some (.cells #[.string x] 9 (0, 0))) (lP : w0.heap.size ≤ P) :
    Calls Tryz.prog 80 #[ptr F, ivS P, .string nm, .string sh, .string ⟨#[]⟩] w (DefEnd (fun e G w' => e = .returned (.tuple #[]) ∧ FlagIs 9 w0 nm sh ivS x ⟨#[]⟩ (.string x) G w') w0 w F nm sh fl sl ol) := by
  have C := Lib.hid (varPFS_any h nm sh ho hsz x P hP lP)
  clear h hP
  unfold ptr ivS at *
  go_enter Tryz.func80, Tryz.ntmps80
  go_wp2_with fail
  refine C.out.mono ?_
  intro e w3 h3
  have H3 := Lib.hid h3
  clear C
  by_cases ok : addOk nm sh fl sl
  · obtain ⟨G, lW, lG, hR, hA⟩ := h3.good ok
    obtain ⟨rfl, hf⟩ := hR
    have HF := Lib.hid hf
    have HA := Lib.hid hA
    clear h3 hf hA
    go_wp2_with fail
    go_end0
    exact ⟨H3.out.keep, H3.out.bel, fun _ => ⟨G, lW, lG, ⟨rfl, ⟨P, lP, HF.out⟩⟩, HA.out⟩, fun hh => absurd ok hh⟩
  · obtain ⟨u, pv, rfl⟩ := h3.bad ok
    clear h3
    go_wp2_with fail
    exact ⟨rfl, H3.out.keep, H3.out.bel, fun hh => absurd hh ok, fun _ => ⟨_, _, rfl⟩⟩

theorem newS_any (P : Nat) (v : Value) (x : ByteArray) (w : World) (h : w.heap[P]? = some (.cells #[v] 9 (0, 0))) :
    Calls Tryz.prog 83 #[.string x, ptr P] w fun e w' => e = .returned (ptr P) ∧ w' = w.setCell ⟨P, 0, none⟩ (.string x) := by
  have c := cell_of_one h
  have z := free_of_one h
  clear h
  unfold ptr
  go_enter Tryz.func83, Tryz.ntmps83
  go_wp2_with fail
  go_ret
  exact ⟨rfl, rfl⟩
theorem movedPS {w0 w : World} {F : Nat} {fm : Option Nat} {fl : List (ByteArray × Value)} {sm : Option Nat} {sl : List (UInt8 × Value)} {ofv : Value} {ol : List Value} (h : Many w0 F fm fl sm sl ofv ol w) {P : Nat} {v : Value} (x : ByteArray) (hP : w.heap[P]? = some (.cells #[v] 9 (0, 0))) (lP : w0.heap.size ≤ P) : Many w0 F fm fl sm sl ofv ol (w.setCell ⟨P, 0, none⟩ (.string x)) := by
  refine h.move (h.bel.setCell lP _) (heap_ne _ _ _ _ (cells_ne h.hF hP (by decide))) (fun b e => heap_ne _ _ _ _ (h.hfm.ne hP b e)) (fun b e => heap_ne _ _ _ _ (h.hsm.ne hP b e)) (fun g e => ?_) (fun b c hb => heap_ne _ _ _ _ (cells_ne hb hP (by decide)))
  obtain ⟨_, c, hc⟩ := ownsRow_cells h.rOf e
  exact heap_ne _ _ _ _ (cells_ne hc hP (by decide))

theorem newB_any (P : Nat) (v : Value) (x : Bool) (w : World) (h : w.heap[P]? = some (.cells #[v] 4 (0, 0))) :
    Calls Tryz.prog 79 #[.bool x, ptr P] w fun e w' => e = .returned (ptr P) ∧ w' = w.setCell ⟨P, 0, none⟩ (.bool x) := by
  have c := cell_of_one h
  have z := free_of_one h
  clear h
  unfold ptr
  go_enter Tryz.func79, Tryz.ntmps79
  go_wp2_with fail
  go_ret
  exact ⟨rfl, rfl⟩
theorem movedPB {w0 w : World} {F : Nat} {fm : Option Nat} {fl : List (ByteArray × Value)} {sm : Option Nat} {sl : List (UInt8 × Value)} {ofv : Value} {ol : List Value} (h : Many w0 F fm fl sm sl ofv ol w) {P : Nat} {v : Value} (x : Bool) (hP : w.heap[P]? = some (.cells #[v] 4 (0, 0))) (lP : w0.heap.size ≤ P) : Many w0 F fm fl sm sl ofv ol (w.setCell ⟨P, 0, none⟩ (.bool x)) := by
  refine h.move (h.bel.setCell lP _) (heap_ne _ _ _ _ (cells_ne h.hF hP (by decide))) (fun b e => heap_ne _ _ _ _ (h.hfm.ne hP b e)) (fun b e => heap_ne _ _ _ _ (h.hsm.ne hP b e)) (fun g e => ?_) (fun b c hb => heap_ne _ _ _ _ (cells_ne hb hP (by decide)))
  obtain ⟨_, c, hc⟩ := ownsRow_cells h.rOf e
  exact heap_ne _ _ _ _ (cells_ne hc hP (by decide))

set_option maxRecDepth 100000 in
theorem strVarP_any {w0 w : World} {F : Nat} {fm : Option Nat} {fl : List (ByteArray × Value)} {sm : Option Nat} {sl : List (UInt8 × Value)} {ofv : Value} {ol : List Value} (h : Many w0 F fm fl sm sl ofv ol w) (nm sh : ByteArray) (ho : ol.length ≤ 1099511627776) (hsz : sh.size ≤ 4294967295) (x : ByteArray) (P : Nat) (v : Value) (hP : w.heap[P]? = some (.cells #[v] 9 (0, 0))) (lP : w0.heap.size ≤ P) :
    Calls Tryz.prog 76 #[ptr F, ptr P, .string nm, .string sh, .string x, .string ⟨#[]⟩] w (DefEnd (fun e G w' => e = .returned (.tuple #[]) ∧ FlagIs 9 w0 nm sh ivS x ⟨#[]⟩ (.string x) G w') w0 (w.setCell ⟨P, 0, none⟩ (.string x)) F nm sh fl sl ol) := by
  have C1 := Lib.hid (newS_any P v x w hP)
  have C := Lib.hid (varPS_any (movedPS h x hP lP) nm sh ho hsz x P (heap_set hP 0 _) lP)
  clear h hP
  unfold ivS at C
  unfold ptr at C C1
  unfold ptr
  go_enter Tryz.func76, Tryz.ntmps76
  go_wp2_with fail
  refine C1.out.mono ?_
  rintro e w1 ⟨rfl, rfl⟩
  go_wp2_with fail
  refine C.out.mono ?_
  intro e w3 h3
  have H3 := Lib.hid h3
  clear C
  by_cases ok : addOk nm sh fl sl
  · obtain ⟨G, lW, lG, hR, hA⟩ := h3.good ok
    obtain ⟨rfl, hf⟩ := hR
    have HF := Lib.hid hf
    have HA := Lib.hid hA
    clear h3 hf hA
    go_wp2_with fail
    go_end0
    exact ⟨H3.out.keep, H3.out.bel, fun _ => ⟨G, lW, lG, ⟨rfl, HF.out⟩, HA.out⟩, fun hh => absurd ok hh⟩
  · obtain ⟨u, pv, rfl⟩ := h3.bad ok
    clear h3
    go_wp2_with fail
    exact ⟨rfl, H3.out.keep, H3.out.bel, fun hh => absurd hh ok, fun _ => ⟨_, _, rfl⟩⟩

set_option maxRecDepth 100000 in
theorem strP_any {w0 w : World} {F : Nat} {fm : Option Nat} {fl : List (ByteArray × Value)} {sm : Option Nat} {sl : List (UInt8 × Value)} {ofv : Value} {ol : List Value} (h : Many w0 F fm fl sm sl ofv ol w) (nm sh : ByteArray) (ho : ol.length ≤ 1099511627776) (hsz : sh.size ≤ 4294967295) (x : ByteArray) :
    Calls Tryz.prog 66 #[ptr F, .string nm, .string sh, .string x, .string ⟨#[]⟩] w (DefEnd (fun e G w' => (∃ v, e = .returned v) ∧ FlagIs 9 w0 nm sh ivS x ⟨#[]⟩ (.string x) G w') w0 w F nm sh fl sl ol) := by
  have C := Lib.hid (strVarP_any (h.later ((Below.refl _ w).alloc (Nat.le_refl _) (.cells #[.string ⟨#[]⟩] 9))) nm sh ho hsz x w.heap.size (.string ⟨#[]⟩) (heap_at _ _ _ rfl) h.bel.size)
  have HK := Lib.hid (show KeepT w ((w.alloc (.cells #[.string ⟨#[]⟩] 9)).setCell ⟨w.heap.size, 0, none⟩ (.string x)) from KeepT.below (Below.setCell ((Below.refl _ w).alloc (Nat.le_refl _) _) (Nat.le_refl _) _))
  clear h
  unfold ptr at *
  go_enter Tryz.func66, Tryz.ntmps66
  go_wp2_with fail
  refine C.out.mono ?_
  intro e w3 h3
  have H3 := Lib.hid h3
  clear C
  by_cases ok : addOk nm sh fl sl
  · obtain ⟨G, lW, lG, hR, hA⟩ := h3.good ok
    obtain ⟨rfl, hf⟩ := hR
    have HF := Lib.hid hf
    have HA := Lib.hid hA
    clear h3 hf hA
    go_wp2_with fail
    go_ret
    exact ⟨HK.out.trans H3.out.keep, H3.out.bel, fun _ => ⟨G, Nat.le_trans HK.out.size lW, lG, ⟨⟨_, rfl⟩, HF.out⟩, HA.out⟩, fun hh => absurd ok hh⟩
  · obtain ⟨u, pv, rfl⟩ := h3.bad ok
    clear h3
    go_wp2_with fail
    exact ⟨rfl, HK.out.trans H3.out.keep, H3.out.bel, fun hh => absurd hh ok, fun _ => ⟨_, _, rfl⟩⟩

/-- The flag's NoOptDefVal is written. -/
theorem Added.set {w0 : World} {F : Nat} {nm sh : ByteArray} {fl : List (ByteArray × Value)} {sl : List (UInt8 × Value)} {ol : List Value} {G : Nat} {w : World} (h : Added w0 F nm sh fl sl ol G w) {iv : Value} {df no no' : ByteArray} (hG : w.heap[G]? = some (.cells (flN nm sh iv df no) 85 (0, 0))) (lG : w0.heap.size ≤ G) :
    Added w0 F nm sh fl sl ol G (w.setCell ⟨G, 6, none⟩ (.string no')) := by
  obtain ⟨fm, sm, ofv, h⟩ := h
  exact ⟨fm, sm, ofv, h.setG hG lG _ rfl⟩
set_option maxRecDepth 100000 in
theorem boolVarP_any {w0 w : World} {F : Nat} {fm : Option Nat} {fl : List (ByteArray × Value)} {sm : Option Nat} {sl : List (UInt8 × Value)} {ofv : Value} {ol : List Value} (h : Many w0 F fm fl sm sl ofv ol w) (nm sh : ByteArray) (ho : ol.length ≤ 1099511627776) (hsz : sh.size ≤ 4294967295) (x : Bool) (P : Nat) (v : Value) (hP : w.heap[P]? = some (.cells #[v] 4 (0, 0))) (lP : w0.heap.size ≤ P) :
    Calls Tryz.prog 73 #[ptr F, ptr P, .string nm, .string sh, .bool x, .string ⟨#[]⟩] w (DefEnd (fun e G w' => e = .returned (.tuple #[]) ∧ FlagIs 4 w0 nm sh ivB (tB x) ⟨#[116, 114, 117, 101]⟩ (.bool x) G w') w0 (w.setCell ⟨P, 0, none⟩ (.bool x)) F nm sh fl sl ol) := by
  have C1 := Lib.hid (newB_any P v x w hP)
  have C := Lib.hid (varPFB_any (movedPB h x hP lP) nm sh ho hsz x P (heap_set hP 0 _) lP)
  clear h hP
  unfold ivB at C
  unfold ptr at C C1
  unfold ptr
  go_enter Tryz.func73, Tryz.ntmps73
  go_wp2_with fail
  refine C1.out.mono ?_
  rintro e w1 ⟨rfl, rfl⟩
  go_wp2_with fail
  refine C.out.mono ?_
  intro e w3 h3
  have H3 := Lib.hid h3
  clear C
  by_cases ok : addOk nm sh fl sl
  · obtain ⟨G, lW, lG, ⟨rfl, hG, hp⟩, hA⟩ := h3.good ok
    have HG := Lib.hid hG
    have HP := Lib.hid hp
    have HA := Lib.hid hA
    have c6 := cell_of hG 6 (.string ⟨#[]⟩) rfl
    have z6 := frozen_of hG 6
    have l6 := lt_of_block hG
    clear h3 hG hp hA
    go_wp2_with fail
    go_end0
    refine ⟨H3.out.keep.setNew lW _, H3.out.bel.setCell lG _, fun _ => ⟨G, lW, lG, ⟨rfl, ⟨P, lP, ?_, ?_⟩⟩, HA.out.set HG.out lG⟩, fun hh => absurd ok hh⟩
    · rw [heap_set HG.out 6 _]; rfl
    · exact heap_ne' (Ne.symm (cells_ne HG.out HP.out (by decide))) HP.out
  · obtain ⟨u, pv, rfl⟩ := h3.bad ok
    clear h3
    go_wp2_with fail
    exact ⟨rfl, H3.out.keep, H3.out.bel, fun hh => absurd hh ok, fun _ => ⟨_, _, rfl⟩⟩

set_option maxRecDepth 100000 in
theorem boolP_any {w0 w : World} {F : Nat} {fm : Option Nat} {fl : List (ByteArray × Value)} {sm : Option Nat} {sl : List (UInt8 × Value)} {ofv : Value} {ol : List Value} (h : Many w0 F fm fl sm sl ofv ol w) (nm sh : ByteArray) (ho : ol.length ≤ 1099511627776) (hsz : sh.size ≤ 4294967295) (x : Bool) :
    Calls Tryz.prog 63 #[ptr F, .string nm, .string sh, .bool x, .string ⟨#[]⟩] w (DefEnd (fun e G w' => (∃ v, e = .returned v) ∧ FlagIs 4 w0 nm sh ivB (tB x) ⟨#[116, 114, 117, 101]⟩ (.bool x) G w') w0 w F nm sh fl sl ol) := by
  have C := Lib.hid (boolVarP_any (h.later ((Below.refl _ w).alloc (Nat.le_refl _) (.cells #[.bool false] 4))) nm sh ho hsz x w.heap.size (.bool false) (heap_at _ _ _ rfl) h.bel.size)
  have HK := Lib.hid (show KeepT w ((w.alloc (.cells #[.bool false] 4)).setCell ⟨w.heap.size, 0, none⟩ (.bool x)) from KeepT.below (Below.setCell ((Below.refl _ w).alloc (Nat.le_refl _) _) (Nat.le_refl _) _))
  clear h
  unfold ptr at *
  go_enter Tryz.func63, Tryz.ntmps63
  go_wp2_with fail
  refine C.out.mono ?_
  intro e w3 h3
  have H3 := Lib.hid h3
  clear C
  by_cases ok : addOk nm sh fl sl
  · obtain ⟨G, lW, lG, hR, hA⟩ := h3.good ok
    obtain ⟨rfl, hf⟩ := hR
    have HF := Lib.hid hf
    have HA := Lib.hid hA
    clear h3 hf hA
    go_wp2_with fail
    go_ret
    exact ⟨HK.out.trans H3.out.keep, H3.out.bel, fun _ => ⟨G, Nat.le_trans HK.out.size lW, lG, ⟨⟨_, rfl⟩, HF.out⟩, HA.out⟩, fun hh => absurd ok hh⟩
  · obtain ⟨u, pv, rfl⟩ := h3.bad ok
    clear h3
    go_wp2_with fail
    exact ⟨rfl, HK.out.trans H3.out.keep, H3.out.bel, fun hh => absurd hh ok, fun _ => ⟨_, _, rfl⟩⟩

/-- The cells of an impl.Def. -/
def defC (nm sh : ByteArray) (k : Int) (on : Bool) (n : Int) (tx : ByteArray) : Array Value := #[.string nm, .string sh, .int .i64 k, .bool on, .int .i64 n, .string tx]

/-- The flag that a definition makes: of a text (k is 0), or of a bool (k is 1). -/
def FlagD (w0 : World) (nm sh : ByteArray) (k : Int) (on : Bool) (tx : ByteArray) (G : Nat) (w : World) : Prop :=
  (k = 0 ∧ FlagIs 9 w0 nm sh ivS tx ⟨#[]⟩ (.string tx) G w) ∨ (k = 1 ∧ FlagIs 4 w0 nm sh ivB (tB on) ⟨#[116, 114, 117, 101]⟩ (.bool on) G w)
end Go.Proofs.YtmmkebdaijmpiaaGreat
