/- Flags of texts and of bools are defined (package few) in a set with any flags. (Printed by gen_ndef.py.) -/
import Derived.Test.YtmmkebdaijmpiaaGreatNAddW
namespace Go.Proofs.YtmmkebdaijmpiaaGreat
open Go.RowKit
set_option linter.unusedVariables false
set_option linter.unusedSimpArgs false

def flN (nm sh : ByteArray) (iv : Value) (df no : ByteArray) : Array Value := #[.string nm, .string sh, .string ⟨#[]⟩, iv, .string df, .bool false, .string no, .string ⟨#[]⟩, .bool false, .string ⟨#[]⟩, .map none]
def ivB (P : Nat) : Value := .iface 139 (ptr P)
def ivS (P : Nat) : Value := .iface 146 (ptr P)
def tB (x : Bool) : ByteArray := if x then ⟨#[116, 114, 117, 101]⟩ else ⟨#[102, 97, 108, 115, 101]⟩
/-- The set has one flag more. -/
def Added (w0 : World) (F : Nat) (nm sh : ByteArray) (fl : List (ByteArray × Value)) (sl : List (UInt8 × Value)) (ol : List Value) (G : Nat) (w' : World) : Prop :=
  ∃ fm sm ofv, Many w0 F fm (fl ++ [(nm, ptr G)]) sm (sl ++ ((firstB sh).map fun c => (c, ptr G)).toList) ofv (ol ++ [ptr G]) w'
/-- What comes of a definition. -/
structure DefEnd (Ret : Ending → Nat → World → Prop) (w0 w : World) (F : Nat) (nm sh : ByteArray) (fl : List (ByteArray × Value)) (sl : List (UInt8 × Value)) (ol : List Value) (e : Ending) (w' : World) : Prop where
  keep : KeepT w w'
  bel : Below w0.heap.size w0 w'
  good : addOk nm sh fl sl → ∃ G, w.heap.size ≤ G ∧ w0.heap.size ≤ G ∧ Ret e G w' ∧ Added w0 F nm sh fl sl ol G w'
  bad : ¬ addOk nm sh fl sl → Dies e
theorem DefEnd.mono {R R' : Ending → Nat → World → Prop} {w0 w w1 : World} {F : Nat} {nm sh : ByteArray} {fl : List (ByteArray × Value)} {sl : List (UInt8 × Value)} {ol : List Value} {e : Ending} {w' : World} (h : DefEnd R w0 w F nm sh fl sl ol e w') (k : KeepT w1 w) (hr : ∀ G, R e G w' → R' e G w') : DefEnd R' w0 w1 F nm sh fl sl ol e w' :=
  ⟨k.trans h.keep, h.bel, fun ok => by
    obtain ⟨G, lW, lG, h1, h2⟩ := h.good ok
    exact ⟨G, Nat.le_trans k.size lW, lG, hr G h1, h2⟩, h.bad⟩
/-- The flag at G, its value at P. -/
structure FlagIs (tP : TypeId) (w0 : World) (nm sh : ByteArray) (iv : Nat → Value) (df no : ByteArray) (v : Value) (G : Nat) (w : World) : Prop where
  val : ∃ P, w0.heap.size ≤ P ∧ w.heap[G]? = some (.cells (flN nm sh (iv P) df no) 85 (0, 0)) ∧ w.heap[P]? = some (.cells #[v] tP (0, 0))
set_option maxRecDepth 100000 in
theorem newFS_any (w : World) :
    Calls Tryz.prog 40 #[.string ⟨#[]⟩, .int .i64 0] w fun e w' => e = .returned (ptr w.heap.size) ∧ w' = w.alloc (.cells (fsN none (.slice none 0 0) none) 75) := by
  go_enter Tryz.func40, Tryz.ntmps40
  go_wp2_with fail
  go_ret
  exact ⟨rfl, rfl⟩
theorem strText_any (P : Nat) (s : ByteArray) (w : World) (h : w.heap[P]? = some (.cells #[.string s] 9 (0, 0))) :
    Calls Tryz.prog 166 #[ptr P] w fun e w' => e = .returned (.string s) ∧ w = w' := by
  have c := cell_of_one h
  clear h
  unfold ptr
  go_enter Tryz.func166, Tryz.ntmps166
  go_wp2_with fail
  go_ret
  exact ⟨rfl, rfl⟩
theorem boolText_any (P : Nat) (x : Bool) (w : World) (h : w.heap[P]? = some (.cells #[.bool x] 4 (0, 0))) :
    Calls Tryz.prog 129 #[ptr P] w fun e w' => e = .returned (.string (tB x)) ∧ w = w' := by
  have hc := cell_of_one h
  clear h
  unfold ptr
  cases x
  all_goals
    unfold tB
    go_enter Tryz.func129, Tryz.ntmps129
    go_wp2
    go_ret
    exact ⟨rfl, rfl⟩

set_option maxRecDepth 100000 in
theorem varPFS_any {w0 w : World} {F : Nat} {fm : Option Nat} {fl : List (ByteArray × Value)} {sm : Option Nat} {sl : List (UInt8 × Value)} {ofv : Value} {ol : List Value} (h : Many w0 F fm fl sm sl ofv ol w) (nm sh : ByteArray) (ho : ol.length ≤ 1099511627776) (hsz : sh.size ≤ 4294967295) (x : ByteArray) (P : Nat) (hP : w.heap[P]? = some (.cells #[.string x] 9 (0, 0))) (lP : w0.heap.size ≤ P) :
    Calls Tryz.prog 78 #[ptr F, ivS P, .string nm, .string sh, .string ⟨#[]⟩] w (DefEnd (fun e G w' => e = .returned (ptr G) ∧ w'.heap[G]? = some (.cells (flN nm sh (ivS P) x ⟨#[]⟩) 85 (0, 0)) ∧ w'.heap[P]? = some (.cells #[.string x] 9 (0, 0))) w0 w F nm sh fl sl ol) := by
  have hm : ∀ w, (method 329 146 (.pointer (some ⟨P, 0, none⟩)) "String").run Tryz.prog w = .ok (166, .pointer (some ⟨P, 0, none⟩)) w := fun _ => by kernel_rfl
  have CS := Lib.hid (strText_any P x w hP)
  have lP1 := lt_of_block hP
  have M1 := h.later ((Below.refl _ w).alloc (Nat.le_refl _) (.cells (flN nm sh (ivS P) x ⟨#[]⟩) 85))
  have CA := Lib.hid (addN_any M1 (G := w.heap.size) (cs := flN nm sh (ivS P) x ⟨#[]⟩) (heap_at _ _ _ rfl) rfl rfl h.bel.size ho hsz)
  have HP := Lib.hid (show (w.alloc (.cells (flN nm sh (ivS P) x ⟨#[]⟩) 85)).heap[P]? = some (.cells #[.string x] 9 (0, 0)) from heap_past' lP1 hP)
  have HB := Lib.hid h.bel.size
  clear h hP M1
  unfold ptr ivS at *
  unfold ptr flN at *
  go_enter Tryz.func78, Tryz.ntmps78
  go_wp2_with fail
  refine CS.out.mono ?_
  rintro e w1 ⟨rfl, rfl⟩
  go_wp2_with fail
  refine CA.out.mono ?_
  intro e w3 h3
  have H3 := Lib.hid h3
  clear CA CS
  by_cases ok : addOk nm sh fl sl
  · obtain ⟨rfl, hG, hA⟩ := h3.good ok
    have HG := Lib.hid hG
    have HA := Lib.hid hA
    clear h3 hG hA
    go_wp2_with fail
    go_ret
    exact ⟨H3.out.keep.new, H3.out.bel, fun _ => ⟨_, Nat.le_refl _, HB.out, ⟨rfl, HG.out, H3.out.keep.cells _ _ _ _ HP.out (by decide) (by decide) (by omega)⟩, HA.out⟩, fun hh => absurd ok hh⟩
  · obtain ⟨u, pv, rfl⟩ := h3.bad ok
    clear h3
    go_wp2_with fail
    exact ⟨rfl, H3.out.keep.new, H3.out.bel, fun hh => absurd hh ok, fun _ => ⟨_, _, rfl⟩⟩

set_option maxRecDepth 100000 in
theorem varPFB_any {w0 w : World} {F : Nat} {fm : Option Nat} {fl : List (ByteArray × Value)} {sm : Option Nat} {sl : List (UInt8 × Value)} {ofv : Value} {ol : List Value} (h : Many w0 F fm fl sm sl ofv ol w) (nm sh : ByteArray) (ho : ol.length ≤ 1099511627776) (hsz : sh.size ≤ 4294967295) (x : Bool) (P : Nat) (hP : w.heap[P]? = some (.cells #[.bool x] 4 (0, 0))) (lP : w0.heap.size ≤ P) :
    Calls Tryz.prog 78 #[ptr F, ivB P, .string nm, .string sh, .string ⟨#[]⟩] w (DefEnd (fun e G w' => e = .returned (ptr G) ∧ w'.heap[G]? = some (.cells (flN nm sh (ivB P) (tB x) ⟨#[]⟩) 85 (0, 0)) ∧ w'.heap[P]? = some (.cells #[.bool x] 4 (0, 0))) w0 w F nm sh fl sl ol) := by
  have hm : ∀ w, (method 329 139 (.pointer (some ⟨P, 0, none⟩)) "String").run Tryz.prog w = .ok (129, .pointer (some ⟨P, 0, none⟩)) w := fun _ => by kernel_rfl
  have CS := Lib.hid (boolText_any P x w hP)
  have lP1 := lt_of_block hP
  have M1 := h.later ((Below.refl _ w).alloc (Nat.le_refl _) (.cells (flN nm sh (ivB P) (tB x) ⟨#[]⟩) 85))
  have CA := Lib.hid (addN_any M1 (G := w.heap.size) (cs := flN nm sh (ivB P) (tB x) ⟨#[]⟩) (heap_at _ _ _ rfl) rfl rfl h.bel.size ho hsz)
  have HP := Lib.hid (show (w.alloc (.cells (flN nm sh (ivB P) (tB x) ⟨#[]⟩) 85)).heap[P]? = some (.cells #[.bool x] 4 (0, 0)) from heap_past' lP1 hP)
  have HB := Lib.hid h.bel.size
  clear h hP M1
  unfold ptr ivB at *
  unfold ptr flN at *
  go_enter Tryz.func78, Tryz.ntmps78
  go_wp2_with fail
  refine CS.out.mono ?_
  rintro e w1 ⟨rfl, rfl⟩
  go_wp2_with fail
  refine CA.out.mono ?_
  intro e w3 h3
  have H3 := Lib.hid h3
  clear CA CS
  by_cases ok : addOk nm sh fl sl
  · obtain ⟨rfl, hG, hA⟩ := h3.good ok
    have HG := Lib.hid hG
    have HA := Lib.hid hA
    clear h3 hG hA
    go_wp2_with fail
    go_ret
    exact ⟨H3.out.keep.new, H3.out.bel, fun _ => ⟨_, Nat.le_refl _, HB.out, ⟨rfl, HG.out, H3.out.keep.cells _ _ _ _ HP.out (by decide) (by decide) (by omega)⟩, HA.out⟩, fun hh => absurd ok hh⟩
  · obtain ⟨u, pv, rfl⟩ := h3.bad ok
    clear h3
    go_wp2_with fail
    exact ⟨rfl, H3.out.keep.new, H3.out.bel, fun hh => absurd hh ok, fun _ => ⟨_, _, rfl⟩⟩
end Go.Proofs.YtmmkebdaijmpiaaGreat
