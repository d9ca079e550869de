/- What a bool's value says behind each text that it is set to; the law FnBoolsAll. -/
import Derived.Test.YtkhjffjdchkobaaDoorSayer
import Derived.Test.YtkhjffjdchkobaaDoorOpenT
import Derived.Test.YtkhjffjdchkobaaDoorShelfB
import Derived.Shelf.Strconv.ParseBool
import Derived.Shelf.Strconv.ParseBoolErr
namespace Go.Proofs.YtkhjffjdchkobaaDoor
open Go.RowKit
set_option linter.unusedVariables false
set_option linter.unusedSimpArgs false

/-- What a text is read as. -/
def pb (s : ByteArray) : Option Bool := Lib.parseBool s.data.toList
def tB (b : Bool) : ByteArray := if b then ⟨#[116, 114, 117, 101]⟩ else ⟨#[102, 97, 108, 115, 101]⟩

theorem pb_ok (s : ByteArray) (b : Bool) (h : pb s = some b) (w : World) : Calls Tryd.prog 19 #[.string s] w fun e w' => e = .returned (.tuple #[.bool b, .nilIface]) ∧ w = w' :=
  (Any.strconv_ParseBool { lays175 with } s b h w).mono fun _ _ ⟨h1, h2⟩ => ⟨h1, h2.symm⟩
/-- The variable of errors. -/
def ErrAt (w : World) : Prop := ∃ t p, w.cell? ⟨0, 0, none⟩ = some (.iface t p)
def ErrV (w : World) (e : Ending) (w' : World) : Prop := ∃ t p, e = .returned (.tuple #[.bool false, .iface t p]) ∧ Below w.heap.size w w'
theorem pb_bad (s : ByteArray) (hs : s.size ≤ 2147483647) (h : pb s = none) (w : World) (hE : ErrAt w) : Calls Tryd.prog 19 #[.string s] w (ErrV w) := by
  obtain ⟨t, p, hc⟩ := hE
  refine (Any.strconv_ParseBool_err lays175 s (by omega) h (.iface t p) w hc (.inr ⟨t, p, rfl⟩)).mono ?_
  rintro e w' ⟨N, rfl, -, -, hb⟩
  exact ⟨_, _, rfl, hb⟩
theorem ErrAt.later {w w' : World} (h : ErrAt w) (hk : ∀ b, b < w.heap.size → w'.heap[b]? = w.heap[b]?) : ErrAt w' := by
  obtain ⟨t, p, hc⟩ := h
  refine ⟨t, p, ?_⟩
  have hlt : 0 < w.heap.size := by
    rcases Nat.lt_or_ge 0 w.heap.size with h' | h'
    · exact h'
    · simp [World.cell?, Array.getElem?_eq_none h'] at hc
  simpa only [World.cell?, hk _ hlt] using hc

/-- A pointer is set to a value; the error. -/
def SetTo (P : Nat) (v : Value) (bad : Bool) (w : World) (e : Ending) (w' : World) : Prop := ∃ er w2, e = .returned er ∧ (if bad then ∃ t p, er = .iface t p else er = .nilIface) ∧ Below w.heap.size w w2 ∧ w' = w2.setCell ⟨P, 0, none⟩ v
theorem set_ok (P : Nat) (x : Bool) (T : TypeId) (s : ByteArray) (b : Bool) (h : pb s = some b) (w : World) (hP : w.heap[P]? = some (.cells #[.bool x] T (0, 0))) :
    Calls Tryd.prog 12 #[.pointer (some ⟨P, 0, none⟩), .string s] w (SetTo P (.bool b) false w) := by
  have C := Lib.hid (fun W => pb_ok s b h W)
  have h1 := cell_of_one hP
  have h2 := free_of_one hP
  clear h hP
  go_enter Tryd.func12, Tryd.ntmps12
  go_wp2_with fail
  refine (C.out _).mono ?_
  rintro e w2 ⟨rfl, rfl⟩
  go_wp2_with fail
  go_ret
  exact ⟨_, w, rfl, rfl, Below.refl _ _, rfl⟩
theorem set_bad (P : Nat) (x : Bool) (T : TypeId) (s : ByteArray) (hs : s.size ≤ 2147483647) (h : pb s = none) (w : World) (hP : w.heap[P]? = some (.cells #[.bool x] T (0, 0))) (hE : ErrAt w) :
    Calls Tryd.prog 12 #[.pointer (some ⟨P, 0, none⟩), .string s] w (SetTo P (.bool false) true w) := by
  have C := Lib.hid (pb_bad s hs h w hE)
  have HP := Lib.hid hP
  clear h hP hE
  go_enter Tryd.func12, Tryd.ntmps12
  go_wp2_with fail
  refine C.out.mono ?_
  rintro e w2 ⟨t, p, rfl, hb⟩
  have hP2 := (hb.block _ (lt_of_block HP.out)).trans HP.out
  have HB := Lib.hid hb
  have h1 := cell_of_one hP2
  have h2 := free_of_one hP2
  clear hb hP2
  go_wp2_with fail
  go_ret
  exact ⟨_, w2, rfl, ⟨t, p, rfl⟩, HB.out, rfl⟩
theorem text_any (P : Nat) (x : Bool) (w : World) (hc : w.cell? ⟨P, 0, none⟩ = some (.bool x)) :
    Calls Tryd.prog 13 #[.pointer (some ⟨P, 0, none⟩)] w fun e w' => e = .returned (.string (tB x)) ∧ w' = w := by
  cases x
  all_goals
    unfold tB
    go_enter Tryd.func13, Tryd.ntmps13
    go_wp2
    go_ret
    exact ⟨rfl, rfl⟩
end Go.Proofs.YtkhjffjdchkobaaDoor
