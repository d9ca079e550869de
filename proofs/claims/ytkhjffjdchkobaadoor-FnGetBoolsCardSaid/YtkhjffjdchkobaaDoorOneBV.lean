/- The value of a flag of bools (package few): set, its text, read back. (Printed by gen_one.py.) -/
import Derived.Test.YtkhjffjdchkobaaDoorOneS
import Derived.Test.YtkhjffjdchkobaaDoorBools
namespace Go.Proofs.YtkhjffjdchkobaaDoor
open Go.RowKit
set_option linter.unusedVariables false
set_option linter.unusedSimpArgs false

theorem fset_ok (P : Nat) (x : Bool) (T : TypeId) (s : ByteArray) (b : Bool) (h : pb s = some b) (w : World) (hP : w.heap[P]? = some (.cells #[.bool x] T (0, 0))) :
    Calls Tryd.prog 78 #[.pointer (some ⟨P, 0, none⟩), .string s] w (SetTo P (.bool b) false w) := by
  have C := Lib.hid (fun W => pb_ok s b h W)
  have h1 := cell_of_one hP
  have h2 := free_of_one hP
  clear h hP
  go_enter Tryd.func78, Tryd.ntmps78
  go_wp2_with fail
  refine (C.out _).mono ?_
  rintro e w2 ⟨rfl, rfl⟩
  go_wp2_with fail
  go_ret
  exact ⟨_, w, rfl, rfl, Below.refl _ _, rfl⟩
theorem fset_bad (P : Nat) (x : Bool) (T : TypeId) (s : ByteArray) (hs : s.size ≤ 2147483647) (h : pb s = none) (w : World) (hP : w.heap[P]? = some (.cells #[.bool x] T (0, 0))) (hE : ErrAt w) :
    Calls Tryd.prog 78 #[.pointer (some ⟨P, 0, none⟩), .string s] w (SetTo P (.bool false) true w) := by
  have C := Lib.hid (pb_bad s hs h w hE)
  have HP := Lib.hid hP
  clear h hP hE
  go_enter Tryd.func78, Tryd.ntmps78
  go_wp2_with fail
  refine C.out.mono ?_
  rintro e w2 ⟨t, p, rfl, hb⟩
  have hP2 := (hb.block _ (lt_of_block HP.out)).trans HP.out
  have HB := Lib.hid hb
  have h1 := cell_of_one hP2
  have h2 := free_of_one hP2
  clear hb hP2
  go_wp2_with fail
  go_ret
  exact ⟨_, w2, rfl, ⟨t, p, rfl⟩, HB.out, rfl⟩
theorem ftext_any (P : Nat) (x : Bool) (w : World) (hc : w.cell? ⟨P, 0, none⟩ = some (.bool x)) :
    Calls Tryd.prog 79 #[.pointer (some ⟨P, 0, none⟩)] w fun e w' => e = .returned (.string (tB x)) ∧ w' = w := by
  cases x
  all_goals
    unfold tB
    go_enter Tryd.func79, Tryd.ntmps79
    go_wp2
    go_ret
    exact ⟨rfl, rfl⟩

def valV (t : ByteArray) : Bool := (pb t).getD false
def badV (t : ByteArray) : Bool := (pb t).isNone
def txtV (x : Bool) : ByteArray := tB x
theorem setV_any (P : Nat) (x : Bool) (t : ByteArray) (ht : t.size ≤ 2147483647) (w : World) (h : w.heap[P]? = some (.cells #[.bool x] 4 (0, 0))) (hE : ErrAt w) :
    Calls Tryd.prog 78 #[ptr P, .string t] w (SetTo P (.bool (valV t)) (badV t) w) := by
  unfold valV badV ptr
  cases hq : pb t with
  | none => exact fset_bad P x _ t ht hq w h hE
  | some b => exact fset_ok P x _ t b hq w h
theorem txtV_any (P : Nat) (x : Bool) (w : World) (h : w.heap[P]? = some (.cells #[.bool x] 4 (0, 0))) :
    Calls Tryd.prog 79 #[ptr P] w fun e w' => e = .returned (.string (txtV x)) ∧ Below w.heap.size w w' := by
  refine (ftext_any P x w (cell_of_one h)).mono ?_
  rintro e w' ⟨rfl, rfl⟩
  exact ⟨rfl, Below.refl _ _⟩
theorem typV_any (P : Nat) (w : World) :
    Calls Tryd.prog 80 #[ptr P] w fun e w' => e = .returned (.string ⟨#[98, 111, 111, 108]⟩) ∧ w = w' := by
  unfold ptr
  go_enter Tryd.func80, Tryd.ntmps80
  go_wp2_with fail
  go_ret
  exact ⟨rfl, rfl⟩
theorem cnvV_any (x : Bool) (w : World) :
    Calls Tryd.prog 17 #[.string (txtV x)] w fun e w' => e = .returned (.tuple #[.iface 4 (.bool x), .nilIface]) ∧ Below w.heap.size w w' := by
  have C := Lib.hid (pb_ok (txtV x) x (by cases x <;> decide) w)
  go_enter Tryd.func17, Tryd.ntmps17
  go_wp2_with fail
  refine C.out.mono ?_
  rintro e w2 ⟨rfl, rfl⟩
  go_wp2_with fail
  go_ret2
  exact ⟨rfl, Below.refl _ _⟩
end Go.Proofs.YtkhjffjdchkobaaDoor
