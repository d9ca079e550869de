/- The law FnBoolsAll: what impl.BoolValue tells is what spec.Truth says. -/
import Derived.Test.YtgfflikkkkhdkaaDoorBoolsI
import Derived.Laws.OwnMore
namespace Go.Proofs.YtgfflikkkkhdkaaDoor
open Go.RowKit
set_option linter.unusedVariables false
set_option linter.unusedSimpArgs false

theorem ba_of {s : ByteArray} {l : List UInt8} (h : s.toList = l) : s = ⟨l.toArray⟩ := by
  rw [Lib.toList_data] at h
  subst h
  rfl
theorem truth_is49 (w : World) : Calls Tryd.prog 7 #[.string ⟨#[49]⟩, .bool true] w fun e w' => e = .returned (.tuple #[.bool true, .int .i64 1]) ∧ w = w' := by
  go_enter Tryd.func7, Tryd.ntmps7
  go_wp2
  go_ret2
  exact ⟨rfl, rfl⟩
theorem truth_is116 (w : World) : Calls Tryd.prog 7 #[.string ⟨#[116]⟩, .bool true] w fun e w' => e = .returned (.tuple #[.bool true, .int .i64 1]) ∧ w = w' := by
  go_enter Tryd.func7, Tryd.ntmps7
  go_wp2
  go_ret2
  exact ⟨rfl, rfl⟩
theorem truth_is84 (w : World) : Calls Tryd.prog 7 #[.string ⟨#[84]⟩, .bool true] w fun e w' => e = .returned (.tuple #[.bool true, .int .i64 1]) ∧ w = w' := by
  go_enter Tryd.func7, Tryd.ntmps7
  go_wp2
  go_ret2
  exact ⟨rfl, rfl⟩
theorem truth_is116114117101 (w : World) : Calls Tryd.prog 7 #[.string ⟨#[116, 114, 117, 101]⟩, .bool true] w fun e w' => e = .returned (.tuple #[.bool true, .int .i64 1]) ∧ w = w' := by
  go_enter Tryd.func7, Tryd.ntmps7
  go_wp2
  go_ret2
  exact ⟨rfl, rfl⟩
theorem truth_is84828569 (w : World) : Calls Tryd.prog 7 #[.string ⟨#[84, 82, 85, 69]⟩, .bool true] w fun e w' => e = .returned (.tuple #[.bool true, .int .i64 1]) ∧ w = w' := by
  go_enter Tryd.func7, Tryd.ntmps7
  go_wp2
  go_ret2
  exact ⟨rfl, rfl⟩
theorem truth_is84114117101 (w : World) : Calls Tryd.prog 7 #[.string ⟨#[84, 114, 117, 101]⟩, .bool true] w fun e w' => e = .returned (.tuple #[.bool true, .int .i64 1]) ∧ w = w' := by
  go_enter Tryd.func7, Tryd.ntmps7
  go_wp2
  go_ret2
  exact ⟨rfl, rfl⟩
theorem truth_is48 (w : World) : Calls Tryd.prog 7 #[.string ⟨#[48]⟩, .bool true] w fun e w' => e = .returned (.tuple #[.bool false, .int .i64 1]) ∧ w = w' := by
  go_enter Tryd.func7, Tryd.ntmps7
  go_wp2
  go_ret2
  exact ⟨rfl, rfl⟩
theorem truth_is102 (w : World) : Calls Tryd.prog 7 #[.string ⟨#[102]⟩, .bool true] w fun e w' => e = .returned (.tuple #[.bool false, .int .i64 1]) ∧ w = w' := by
  go_enter Tryd.func7, Tryd.ntmps7
  go_wp2
  go_ret2
  exact ⟨rfl, rfl⟩
theorem truth_is70 (w : World) : Calls Tryd.prog 7 #[.string ⟨#[70]⟩, .bool true] w fun e w' => e = .returned (.tuple #[.bool false, .int .i64 1]) ∧ w = w' := by
  go_enter Tryd.func7, Tryd.ntmps7
  go_wp2
  go_ret2
  exact ⟨rfl, rfl⟩
theorem truth_is10297108115101 (w : World) : Calls Tryd.prog 7 #[.string ⟨#[102, 97, 108, 115, 101]⟩, .bool true] w fun e w' => e = .returned (.tuple #[.bool false, .int .i64 1]) ∧ w = w' := by
  go_enter Tryd.func7, Tryd.ntmps7
  go_wp2
  go_ret2
  exact ⟨rfl, rfl⟩
theorem truth_is7065768369 (w : World) : Calls Tryd.prog 7 #[.string ⟨#[70, 65, 76, 83, 69]⟩, .bool true] w fun e w' => e = .returned (.tuple #[.bool false, .int .i64 1]) ∧ w = w' := by
  go_enter Tryd.func7, Tryd.ntmps7
  go_wp2
  go_ret2
  exact ⟨rfl, rfl⟩
theorem truth_is7097108115101 (w : World) : Calls Tryd.prog 7 #[.string ⟨#[70, 97, 108, 115, 101]⟩, .bool true] w fun e w' => e = .returned (.tuple #[.bool false, .int .i64 1]) ∧ w = w' := by
  go_enter Tryd.func7, Tryd.ntmps7
  go_wp2
  go_ret2
  exact ⟨rfl, rfl⟩
theorem truth_no (s : ByteArray) (w : World) (h0 : (s.toList == [49]) = false) (h1 : (s.toList == [116]) = false) (h2 : (s.toList == [84]) = false) (h3 : (s.toList == [116, 114, 117, 101]) = false) (h4 : (s.toList == [84, 82, 85, 69]) = false) (h5 : (s.toList == [84, 114, 117, 101]) = false) (h6 : (s.toList == [48]) = false) (h7 : (s.toList == [102]) = false) (h8 : (s.toList == [70]) = false) (h9 : (s.toList == [102, 97, 108, 115, 101]) = false) (h10 : (s.toList == [70, 65, 76, 83, 69]) = false) (h11 : (s.toList == [70, 97, 108, 115, 101]) = false) : Calls Tryd.prog 7 #[.string s, .bool true] w fun e w' => e = .returned (.tuple #[.bool false, .int .i64 2]) ∧ w = w' := by
  go_enter Tryd.func7, Tryd.ntmps7
  go_wp2
  go_ret2
  exact ⟨rfl, rfl⟩
theorem truth_any (s : ByteArray) (w : World) : Calls Tryd.prog 7 #[.string s, .bool true] w fun e w' => e = .returned (.tuple #[.bool ((pb s).getD false), .int .i64 (if (pb s).isNone then 2 else 1)]) ∧ w = w' := by
  have hp : pb s = Lib.parseBool s.toList := by rw [pb, Lib.toList_data]
  cases h0 : (s.toList == [49]) with
  | true =>
    have e := ba_of (eq_of_beq h0)
    have q : pb s = some true := by rw [hp, eq_of_beq h0]; decide
    rw [q]
    subst e
    exact truth_is49 w
  | false =>
  cases h1 : (s.toList == [116]) with
  | true =>
    have e := ba_of (eq_of_beq h1)
    have q : pb s = some true := by rw [hp, eq_of_beq h1]; decide
    rw [q]
    subst e
    exact truth_is116 w
  | false =>
  cases h2 : (s.toList == [84]) with
  | true =>
    have e := ba_of (eq_of_beq h2)
    have q : pb s = some true := by rw [hp, eq_of_beq h2]; decide
    rw [q]
    subst e
    exact truth_is84 w
  | false =>
  cases h3 : (s.toList == [116, 114, 117, 101]) with
  | true =>
    have e := ba_of (eq_of_beq h3)
    have q : pb s = some true := by rw [hp, eq_of_beq h3]; decide
    rw [q]
    subst e
    exact truth_is116114117101 w
  | false =>
  cases h4 : (s.toList == [84, 82, 85, 69]) with
  | true =>
    have e := ba_of (eq_of_beq h4)
    have q : pb s = some true := by rw [hp, eq_of_beq h4]; decide
    rw [q]
    subst e
    exact truth_is84828569 w
  | false =>
  cases h5 : (s.toList == [84, 114, 117, 101]) with
  | true =>
    have e := ba_of (eq_of_beq h5)
    have q : pb s = some true := by rw [hp, eq_of_beq h5]; decide
    rw [q]
    subst e
    exact truth_is84114117101 w
  | false =>
  cases h6 : (s.toList == [48]) with
  | true =>
    have e := ba_of (eq_of_beq h6)
    have q : pb s = some false := by rw [hp, eq_of_beq h6]; decide
    rw [q]
    subst e
    exact truth_is48 w
  | false =>
  cases h7 : (s.toList == [102]) with
  | true =>
    have e := ba_of (eq_of_beq h7)
    have q : pb s = some false := by rw [hp, eq_of_beq h7]; decide
    rw [q]
    subst e
    exact truth_is102 w
  | false =>
  cases h8 : (s.toList == [70]) with
  | true =>
    have e := ba_of (eq_of_beq h8)
    have q : pb s = some false := by rw [hp, eq_of_beq h8]; decide
    rw [q]
    subst e
    exact truth_is70 w
  | false =>
  cases h9 : (s.toList == [102, 97, 108, 115, 101]) with
  | true =>
    have e := ba_of (eq_of_beq h9)
    have q : pb s = some false := by rw [hp, eq_of_beq h9]; decide
    rw [q]
    subst e
    exact truth_is10297108115101 w
  | false =>
  cases h10 : (s.toList == [70, 65, 76, 83, 69]) with
  | true =>
    have e := ba_of (eq_of_beq h10)
    have q : pb s = some false := by rw [hp, eq_of_beq h10]; decide
    rw [q]
    subst e
    exact truth_is7065768369 w
  | false =>
  cases h11 : (s.toList == [70, 97, 108, 115, 101]) with
  | true =>
    have e := ba_of (eq_of_beq h11)
    have q : pb s = some false := by rw [hp, eq_of_beq h11]; decide
    rw [q]
    subst e
    exact truth_is7097108115101 w
  | false =>
  have q : pb s = none := by
    rw [hp, Lib.parseBool_bytes]
    simp only [h0, h1, h2, h3, h4, h5, h6, h7, h8, h9, h10, h11, Bool.or_self, Bool.false_eq_true, if_false]
  rw [q]
  exact truth_no s w h0 h1 h2 h3 h4 h5 h6 h7 h8 h9 h10 h11

/-- What was said, as it lies. -/
def SaidB (w : World) (a : Option Addr) (l : List ByteArray) : Prop := ∀ i (h : i < l.length), ∃ b off, a = some ⟨b, off, none⟩ ∧ w.cell? ⟨b, off + i * 3, none⟩ = some (.bool (pb l[i]).isNone) ∧ w.cell? ⟨b, off + i * 3 + 1, none⟩ = some (.bool ((pb l[i]).getD false)) ∧ w.cell? ⟨b, off + i * 3 + 2, none⟩ = some (.string (tB ((pb l[i]).getD false))) ∧ b < w.heap.size
theorem flatB_get : ∀ (l : List ByteArray) (i : Nat) (h : i < l.length), (flatB l)[i * 3]? = some (.bool (pb l[i]).isNone) ∧ (flatB l)[i * 3 + 1]? = some (.bool ((pb l[i]).getD false)) ∧ (flatB l)[i * 3 + 2]? = some (.string (tB ((pb l[i]).getD false)))
  | x :: l, 0, h => ⟨rfl, rfl, rfl⟩
  | x :: l, i + 1, h => by
    have := flatB_get l i (by simpa using h)
    have e : flatB (x :: l) = .bool (pb x).isNone :: .bool ((pb x).getD false) :: .string (tB ((pb x).getD false)) :: flatB l := rfl
    rw [e, show (i + 1) * 3 = i * 3 + 3 by omega]
    exact this
theorem saidB_of {w : World} {base : Nat} {a : Option Addr} {n c : Nat} {l : List ByteArray} (h : w.ownsRow base 29 3 (.slice a n c) l.length (flatB l)) : SaidB w a l := by
  intro i hi
  rcases h.2 with ⟨e, hn⟩ | ⟨b, cap, cur, e, hb, hh, hnc, hcm, hcs, ht⟩
  · omega
  · cases e
    obtain ⟨q0, q1, q2⟩ := flatB_get l i hi
    rw [← ht, List.getElem?_take, if_pos (by omega), Array.getElem?_toList] at q0 q1 q2
    exact ⟨b, 0, rfl, by simp [World.cell?, hh, q0], by simp [World.cell?, hh, q1], by simp [World.cell?, hh, q2], lt_of_block hh⟩

theorem SaidB.later {w w' : World} {a : Option Addr} {l : List ByteArray} (h : SaidB w a l) (hb : Below w.heap.size w w') : SaidB w' a l := by
  intro i hi
  obtain ⟨b, off, e, c0, c1, c2, hlt⟩ := h i hi
  have := hb.size
  exact ⟨b, off, e, (hb.cell (p := ⟨b, _, none⟩) hlt).trans c0, (hb.cell (p := ⟨b, _, none⟩) hlt).trans c1, (hb.cell (p := ⟨b, _, none⟩) hlt).trans c2, by omega⟩

theorem heard_any (n : Int) (b : Bool) (hn : n = 1 ∨ n = 2) (w : World) : Calls Tryd.prog 8 #[.int .i64 n, .bool b] w fun e w' => e = .returned (.bool (b == decide (n = 2))) ∧ w = w' := by
  obtain rfl | rfl := hn <;> cases b
  all_goals
    go_enter Tryd.func8, Tryd.ntmps8
    go_wp2
    go_ret
    exact ⟨rfl, rfl⟩
theorem told_any (b : Bool) (w : World) : Calls Tryd.prog 9 #[.bool b] w fun e w' => e = .returned (.string (tB b)) ∧ w = w' := by
  cases b
  all_goals
    go_enter Tryd.func9, Tryd.ntmps9
    go_wp2
    go_ret
    exact ⟨rfl, rfl⟩

set_option maxRecDepth 100000 in
set_option maxHeartbeats 3200000 in
theorem truths_any (d : Bool) (v : Value) (l : List ByteArray) (w : World) (hv : Strs w v l) (hl : l.length ≤ 2147483647) (hs : ∀ s ∈ l, s.size ≤ 2147483647) (hE : ErrAt w) :
    Calls Tryd.prog 5 #[.bool d, v, .bool true] w fun e w' => e = .returned (.bool true) ∧ Below w.heap.size w w' := by
  obtain ⟨a, cap, rfl⟩ := hv.len
  have HV := Lib.hid (fun W (h : Below w.heap.size w W) => hv.later h.block)
  have C := Lib.hid (boolValue_any d _ l w hv hl hs hE)
  clear hv hE hs
  go_enter Tryd.func5, Tryd.ntmps5
  go_wp2_with fail
  refine C.out.mono ?_
  rintro e w1 ⟨rv, rfl, hrow, hb1⟩
  obtain ⟨ra, rc, rfl⟩ := row_form hrow
  have HSA := Lib.hid (fun W (h : Below w1.heap.size w1 W) => (saidB_of hrow).later h)
  have HB1 := Lib.hid hb1
  clear hrow hb1 C
  go_wp2_with fail
  go_loopw [22] (fun vi wr => ∃ k : Nat, k ≤ l.length ∧ vi = .int .i64 k ∧ Below w1.heap.size w1 wr) (fun vi _ => l.length - (intOf vi).toNat)
  case atStart => exact ⟨0, Nat.zero_le _, rfl, Below.refl _ _⟩
  case round =>
    obtain ⟨k, hk, rfl, hr⟩ := hrel
    have HR := Lib.hid hr
    clear hr
    by_cases hlt : k < l.length
    case neg =>
      go_wp2_with fail
      go_ret
      exact ⟨rfl, Below.after HB1.out HR.out⟩
    obtain ⟨sb, so, rfl, s0, s1, s2, slt⟩ := HSA.out wr HR.out k hlt
    obtain ⟨tb, tof, rfl, hc⟩ := (HV.out wr (Below.after HB1.out HR.out)).cell (by omega)
    have hck := hc k hlt
    have tlt : tb < wr.heap.size := by
      rcases Nat.lt_or_ge tb wr.heap.size with h | h
      · exact h
      · simp [World.cell?, Array.getElem?_eq_none h] at hck
    have HT := Lib.hid (fun W => truth_any l[k] W)
    clear hc
    generalize l[k] = x at *
    generalize pb x = r at *
    cases r with
    | none =>
      simp only [Option.isNone_none, Option.getD_none, if_true] at s0 s1 s2 HT
      go_wp2_with (go_at_call 7; refine (HT.out _).mono ?_; rintro e w' ⟨rfl, rfl⟩)
      go_quiet ((go_at_call 8; exact Calls.quiet_of_same ((heard_any 2 true (.inr rfl) _).mono fun _ _ ⟨h, q⟩ => ⟨h, q.symm⟩)))
      go_wp2_with fail
      go_roundw
      case rel => exact ⟨k + 1, by omega, by go_num, Below.after HR.out (by (repeat (first | (with_reducible exact Below.refl _ _) | (with_reducible assumption) | ((with_reducible refine Below.alloc ?_ ?_ _); rotate_left; focus ((try simp only [World.size_alloc, size_setCell, World.heap_drewN]); (try omega); done)) | ((with_reducible refine Below.setCell ?_ ?_ _); rotate_left; focus ((try simp only [World.size_alloc, size_setCell, World.heap_drewN]); (try omega); done)) | (with_reducible refine Below.drewN' ?_) | (with_reducible refine Below.drew ?_))))⟩
      case measure => simp [intOf]; omega
    | some b =>
      simp only [Option.isNone_some, Option.getD_some, Bool.false_eq_true, if_false] at s0 s1 s2 HT
      cases b
      all_goals
        go_wp2_with (go_at_call 7; refine (HT.out _).mono ?_; rintro e w' ⟨rfl, rfl⟩)
        go_quiet ((first | (go_at_call 8; exact Calls.quiet_of_same ((heard_any 1 false (.inl rfl) _).mono fun _ _ ⟨h, q⟩ => ⟨h, q.symm⟩)) | (go_at_call 9; exact Calls.quiet_of_same ((told_any _ _).mono fun _ _ ⟨h, q⟩ => ⟨h, q.symm⟩))))
        go_wp2_with fail
        go_roundw
        case rel => exact ⟨k + 1, by omega, by go_num, Below.after HR.out (by (repeat (first | (with_reducible exact Below.refl _ _) | (with_reducible assumption) | ((with_reducible refine Below.alloc ?_ ?_ _); rotate_left; focus ((try simp only [World.size_alloc, size_setCell, World.heap_drewN]); (try omega); done)) | ((with_reducible refine Below.setCell ?_ ?_ _); rotate_left; focus ((try simp only [World.size_alloc, size_setCell, World.heap_drewN]); (try omega); done)) | (with_reducible refine Below.drewN' ?_) | (with_reducible refine Below.drew ?_))))⟩
        case measure => simp [intOf]; omega

theorem fnBoolsAll_law (d : Bool) (v : Value) (l : List ByteArray) (w : World) (hv : Strs w v l) (hl : l.length ≤ 9223372036854775807) (hE : ErrAt w) :
    Calls Tryd.prog 3 #[.bool d, v] w fun e w' => e = .returned (.bool true) ∧ Below w.heap.size w w' := by
  have F := Lib.hid (fits2_any v l w hv hl)
  have C := Lib.hid (fun (h : SmallL l) => truths_any d v l w hv h.1 h.2 hE)
  obtain ⟨a, cap, rfl⟩ := hv.len
  clear hv hE
  go_enter Tryd.func3, Tryd.ntmps3
  go_wp2_with fail
  refine F.out.mono ?_
  rintro e w' ⟨⟨b, rfl, hb⟩, rfl⟩
  cases b with
  | false =>
    go_wp2_with fail
    go_ret
    exact ⟨rfl, Below.refl _ _⟩
  | true =>
    have C2 := Lib.hid (C.out (hb rfl))
    clear hb
    go_wp2_with fail
    refine C2.out.mono ?_
    rintro e w2 ⟨rfl, hb2⟩
    have HB := Lib.hid hb2
    clear hb2
    go_wp2_with fail
    go_ret
    exact ⟨rfl, HB.out⟩
end Go.Proofs.YtgfflikkkkhdkaaDoor
