/- strconv.ParseUint at 0 bits where the base is told by the text; the numeral of a number, read back. (Printed by gen_oneu.py.) -/
import Derived.Test.YtioldikeiiibgaaGreatDoorPubU
import Derived.Test.YtioldikeiiibgaaGreatDoorPuDec
import Derived.Test.YtioldikeiiibgaaGreatDoorFmtU
import Derived.Test.YtioldikeiiibgaaGreatDoorPu2x0
namespace Go.Proofs.YtioldikeiiibgaaGreatDoor
open Go.RowKit
set_option linter.unusedVariables false
set_option linter.unusedSimpArgs false

set_option maxRecDepth 100000 in
theorem puInner0 (s : ByteArray) (hs : s.size ≤ 2147483647) (w : World) :
    Calls Tryz.prog 67 #[.string s, .int .i64 0, .int .i64 0] w fun e w' => e = .returned (r0 18446744073709551615 (pu0 18446744073709551615 s.data.toList)) ∧ Below w.heap.size w w' := by
  by_cases h0 : 0 < s.size
  · exact pu0_any s hs h0 w
  · refine (pu_empty _ s (by omega) w).mono ?_
    rintro e w' ⟨rfl, rfl⟩
    have : s.data.toList = [] := by
      have : s.data.toList.length = 0 := by
        rw [Array.length_toList]
        show s.size = 0
        omega
      exact List.length_eq_zero_iff.1 this
    rw [this]
    exact ⟨by simp [pu0, r0], Below.refl _ _⟩

set_option maxRecDepth 100000 in
theorem pubU0_gen (M : Nat) (s : ByteArray) (hs : s.size ≤ 2147483647) (w : World) (hE : ErrsAt w) (C0 : Calls Tryz.prog 67 #[.string s, .int .i64 0, .int .i64 0] w fun e w' => e = .returned (r0 M (pu0 M s.data.toList)) ∧ Below w.heap.size w w') :
    Calls Tryz.prog 52 #[.string s, .int .i64 0, .int .i64 0] w (EndV (.int .u64 (valE M (pu0 M s.data.toList) : Nat)) (badE (pu0 M s.data.toList)) w) := by
  have C := Lib.hid C0
  have HE := Lib.hid (fun W (h : Below w.heap.size w W) => hE.later h.block)
  have hs2 : s.size ≤ 281474976710656 := Nat.le_trans hs (by decide)
  clear hE C0
  generalize pu0 M s.data.toList = r at *
  go_enter Tryz.func52, Tryz.ntmps52
  go_wp2_with fail
  refine C.out.mono ?_
  rintro e w2 ⟨rfl, hb2⟩
  have HB := Lib.hid hb2
  clear hb2 C
  cases r with
  | ok n us =>
    unfold r0
    go_wp2_with fail
    go_ret2
    exact ⟨_, rfl, rfl, HB.out⟩
  | syn =>
    obtain ⟨⟨t, p, hc⟩, -⟩ := HE.out _ HB.out
    have C2 := Lib.hid (fun fn => Any.strconv_toError_syntax lays245 fn s 0 0 (.iface t p) w2 hs2 hc (.inr ⟨t, p, rfl⟩))
    clear hc
    unfold r0
    go_wp2_with fail
    refine (C2.out _).mono ?_
    rintro e w3 ⟨N, rfl, -, -, hb3⟩
    have HB3 := Lib.hid (Below.after HB.out hb3)
    clear hb3
    go_wp2_with fail
    go_ret2
    exact ⟨_, rfl, ⟨_, _, rfl⟩, HB3.out⟩
  | rng =>
    obtain ⟨-, t, p, hc⟩ := HE.out _ HB.out
    have C2 := Lib.hid (fun fn => Any.strconv_toError_range lays245 fn s 0 0 (.iface t p) w2 hs2 hc (.inr ⟨t, p, rfl⟩))
    clear hc
    unfold r0
    go_wp2_with fail
    refine (C2.out _).mono ?_
    rintro e w3 ⟨N, rfl, -, -, hb3⟩
    have HB3 := Lib.hid (Below.after HB.out hb3)
    clear hb3
    go_wp2_with fail
    go_ret2
    exact ⟨_, rfl, ⟨_, _, rfl⟩, HB3.out⟩
theorem pubU0_any (s : ByteArray) (hs : s.size ≤ 2147483647) (w : World) (hE : ErrsAt w) :
    Calls Tryz.prog 52 #[.string s, .int .i64 0, .int .i64 0] w (EndV (.int .u64 (valE 18446744073709551615 (pu0 18446744073709551615 s.data.toList) : Nat)) (badE (pu0 18446744073709551615 s.data.toList)) w) := pubU0_gen _ s hs w hE (puInner0 s hs w)
theorem numS_len {u : Nat} (h : u < 18446744073709551616) : (numS u).size ≤ 20 := by
  have e : (numS u).size = (Lib.decDigits u).length := by simp [numS, ByteArray.size]
  rw [e, Lib.decDigits_length]
  by_cases h0 : u = 0
  · subst h0; rw [← Lib.decDigits_length, Lib.decDigits_one (by omega)]; decide
  · have := Lib.numDigits_eq u (by omega) h
    split at this <;> omega
theorem numS_list (u : Nat) : (numS u).data.toList = Lib.decDigits u := by simp [numS]
theorem readBack {M u : Nat} (h : u ≤ M) : valE M (pu0 M (numS u).data.toList) = u ∧ badE (pu0 M (numS u).data.toList) = false := by
  rw [numS_list, pu0_dec u h]
  exact ⟨rfl, rfl⟩
/-- What the walks ask of a world: the errors, the table. -/
def EnvV (w : World) : Prop := ErrsAt w ∧ Tab w
theorem EnvV.later {w w' : World} (h : EnvV w) (hb : Below w.heap.size w w') : EnvV w' := ⟨h.1.later hb.block, h.2.later hb⟩
end Go.Proofs.YtioldikeiiibgaaGreatDoor
