/- strconv.ParseInt where the base is told by the text; the digits of signed numbers. -/
import Derived.Test.YtfeijmoncadkiaaDoorPi0w
import Derived.Test.YtfeijmoncadkiaaDoorH
namespace Go.Proofs.YtfeijmoncadkiaaDoor
open Go.RowKit Go.Lib
set_option linter.unusedVariables false
set_option linter.unusedSimpArgs false

/-- So many bits, the least number's size, the greatest unsigned one. -/
def WideI (bits C M : Nat) : Prop := bits = 0 ∧ C = 9223372036854775808 ∧ M = 18446744073709551615
set_option maxRecDepth 100000 in
theorem piInner (bits C M : Nat) (hb : WideI bits C M) (s : ByteArray) (hs : s.size ≤ 2147483647) (w : World) :
    Calls Tryd.prog 58 #[.string s, .int .i64 0, .int .i64 (bits : Nat)] w fun e w' => e = .returned (ri (pi0 C M s.data.toList)) ∧ Below w.heap.size w w' := by
  obtain ⟨rfl, rfl, rfl⟩ := hb
  exact pi0_any s hs w
def iv (C M : Nat) (s : ByteArray) : Int := (pi0 C M s.data.toList).1
def ib (C M : Nat) (s : ByteArray) : Bool := decide ((pi0 C M s.data.toList).2 ≠ 0)
theorem iv_le (C M : Nat) (hC : 0 < C) (s : ByteArray) : -(C : Int) ≤ iv C M s ∧ iv C M s < C := pi0_le C M hC _

set_option maxRecDepth 100000 in
theorem pubI_any (bits C M : Nat) (hb : WideI bits C M) (s : ByteArray) (hs : s.size ≤ 2147483647) (w : World) (hE : ErrsAt w) :
    Calls Tryd.prog 51 #[.string s, .int .i64 0, .int .i64 (bits : Nat)] w (EndV (.int .i64 (iv C M s)) (ib C M s) w) := by
  have Cc := Lib.hid (piInner bits C M hb s hs w)
  have HE := Lib.hid (fun W (h : Below w.heap.size w W) => hE.later h.block)
  have hs2 : s.size ≤ 281474976710656 := Nat.le_trans hs (by decide)
  have hcode : (pi0 C M s.data.toList).2 ≤ 2 := by
    unfold pi0
    split
    · exact Nat.le_refl _
    · exact endI_code _ _ _
  unfold iv ib
  clear hE hb
  generalize pi0 C M s.data.toList = r at *
  obtain ⟨v, c⟩ := r
  simp only at hcode Cc ⊢
  obtain ⟨bi, hbi⟩ : ∃ bi : Int, bi = (bits : Nat) := ⟨_, rfl⟩
  rw [← hbi] at Cc ⊢
  clear hbi
  obtain rfl | rfl | rfl : c = 0 ∨ c = 1 ∨ c = 2 := by omega
  · have C0 : Hid (Calls Tryd.prog 58 #[.string s, .int .i64 0, .int .i64 bi] w fun e w' => e = .returned (.tuple #[.int .i64 v, .nilIface]) ∧ Below w.heap.size w w') := Cc
    clear Cc hcode
    go_enter Tryd.func51, Tryd.ntmps51
    go_wp2_with fail
    refine C0.out.mono ?_
    rintro e w2 ⟨rfl, hb2⟩
    have HB := Lib.hid hb2
    clear hb2
    go_wp2_with fail
    go_ret2
    exact ⟨_, rfl, rfl, HB.out⟩
  · have C0 : Hid (Calls Tryd.prog 58 #[.string s, .int .i64 0, .int .i64 bi] w fun e w' => e = .returned (.tuple #[.int .i64 v, .iface 122 (.int .i64 1)]) ∧ Below w.heap.size w w') := Cc
    clear Cc hcode
    go_enter Tryd.func51, Tryd.ntmps51
    go_wp2_with fail
    refine C0.out.mono ?_
    rintro e w2 ⟨rfl, hb2⟩
    have HB := Lib.hid hb2
    clear hb2
    obtain ⟨-, t, p, hc⟩ := HE.out _ HB.out
    have C2 := Lib.hid (fun fn => Any.strconv_toError_range lays245 fn s 0 bi (.iface t p) w2 hs2 hc (.inr ⟨t, p, rfl⟩))
    clear hc
    go_wp2_with fail
    refine (C2.out _).mono ?_
    rintro e w3 ⟨N, rfl, -, -, hb3⟩
    have HB3 := Lib.hid (Below.after HB.out hb3)
    clear hb3
    go_wp2_with fail
    go_ret2
    exact ⟨_, rfl, ⟨_, _, rfl⟩, HB3.out⟩
  · have C0 : Hid (Calls Tryd.prog 58 #[.string s, .int .i64 0, .int .i64 bi] w fun e w' => e = .returned (.tuple #[.int .i64 v, .iface 122 (.int .i64 2)]) ∧ Below w.heap.size w w') := Cc
    clear Cc hcode
    go_enter Tryd.func51, Tryd.ntmps51
    go_wp2_with fail
    refine C0.out.mono ?_
    rintro e w2 ⟨rfl, hb2⟩
    have HB := Lib.hid hb2
    clear hb2
    obtain ⟨⟨t, p, hc⟩, -⟩ := HE.out _ HB.out
    have C2 := Lib.hid (fun fn => Any.strconv_toError_syntax lays245 fn s 0 bi (.iface t p) w2 hs2 hc (.inr ⟨t, p, rfl⟩))
    clear hc
    go_wp2_with fail
    refine (C2.out _).mono ?_
    rintro e w3 ⟨N, rfl, -, -, hb3⟩
    have HB3 := Lib.hid (Below.after HB.out hb3)
    clear hb3
    go_wp2_with fail
    go_ret2
    exact ⟨_, rfl, ⟨_, _, rfl⟩, HB3.out⟩

end Go.Proofs.YtfeijmoncadkiaaDoor
