/- strconv.ParseUint where the base is told by the text: the value that it hands back, and whether there is an error. -/
import Derived.Test.YtfeijmoncadkiaaDoorPu1b
import Derived.Test.YtfeijmoncadkiaaDoorShelfW
import Derived.Test.YtfeijmoncadkiaaDoorPu2x0
import Derived.Shelf.Strconv.ToError
import Derived.Shelf.Strconv.ToErrorRange
namespace Go.Proofs.YtfeijmoncadkiaaDoor
open Go.RowKit
set_option linter.unusedVariables false
set_option linter.unusedSimpArgs false

/-- The value that is handed back, and whether it is no numeral that fits. -/
def valE (M : Nat) : End0 → Nat
  | .ok n _ => n
  | .syn => 0
  | .rng => M
def badE : End0 → Bool
  | .ok _ _ => false
  | .syn => true
  | .rng => true
theorem valE_le {M : Nat} (l : List UInt8) : valE M (pu0 M l) ≤ M := by
  cases h : pu0 M l with
  | ok n us => exact pu0_le h
  | syn => exact Nat.zero_le _
  | rng => exact Nat.le_refl _
/-- The variables of strconv's errors hold interface values. -/
def ErrsAt (w : World) : Prop := (∃ t p, w.cell? ⟨0, 0, none⟩ = some (.iface t p)) ∧ ∃ t p, w.cell? ⟨1, 0, none⟩ = some (.iface t p)
theorem var_later {g : Nat} {w w' : World} (h : ∃ t p, w.cell? ⟨g, 0, none⟩ = some (.iface t p)) (hk : ∀ b, b < w.heap.size → w'.heap[b]? = w.heap[b]?) : ∃ t p, w'.cell? ⟨g, 0, none⟩ = some (.iface t p) := by
  obtain ⟨t, p, hc⟩ := h
  refine ⟨t, p, ?_⟩
  have hlt : g < w.heap.size := by
    rcases Nat.lt_or_ge g w.heap.size with h' | h'
    · exact h'
    · simp [World.cell?, Array.getElem?_eq_none h'] at hc
  simpa only [World.cell?, hk _ hlt] using hc
theorem ErrsAt.later {w w' : World} (h : ErrsAt w) (hk : ∀ b, b < w.heap.size → w'.heap[b]? = w.heap[b]?) : ErrsAt w' := ⟨var_later h.1 hk, var_later h.2 hk⟩

/-- A value and an error. -/
def EndV (v : Value) (bad : Bool) (w : World) (e : Ending) (w' : World) : Prop := ∃ er, e = .returned (.tuple #[v, er]) ∧ (if bad then ∃ t p, er = .iface t p else er = .nilIface) ∧ Below w.heap.size w w'

set_option maxRecDepth 100000 in
theorem pu_empty (bits : Int) (s : ByteArray) (h : s.size = 0) (w : World) : Calls Tryd.prog 62 #[.string s, .int .i64 0, .int .i64 bits] w fun e w' => e = .returned (.tuple #[.int .u64 0, .iface 122 (.int .i64 2)]) ∧ w = w' := by
  obtain rfl : s = ⟨#[]⟩ := by
    apply ByteArray.ext
    exact Array.eq_empty_of_size_eq_zero h
  clear h
  go_enter Tryd.func62, Tryd.ntmps62
  go_wp2
  go_ret2
  exact ⟨rfl, rfl⟩

set_option maxRecDepth 100000 in
theorem puInner0 (s : ByteArray) (hs : s.size ≤ 2147483647) (w : World) :
    Calls Tryd.prog 62 #[.string s, .int .i64 0, .int .i64 0] w fun e w' => e = .returned (r0 18446744073709551615 (pu0 18446744073709551615 s.data.toList)) ∧ Below w.heap.size w w' := by
  by_cases h0 : 0 < s.size
  · exact pu0_any s hs h0 w
  · refine (pu_empty _ s (by omega) w).mono ?_
    rintro e w' ⟨rfl, rfl⟩
    have : s.data.toList = [] := by
      have : s.data.toList.length = 0 := by
        rw [Array.length_toList]
        show s.size = 0
        omega
      exact List.length_eq_zero_iff.1 this
    rw [this]
    exact ⟨by simp [pu0, r0], Below.refl _ _⟩

set_option maxRecDepth 100000 in
theorem pubU0_gen (M : Nat) (s : ByteArray) (hs : s.size ≤ 2147483647) (w : World) (hE : ErrsAt w) (C0 : Calls Tryd.prog 62 #[.string s, .int .i64 0, .int .i64 0] w fun e w' => e = .returned (r0 M (pu0 M s.data.toList)) ∧ Below w.heap.size w w') :
    Calls Tryd.prog 55 #[.string s, .int .i64 0, .int .i64 0] w (EndV (.int .u64 (valE M (pu0 M s.data.toList) : Nat)) (badE (pu0 M s.data.toList)) w) := by
  have C := Lib.hid C0
  have HE := Lib.hid (fun W (h : Below w.heap.size w W) => hE.later h.block)
  have hs2 : s.size ≤ 281474976710656 := Nat.le_trans hs (by decide)
  clear hE C0
  generalize pu0 M s.data.toList = r at *
  go_enter Tryd.func55, Tryd.ntmps55
  go_wp2_with fail
  refine C.out.mono ?_
  rintro e w2 ⟨rfl, hb2⟩
  have HB := Lib.hid hb2
  clear hb2 C
  cases r with
  | ok n us =>
    unfold r0
    go_wp2_with fail
    go_ret2
    exact ⟨_, rfl, rfl, HB.out⟩
  | syn =>
    obtain ⟨⟨t, p, hc⟩, -⟩ := HE.out _ HB.out
    have C2 := Lib.hid (fun fn => Any.strconv_toError_syntax lays245 fn s 0 0 (.iface t p) w2 hs2 hc (.inr ⟨t, p, rfl⟩))
    clear hc
    unfold r0
    go_wp2_with fail
    refine (C2.out _).mono ?_
    rintro e w3 ⟨N, rfl, -, -, hb3⟩
    have HB3 := Lib.hid (Below.after HB.out hb3)
    clear hb3
    go_wp2_with fail
    go_ret2
    exact ⟨_, rfl, ⟨_, _, rfl⟩, HB3.out⟩
  | rng =>
    obtain ⟨-, t, p, hc⟩ := HE.out _ HB.out
    have C2 := Lib.hid (fun fn => Any.strconv_toError_range lays245 fn s 0 0 (.iface t p) w2 hs2 hc (.inr ⟨t, p, rfl⟩))
    clear hc
    unfold r0
    go_wp2_with fail
    refine (C2.out _).mono ?_
    rintro e w3 ⟨N, rfl, -, -, hb3⟩
    have HB3 := Lib.hid (Below.after HB.out hb3)
    clear hb3
    go_wp2_with fail
    go_ret2
    exact ⟨_, rfl, ⟨_, _, rfl⟩, HB3.out⟩
theorem pubU0_any (s : ByteArray) (hs : s.size ≤ 2147483647) (w : World) (hE : ErrsAt w) :
    Calls Tryd.prog 55 #[.string s, .int .i64 0, .int .i64 0] w (EndV (.int .u64 (valE 18446744073709551615 (pu0 18446744073709551615 s.data.toList) : Nat)) (badE (pu0 18446744073709551615 s.data.toList)) w) := pubU0_gen _ s hs w hE (puInner0 s hs w)
end Go.Proofs.YtfeijmoncadkiaaDoor
