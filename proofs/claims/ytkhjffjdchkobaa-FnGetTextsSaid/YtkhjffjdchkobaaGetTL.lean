/- The law FnGetTexts. -/
import Derived.Test.YtkhjffjdchkobaaGetT
namespace Go.Proofs.Ytkhjffjdchkobaa
open Go.RowKit
set_option linter.unusedVariables false
set_option linter.unusedSimpArgs false

set_option maxRecDepth 100000 in
theorem fnGetTexts_law (df : ByteArray) (v : Value) (l : List ByteArray) (w : World) (hv : Strs w v l) (hl : l.length ≤ 9223372036854775807) :
    Calls Try.prog 3 #[.string df, v] w fun e w' => e = .returned (.bool true) ∧ Below w.heap.size w w' := by
  by_cases h0 : (2147483647 : Int) < (df.size : Int)
  · have d0 : decide ((2147483647 : Int) < (df.size : Int)) = true := decide_eq_true h0
    obtain ⟨va, vc, rfl⟩ := hv.len
    clear hv
    go_enter Try.func3, Try.ntmps3
    go_wp2_with fail
    go_ret
    exact ⟨rfl, Below.refl _ _⟩
  have d0 : decide ((2147483647 : Int) < (df.size : Int)) = false := decide_eq_false h0
  have F := Lib.hid (fits2_any v l w hv hl)
  have CG := Lib.hid (fun (h : SmallL l) => getText_any df v l w hv h.1)
  have HV := Lib.hid (fun W (h : Below w.heap.size w W) => hv.later h.block)
  obtain ⟨va, vc, rfl⟩ := hv.len
  clear hv h0
  go_enter Try.func3, Try.ntmps3
  go_wp2_with fail
  refine F.out.mono ?_
  rintro e w' ⟨⟨b, rfl, hb⟩, rfl⟩
  cases b with
  | false =>
    go_wp2_with fail
    go_ret
    exact ⟨rfl, Below.refl _ _⟩
  | true =>
    have hsm := hb rfl
    have C := Lib.hid (CG.out hsm)
    have hll := hsm.1
    clear hb hsm CG F
    go_wp2_with fail
    refine C.out.mono ?_
    rintro e w2 ⟨rv, xs, rfl, hrow, hrows, hb2⟩
    obtain ⟨ra, rc, rfl⟩ := row_form hrow
    have HROW := Lib.hid hrow
    have HROWS := Lib.hid hrows
    have HB2 := Lib.hid hb2
    clear hrow hrows hb2 C
    go_wp2_with fail
    go_loopw [6, 25] (fun _ i wr => ∃ k : Nat, k ≤ l.length ∧ i = .int .i64 k ∧ Drawn w2 wr) (fun _ i _ => l.length - (intOf i).toNat)
    case atStart => exact ⟨0, Nat.zero_le _, rfl, Drawn.refl _⟩
    case round =>
      obtain ⟨k, hk, rfl, m, rfl⟩ := hrel
      by_cases hlt : k < l.length
      case neg =>
        go_wp2_with fail
        go_ret
        exact ⟨rfl, Below.drewN' HB2.out⟩
      obtain ⟨g1, cs1, rfl, hcs, hc1⟩ := rows_at HROWS.out HROW.out k hlt rfl (by omega)
      have hcs' : cs1 = [.bool false, .string l[k], .string ⟨#[]⟩] := hcs
      subst hcs'
      obtain ⟨tb, tof, rfl, hcl⟩ := (HV.out w2 HB2.out).cell (by omega)
      have hck := hcl k hlt
      have r0 := hc1 0 _ (by omega) rfl
      have r1 := hc1 1 _ (by omega) rfl
      simp only [Nat.add_zero] at r0
      clear hc1 hcl hcs
      generalize l[k] = t at *
      have q : (t.toList != t.toList) = false := by simp
      go_wp2_with fail
      go_quiet (fail)
      go_wp2_with fail
      go_roundw
      case rel => exact ⟨k + 1, by omega, by go_num, _, rfl⟩
      case measure => simp [intOf]; omega
end Go.Proofs.Ytkhjffjdchkobaa
