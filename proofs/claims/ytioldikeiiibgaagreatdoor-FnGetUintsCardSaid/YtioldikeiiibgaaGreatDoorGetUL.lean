/- The law FnGetUints. (Printed by gen_getu.py.) -/
import Derived.Test.YtioldikeiiibgaaGreatDoorGU0
import Derived.Test.YtioldikeiiibgaaGreatDoorGU8
import Derived.Test.YtioldikeiiibgaaGreatDoorGU16
import Derived.Test.YtioldikeiiibgaaGreatDoorGU32
import Derived.Test.YtioldikeiiibgaaGreatDoorGU64
import Derived.Test.YtioldikeiiibgaaGreatDoorUImp0
import Derived.Test.YtioldikeiiibgaaGreatDoorUImp8
import Derived.Test.YtioldikeiiibgaaGreatDoorUImp16
import Derived.Test.YtioldikeiiibgaaGreatDoorUImp32
import Derived.Test.YtioldikeiiibgaaGreatDoorUImp64
import Derived.Test.YtioldikeiiibgaaGreatDoorOpenT
namespace Go.Proofs.YtioldikeiiibgaaGreatDoor
open Go.RowKit
set_option linter.unusedVariables false
set_option linter.unusedSimpArgs false

set_option maxRecDepth 100000 in
set_option maxHeartbeats 1600000 in
theorem gets_uint (d : Int) (h0 : 0 ≤ d) (h1 : d ≤ 18446744073709551615) (v : Value) (l : List ByteArray) (w : World) (hv : Strs w v l) (hl : l.length ≤ 9223372036854775807) (hE : ErrsAt w) (hT : Tab w) :
    Calls Tryz.prog 3 #[.int .i64 0, .int .u64 d, v] w fun e w' => e = .returned (.bool true) ∧ Below w.heap.size w w' := by
  have F := Lib.hid (fits2_any v l w hv hl)
  have CG := Lib.hid (fun (h : SmallL l) => U0.getUint_any d h0 h1 v l w hv h.1 h.2 ⟨hE, hT⟩)
  have CB := Lib.hid (fun (h : SmallL l) W (hb : Below w.heap.size w W) => uval_uint d h0 h1 v l W (hv.later hb.block) h.1 h.2 (hE.later hb.block) (hT.later hb))
  obtain ⟨va, vc, rfl⟩ := hv.len
  clear hv hE hT
  go_enter Tryz.func3, Tryz.ntmps3
  go_wp2_with fail
  refine F.out.mono ?_
  rintro e w' ⟨⟨b, rfl, hb⟩, rfl⟩
  cases b with
  | false =>
    go_wp2_with fail
    go_ret
    exact ⟨rfl, Below.refl _ _⟩
  | true =>
    have hsm := hb rfl
    have C := Lib.hid (CG.out hsm)
    have C2 := Lib.hid (CB.out hsm)
    have hll := hsm.1
    clear hb hsm CG CB F
    go_wp2_with fail
    refine C.out.mono ?_
    rintro e w2 ⟨rv, xs, rfl, hrow, hrows, hb2⟩
    obtain ⟨ra, rc, rfl⟩ := row_form hrow
    have HROW := Lib.hid hrow
    have HROWS := Lib.hid hrows
    have HB2 := Lib.hid hb2
    have C3 := Lib.hid (C2.out w2 hb2)
    clear hrow hrows hb2 C C2
    go_wp2_with fail
    refine C3.out.mono ?_
    rintro e w3 ⟨rv3, rfl, hrow3, hb3⟩
    obtain ⟨qa, qc, rfl⟩ := row_form hrow3
    have HR3 := Lib.hid hrow3
    have HROW3 := Lib.hid (row_grow HROW.out hb3)
    have HB3 := Lib.hid (Below.after HB2.out hb3)
    clear hrow3 hb3 C3 HROW HB2
    go_wp2_with fail
    go_loopw [9, 68] (fun _ i wr => ∃ k : Nat, k ≤ l.length ∧ i = .int .i64 k ∧ Drawn w3 wr) (fun _ i _ => l.length - (intOf i).toNat)
    case atStart => exact ⟨0, Nat.zero_le _, rfl, Drawn.refl _⟩
    case round =>
      obtain ⟨k, hk, rfl, m, rfl⟩ := hrel
      by_cases hlt : k < l.length
      case neg =>
        go_wp2_with fail
        go_ret
        exact ⟨rfl, Below.drewN' HB3.out⟩
      obtain ⟨g1, cs1, rfl, hcs, hc1⟩ := rows_at (w := w3) (HROWS.out.later fun _ _ h => h) HROW3.out k hlt rfl (by omega)
      have hcs' : cs1 = [.bool (ub 18446744073709551615 l[k]), .int .u64 (uv 18446744073709551615 l[k] : Nat), .string ⟨#[]⟩] := hcs
      subst hcs'
      have r0 := hc1 0 _ (by omega) rfl
      have r1 := hc1 1 _ (by omega) rfl
      have hq : ∃ g2, qa = some ⟨g2, 0, none⟩ ∧ w3.cell? ⟨g2, k * 3, none⟩ = some (.bool (ub 18446744073709551615 l[k])) ∧ w3.cell? ⟨g2, k * 3 + 1, none⟩ = some (.int .u64 (uv 18446744073709551615 l[k] : Nat)) := by
        obtain ⟨q0, q1⟩ := flatU_get 18446744073709551615 l k hlt
        rcases HR3.out.2 with ⟨e, h0⟩ | ⟨g, cap, cur, e, hb, hh, hnc, hcm, hcs, ht⟩
        · omega
        · cases e
          rw [← ht, List.getElem?_take, if_pos (by omega), Array.getElem?_toList] at q0 q1
          exact ⟨g, rfl, by simpa [World.cell?, hh] using q0, by simpa [World.cell?, hh] using q1⟩
      obtain ⟨g2, rfl, q0, q1⟩ := hq
      simp only [Nat.add_zero] at r0
      clear hc1 hcs
      generalize ub 18446744073709551615 l[k] = bad at *
      obtain ⟨x, hx⟩ : ∃ x : Int, x = (uv 18446744073709551615 l[k] : Nat) := ⟨_, rfl⟩
      rw [← hx] at r1 q1
      clear hx
      have qx : (x != x) = false := by simp
      cases bad
      all_goals
        go_wp2_with fail
        go_quiet (fail)
        go_wp2_with fail
        go_roundw
        case rel => first | exact ⟨k + 1, by omega, by go_num, _, rfl⟩ | ((repeat apply Exists.intro); exact ⟨⟨k + 1, by omega, by go_num, _, rfl⟩, rfl⟩)
        case measure => simp [intOf]; omega

set_option maxRecDepth 100000 in
set_option maxHeartbeats 1600000 in
theorem gets_uint8 (d : Int) (h0 : 0 ≤ d) (h1 : d ≤ 255) (v : Value) (l : List ByteArray) (w : World) (hv : Strs w v l) (hl : l.length ≤ 9223372036854775807) (hE : ErrsAt w) (hT : Tab w) :
    Calls Tryz.prog 3 #[.int .i64 8, .int .u64 d, v] w fun e w' => e = .returned (.bool true) ∧ Below w.heap.size w w' := by
  have F := Lib.hid (fits2_any v l w hv hl)
  have CG := Lib.hid (fun (h : SmallL l) => U8.getUint_any d h0 h1 v l w hv h.1 h.2 ⟨hE, hT⟩)
  have CB := Lib.hid (fun (h : SmallL l) W (hb : Below w.heap.size w W) => uval_uint8 d h0 h1 v l W (hv.later hb.block) h.1 h.2 (hE.later hb.block) (hT.later hb))
  have hx0 : d / 256 ≤ 0 := by omega
  obtain ⟨va, vc, rfl⟩ := hv.len
  clear hv hE hT
  go_enter Tryz.func3, Tryz.ntmps3
  go_wp2_with fail
  refine F.out.mono ?_
  rintro e w' ⟨⟨b, rfl, hb⟩, rfl⟩
  cases b with
  | false =>
    go_wp2_with fail
    go_ret
    exact ⟨rfl, Below.refl _ _⟩
  | true =>
    have hsm := hb rfl
    have C := Lib.hid (CG.out hsm)
    have C2 := Lib.hid (CB.out hsm)
    have hll := hsm.1
    clear hb hsm CG CB F
    go_wp2_with fail
    refine C.out.mono ?_
    rintro e w2 ⟨rv, xs, rfl, hrow, hrows, hb2⟩
    obtain ⟨ra, rc, rfl⟩ := row_form hrow
    have HROW := Lib.hid hrow
    have HROWS := Lib.hid hrows
    have HB2 := Lib.hid hb2
    have C3 := Lib.hid (C2.out w2 hb2)
    clear hrow hrows hb2 C C2
    go_wp2_with fail
    refine C3.out.mono ?_
    rintro e w3 ⟨rv3, rfl, hrow3, hb3⟩
    obtain ⟨qa, qc, rfl⟩ := row_form hrow3
    have HR3 := Lib.hid hrow3
    have HROW3 := Lib.hid (row_grow HROW.out hb3)
    have HB3 := Lib.hid (Below.after HB2.out hb3)
    clear hrow3 hb3 C3 HROW HB2
    go_wp2_with fail
    go_loopw [9, 68] (fun _ i wr => ∃ k : Nat, k ≤ l.length ∧ i = .int .i64 k ∧ Drawn w3 wr) (fun _ i _ => l.length - (intOf i).toNat)
    case atStart => exact ⟨0, Nat.zero_le _, rfl, Drawn.refl _⟩
    case round =>
      obtain ⟨k, hk, rfl, m, rfl⟩ := hrel
      by_cases hlt : k < l.length
      case neg =>
        go_wp2_with fail
        go_ret
        exact ⟨rfl, Below.drewN' HB3.out⟩
      obtain ⟨g1, cs1, rfl, hcs, hc1⟩ := rows_at (w := w3) (HROWS.out.later fun _ _ h => h) HROW3.out k hlt rfl (by omega)
      have hcs' : cs1 = [.bool (ub 255 l[k]), .int .u64 (uv 255 l[k] : Nat), .string ⟨#[]⟩] := hcs
      subst hcs'
      have r0 := hc1 0 _ (by omega) rfl
      have r1 := hc1 1 _ (by omega) rfl
      have hq : ∃ g2, qa = some ⟨g2, 0, none⟩ ∧ w3.cell? ⟨g2, k * 3, none⟩ = some (.bool (ub 255 l[k])) ∧ w3.cell? ⟨g2, k * 3 + 1, none⟩ = some (.int .u64 (uv 255 l[k] : Nat)) := by
        obtain ⟨q0, q1⟩ := flatU_get 255 l k hlt
        rcases HR3.out.2 with ⟨e, h0⟩ | ⟨g, cap, cur, e, hb, hh, hnc, hcm, hcs, ht⟩
        · omega
        · cases e
          rw [← ht, List.getElem?_take, if_pos (by omega), Array.getElem?_toList] at q0 q1
          exact ⟨g, rfl, by simpa [World.cell?, hh] using q0, by simpa [World.cell?, hh] using q1⟩
      obtain ⟨g2, rfl, q0, q1⟩ := hq
      simp only [Nat.add_zero] at r0
      clear hc1 hcs
      generalize ub 255 l[k] = bad at *
      obtain ⟨x, hx⟩ : ∃ x : Int, x = (uv 255 l[k] : Nat) := ⟨_, rfl⟩
      rw [← hx] at r1 q1
      clear hx
      have qx : (x != x) = false := by simp
      cases bad
      all_goals
        go_wp2_with fail
        go_quiet (fail)
        go_wp2_with fail
        go_roundw
        case rel => first | exact ⟨k + 1, by omega, by go_num, _, rfl⟩ | ((repeat apply Exists.intro); exact ⟨⟨k + 1, by omega, by go_num, _, rfl⟩, rfl⟩)
        case measure => simp [intOf]; omega

set_option maxRecDepth 100000 in
set_option maxHeartbeats 1600000 in
theorem gets_uint16 (d : Int) (h0 : 0 ≤ d) (h1 : d ≤ 65535) (v : Value) (l : List ByteArray) (w : World) (hv : Strs w v l) (hl : l.length ≤ 9223372036854775807) (hE : ErrsAt w) (hT : Tab w) :
    Calls Tryz.prog 3 #[.int .i64 16, .int .u64 d, v] w fun e w' => e = .returned (.bool true) ∧ Below w.heap.size w w' := by
  have F := Lib.hid (fits2_any v l w hv hl)
  have CG := Lib.hid (fun (h : SmallL l) => U16.getUint_any d h0 h1 v l w hv h.1 h.2 ⟨hE, hT⟩)
  have CB := Lib.hid (fun (h : SmallL l) W (hb : Below w.heap.size w W) => uval_uint16 d h0 h1 v l W (hv.later hb.block) h.1 h.2 (hE.later hb.block) (hT.later hb))
  have hx0 : d / 65536 ≤ 0 := by omega
  obtain ⟨va, vc, rfl⟩ := hv.len
  clear hv hE hT
  go_enter Tryz.func3, Tryz.ntmps3
  go_wp2_with fail
  refine F.out.mono ?_
  rintro e w' ⟨⟨b, rfl, hb⟩, rfl⟩
  cases b with
  | false =>
    go_wp2_with fail
    go_ret
    exact ⟨rfl, Below.refl _ _⟩
  | true =>
    have hsm := hb rfl
    have C := Lib.hid (CG.out hsm)
    have C2 := Lib.hid (CB.out hsm)
    have hll := hsm.1
    clear hb hsm CG CB F
    go_wp2_with fail
    refine C.out.mono ?_
    rintro e w2 ⟨rv, xs, rfl, hrow, hrows, hb2⟩
    obtain ⟨ra, rc, rfl⟩ := row_form hrow
    have HROW := Lib.hid hrow
    have HROWS := Lib.hid hrows
    have HB2 := Lib.hid hb2
    have C3 := Lib.hid (C2.out w2 hb2)
    clear hrow hrows hb2 C C2
    go_wp2_with fail
    refine C3.out.mono ?_
    rintro e w3 ⟨rv3, rfl, hrow3, hb3⟩
    obtain ⟨qa, qc, rfl⟩ := row_form hrow3
    have HR3 := Lib.hid hrow3
    have HROW3 := Lib.hid (row_grow HROW.out hb3)
    have HB3 := Lib.hid (Below.after HB2.out hb3)
    clear hrow3 hb3 C3 HROW HB2
    go_wp2_with fail
    go_loopw [9, 68] (fun _ i wr => ∃ k : Nat, k ≤ l.length ∧ i = .int .i64 k ∧ Drawn w3 wr) (fun _ i _ => l.length - (intOf i).toNat)
    case atStart => exact ⟨0, Nat.zero_le _, rfl, Drawn.refl _⟩
    case round =>
      obtain ⟨k, hk, rfl, m, rfl⟩ := hrel
      by_cases hlt : k < l.length
      case neg =>
        go_wp2_with fail
        go_ret
        exact ⟨rfl, Below.drewN' HB3.out⟩
      obtain ⟨g1, cs1, rfl, hcs, hc1⟩ := rows_at (w := w3) (HROWS.out.later fun _ _ h => h) HROW3.out k hlt rfl (by omega)
      have hcs' : cs1 = [.bool (ub 65535 l[k]), .int .u64 (uv 65535 l[k] : Nat), .string ⟨#[]⟩] := hcs
      subst hcs'
      have r0 := hc1 0 _ (by omega) rfl
      have r1 := hc1 1 _ (by omega) rfl
      have hq : ∃ g2, qa = some ⟨g2, 0, none⟩ ∧ w3.cell? ⟨g2, k * 3, none⟩ = some (.bool (ub 65535 l[k])) ∧ w3.cell? ⟨g2, k * 3 + 1, none⟩ = some (.int .u64 (uv 65535 l[k] : Nat)) := by
        obtain ⟨q0, q1⟩ := flatU_get 65535 l k hlt
        rcases HR3.out.2 with ⟨e, h0⟩ | ⟨g, cap, cur, e, hb, hh, hnc, hcm, hcs, ht⟩
        · omega
        · cases e
          rw [← ht, List.getElem?_take, if_pos (by omega), Array.getElem?_toList] at q0 q1
          exact ⟨g, rfl, by simpa [World.cell?, hh] using q0, by simpa [World.cell?, hh] using q1⟩
      obtain ⟨g2, rfl, q0, q1⟩ := hq
      simp only [Nat.add_zero] at r0
      clear hc1 hcs
      generalize ub 65535 l[k] = bad at *
      obtain ⟨x, hx⟩ : ∃ x : Int, x = (uv 65535 l[k] : Nat) := ⟨_, rfl⟩
      rw [← hx] at r1 q1
      clear hx
      have qx : (x != x) = false := by simp
      cases bad
      all_goals
        go_wp2_with fail
        go_quiet (fail)
        go_wp2_with fail
        go_roundw
        case rel => first | exact ⟨k + 1, by omega, by go_num, _, rfl⟩ | ((repeat apply Exists.intro); exact ⟨⟨k + 1, by omega, by go_num, _, rfl⟩, rfl⟩)
        case measure => simp [intOf]; omega

set_option maxRecDepth 100000 in
set_option maxHeartbeats 1600000 in
theorem gets_uint32 (d : Int) (h0 : 0 ≤ d) (h1 : d ≤ 4294967295) (v : Value) (l : List ByteArray) (w : World) (hv : Strs w v l) (hl : l.length ≤ 9223372036854775807) (hE : ErrsAt w) (hT : Tab w) :
    Calls Tryz.prog 3 #[.int .i64 32, .int .u64 d, v] w fun e w' => e = .returned (.bool true) ∧ Below w.heap.size w w' := by
  have F := Lib.hid (fits2_any v l w hv hl)
  have CG := Lib.hid (fun (h : SmallL l) => U32.getUint_any d h0 h1 v l w hv h.1 h.2 ⟨hE, hT⟩)
  have CB := Lib.hid (fun (h : SmallL l) W (hb : Below w.heap.size w W) => uval_uint32 d h0 h1 v l W (hv.later hb.block) h.1 h.2 (hE.later hb.block) (hT.later hb))
  have hx0 : d / 4294967296 ≤ 0 := by omega
  obtain ⟨va, vc, rfl⟩ := hv.len
  clear hv hE hT
  go_enter Tryz.func3, Tryz.ntmps3
  go_wp2_with fail
  refine F.out.mono ?_
  rintro e w' ⟨⟨b, rfl, hb⟩, rfl⟩
  cases b with
  | false =>
    go_wp2_with fail
    go_ret
    exact ⟨rfl, Below.refl _ _⟩
  | true =>
    have hsm := hb rfl
    have C := Lib.hid (CG.out hsm)
    have C2 := Lib.hid (CB.out hsm)
    have hll := hsm.1
    clear hb hsm CG CB F
    go_wp2_with fail
    refine C.out.mono ?_
    rintro e w2 ⟨rv, xs, rfl, hrow, hrows, hb2⟩
    obtain ⟨ra, rc, rfl⟩ := row_form hrow
    have HROW := Lib.hid hrow
    have HROWS := Lib.hid hrows
    have HB2 := Lib.hid hb2
    have C3 := Lib.hid (C2.out w2 hb2)
    clear hrow hrows hb2 C C2
    go_wp2_with fail
    refine C3.out.mono ?_
    rintro e w3 ⟨rv3, rfl, hrow3, hb3⟩
    obtain ⟨qa, qc, rfl⟩ := row_form hrow3
    have HR3 := Lib.hid hrow3
    have HROW3 := Lib.hid (row_grow HROW.out hb3)
    have HB3 := Lib.hid (Below.after HB2.out hb3)
    clear hrow3 hb3 C3 HROW HB2
    go_wp2_with fail
    go_loopw [9, 68] (fun _ i wr => ∃ k : Nat, k ≤ l.length ∧ i = .int .i64 k ∧ Drawn w3 wr) (fun _ i _ => l.length - (intOf i).toNat)
    case atStart => exact ⟨0, Nat.zero_le _, rfl, Drawn.refl _⟩
    case round =>
      obtain ⟨k, hk, rfl, m, rfl⟩ := hrel
      by_cases hlt : k < l.length
      case neg =>
        go_wp2_with fail
        go_ret
        exact ⟨rfl, Below.drewN' HB3.out⟩
      obtain ⟨g1, cs1, rfl, hcs, hc1⟩ := rows_at (w := w3) (HROWS.out.later fun _ _ h => h) HROW3.out k hlt rfl (by omega)
      have hcs' : cs1 = [.bool (ub 4294967295 l[k]), .int .u64 (uv 4294967295 l[k] : Nat), .string ⟨#[]⟩] := hcs
      subst hcs'
      have r0 := hc1 0 _ (by omega) rfl
      have r1 := hc1 1 _ (by omega) rfl
      have hq : ∃ g2, qa = some ⟨g2, 0, none⟩ ∧ w3.cell? ⟨g2, k * 3, none⟩ = some (.bool (ub 4294967295 l[k])) ∧ w3.cell? ⟨g2, k * 3 + 1, none⟩ = some (.int .u64 (uv 4294967295 l[k] : Nat)) := by
        obtain ⟨q0, q1⟩ := flatU_get 4294967295 l k hlt
        rcases HR3.out.2 with ⟨e, h0⟩ | ⟨g, cap, cur, e, hb, hh, hnc, hcm, hcs, ht⟩
        · omega
        · cases e
          rw [← ht, List.getElem?_take, if_pos (by omega), Array.getElem?_toList] at q0 q1
          exact ⟨g, rfl, by simpa [World.cell?, hh] using q0, by simpa [World.cell?, hh] using q1⟩
      obtain ⟨g2, rfl, q0, q1⟩ := hq
      simp only [Nat.add_zero] at r0
      clear hc1 hcs
      generalize ub 4294967295 l[k] = bad at *
      obtain ⟨x, hx⟩ : ∃ x : Int, x = (uv 4294967295 l[k] : Nat) := ⟨_, rfl⟩
      rw [← hx] at r1 q1
      clear hx
      have qx : (x != x) = false := by simp
      cases bad
      all_goals
        go_wp2_with fail
        go_quiet (fail)
        go_wp2_with fail
        go_roundw
        case rel => first | exact ⟨k + 1, by omega, by go_num, _, rfl⟩ | ((repeat apply Exists.intro); exact ⟨⟨k + 1, by omega, by go_num, _, rfl⟩, rfl⟩)
        case measure => simp [intOf]; omega

set_option maxRecDepth 100000 in
set_option maxHeartbeats 1600000 in
theorem gets_uint64 (d : Int) (h0 : 0 ≤ d) (h1 : d ≤ 18446744073709551615) (v : Value) (l : List ByteArray) (w : World) (hv : Strs w v l) (hl : l.length ≤ 9223372036854775807) (hE : ErrsAt w) (hT : Tab w) :
    Calls Tryz.prog 3 #[.int .i64 64, .int .u64 d, v] w fun e w' => e = .returned (.bool true) ∧ Below w.heap.size w w' := by
  have F := Lib.hid (fits2_any v l w hv hl)
  have CG := Lib.hid (fun (h : SmallL l) => U64.getUint_any d h0 h1 v l w hv h.1 h.2 ⟨hE, hT⟩)
  have CB := Lib.hid (fun (h : SmallL l) W (hb : Below w.heap.size w W) => uval_uint64 d h0 h1 v l W (hv.later hb.block) h.1 h.2 (hE.later hb.block) (hT.later hb))
  obtain ⟨va, vc, rfl⟩ := hv.len
  clear hv hE hT
  go_enter Tryz.func3, Tryz.ntmps3
  go_wp2_with fail
  refine F.out.mono ?_
  rintro e w' ⟨⟨b, rfl, hb⟩, rfl⟩
  cases b with
  | false =>
    go_wp2_with fail
    go_ret
    exact ⟨rfl, Below.refl _ _⟩
  | true =>
    have hsm := hb rfl
    have C := Lib.hid (CG.out hsm)
    have C2 := Lib.hid (CB.out hsm)
    have hll := hsm.1
    clear hb hsm CG CB F
    go_wp2_with fail
    refine C.out.mono ?_
    rintro e w2 ⟨rv, xs, rfl, hrow, hrows, hb2⟩
    obtain ⟨ra, rc, rfl⟩ := row_form hrow
    have HROW := Lib.hid hrow
    have HROWS := Lib.hid hrows
    have HB2 := Lib.hid hb2
    have C3 := Lib.hid (C2.out w2 hb2)
    clear hrow hrows hb2 C C2
    go_wp2_with fail
    refine C3.out.mono ?_
    rintro e w3 ⟨rv3, rfl, hrow3, hb3⟩
    obtain ⟨qa, qc, rfl⟩ := row_form hrow3
    have HR3 := Lib.hid hrow3
    have HROW3 := Lib.hid (row_grow HROW.out hb3)
    have HB3 := Lib.hid (Below.after HB2.out hb3)
    clear hrow3 hb3 C3 HROW HB2
    go_wp2_with fail
    go_loopw [9, 68] (fun _ i wr => ∃ k : Nat, k ≤ l.length ∧ i = .int .i64 k ∧ Drawn w3 wr) (fun _ i _ => l.length - (intOf i).toNat)
    case atStart => exact ⟨0, Nat.zero_le _, rfl, Drawn.refl _⟩
    case round =>
      obtain ⟨k, hk, rfl, m, rfl⟩ := hrel
      by_cases hlt : k < l.length
      case neg =>
        go_wp2_with fail
        go_ret
        exact ⟨rfl, Below.drewN' HB3.out⟩
      obtain ⟨g1, cs1, rfl, hcs, hc1⟩ := rows_at (w := w3) (HROWS.out.later fun _ _ h => h) HROW3.out k hlt rfl (by omega)
      have hcs' : cs1 = [.bool (ub 18446744073709551615 l[k]), .int .u64 (uv 18446744073709551615 l[k] : Nat), .string ⟨#[]⟩] := hcs
      subst hcs'
      have r0 := hc1 0 _ (by omega) rfl
      have r1 := hc1 1 _ (by omega) rfl
      have hq : ∃ g2, qa = some ⟨g2, 0, none⟩ ∧ w3.cell? ⟨g2, k * 3, none⟩ = some (.bool (ub 18446744073709551615 l[k])) ∧ w3.cell? ⟨g2, k * 3 + 1, none⟩ = some (.int .u64 (uv 18446744073709551615 l[k] : Nat)) := by
        obtain ⟨q0, q1⟩ := flatU_get 18446744073709551615 l k hlt
        rcases HR3.out.2 with ⟨e, h0⟩ | ⟨g, cap, cur, e, hb, hh, hnc, hcm, hcs, ht⟩
        · omega
        · cases e
          rw [← ht, List.getElem?_take, if_pos (by omega), Array.getElem?_toList] at q0 q1
          exact ⟨g, rfl, by simpa [World.cell?, hh] using q0, by simpa [World.cell?, hh] using q1⟩
      obtain ⟨g2, rfl, q0, q1⟩ := hq
      simp only [Nat.add_zero] at r0
      clear hc1 hcs
      generalize ub 18446744073709551615 l[k] = bad at *
      obtain ⟨x, hx⟩ : ∃ x : Int, x = (uv 18446744073709551615 l[k] : Nat) := ⟨_, rfl⟩
      rw [← hx] at r1 q1
      clear hx
      have qx : (x != x) = false := by simp
      cases bad
      all_goals
        go_wp2_with fail
        go_quiet (fail)
        go_wp2_with fail
        go_roundw
        case rel => first | exact ⟨k + 1, by omega, by go_num, _, rfl⟩ | ((repeat apply Exists.intro); exact ⟨⟨k + 1, by omega, by go_num, _, rfl⟩, rfl⟩)
        case measure => simp [intOf]; omega

set_option maxRecDepth 100000 in
theorem gets_out8 (d : Int) (v : Value) (hd : 0 ≤ d) (hd1 : d ≤ 18446744073709551615) (hx : 0 < d / 256) (l : List ByteArray) (w : World) (hv : Strs w v l) (hl : l.length ≤ 9223372036854775807) : Calls Tryz.prog 3 #[.int .i64 8, .int .u64 d, v] w fun e w' => e = .returned (.bool true) ∧ Below w.heap.size w w' := by
  have F := Lib.hid (fits2_any v l w hv hl)
  obtain ⟨va, vc, rfl⟩ := hv.len
  clear hv
  go_enter Tryz.func3, Tryz.ntmps3
  go_wp2_with fail
  refine F.out.mono ?_
  rintro e w' ⟨⟨b, rfl, hb⟩, rfl⟩
  cases b
  all_goals
    go_wp2_with fail
    go_ret
    exact ⟨rfl, Below.refl _ _⟩
set_option maxRecDepth 100000 in
theorem gets_out16 (d : Int) (v : Value) (hd : 0 ≤ d) (hd1 : d ≤ 18446744073709551615) (hx : 0 < d / 65536) (l : List ByteArray) (w : World) (hv : Strs w v l) (hl : l.length ≤ 9223372036854775807) : Calls Tryz.prog 3 #[.int .i64 16, .int .u64 d, v] w fun e w' => e = .returned (.bool true) ∧ Below w.heap.size w w' := by
  have F := Lib.hid (fits2_any v l w hv hl)
  obtain ⟨va, vc, rfl⟩ := hv.len
  clear hv
  go_enter Tryz.func3, Tryz.ntmps3
  go_wp2_with fail
  refine F.out.mono ?_
  rintro e w' ⟨⟨b, rfl, hb⟩, rfl⟩
  cases b
  all_goals
    go_wp2_with fail
    go_ret
    exact ⟨rfl, Below.refl _ _⟩
set_option maxRecDepth 100000 in
theorem gets_out32 (d : Int) (v : Value) (hd : 0 ≤ d) (hd1 : d ≤ 18446744073709551615) (hx : 0 < d / 4294967296) (l : List ByteArray) (w : World) (hv : Strs w v l) (hl : l.length ≤ 9223372036854775807) : Calls Tryz.prog 3 #[.int .i64 32, .int .u64 d, v] w fun e w' => e = .returned (.bool true) ∧ Below w.heap.size w w' := by
  have F := Lib.hid (fits2_any v l w hv hl)
  obtain ⟨va, vc, rfl⟩ := hv.len
  clear hv
  go_enter Tryz.func3, Tryz.ntmps3
  go_wp2_with fail
  refine F.out.mono ?_
  rintro e w' ⟨⟨b, rfl, hb⟩, rfl⟩
  cases b
  all_goals
    go_wp2_with fail
    go_ret
    exact ⟨rfl, Below.refl _ _⟩
set_option maxRecDepth 100000 in
theorem gets_none (b d : Int) (v : Value) (q0 : (b != 0) = true) (q1 : (b != 8) = true) (q2 : (b != 16) = true) (q3 : (b != 32) = true) (q5 : (b != 64) = true) (l : List ByteArray) (w : World) (hv : Strs w v l) (hl : l.length ≤ 9223372036854775807) : Calls Tryz.prog 3 #[.int .i64 b, .int .u64 d, v] w fun e w' => e = .returned (.bool true) ∧ Below w.heap.size w w' := by
  have F := Lib.hid (fits2_any v l w hv hl)
  obtain ⟨va, vc, rfl⟩ := hv.len
  clear hv
  go_enter Tryz.func3, Tryz.ntmps3
  go_wp2_with fail
  refine F.out.mono ?_
  rintro e w' ⟨⟨b, rfl, hb⟩, rfl⟩
  cases b
  all_goals
    go_wp2_with fail
    go_ret
    exact ⟨rfl, Below.refl _ _⟩
theorem fnGetUints_law (b d : Int) (hd : 0 ≤ d) (hd1 : d ≤ 18446744073709551615) (v : Value) (l : List ByteArray) (w : World) (hv : Strs w v l) (hl : l.length ≤ 9223372036854775807) (hE : ErrsAt w) (hT : Tab w) :
    Calls Tryz.prog 3 #[.int .i64 b, .int .u64 d, v] w fun e w' => e = .returned (.bool true) ∧ Below w.heap.size w w' := by
  by_cases q0 : b = 0
  · subst q0; exact gets_uint d hd hd1 v l w hv hl hE hT
  by_cases q5 : b = 64
  · subst q5; exact gets_uint64 d hd hd1 v l w hv hl hE hT
  by_cases q1 : b = 8
  · subst q1
    by_cases hx : 0 < d / 256
    · exact gets_out8 d v hd hd1 hx l w hv hl
    · exact gets_uint8 d hd (by omega) v l w hv hl hE hT
  by_cases q2 : b = 16
  · subst q2
    by_cases hx : 0 < d / 65536
    · exact gets_out16 d v hd hd1 hx l w hv hl
    · exact gets_uint16 d hd (by omega) v l w hv hl hE hT
  by_cases q3 : b = 32
  · subst q3
    by_cases hx : 0 < d / 4294967296
    · exact gets_out32 d v hd hd1 hx l w hv hl
    · exact gets_uint32 d hd (by omega) v l w hv hl hE hT
  exact gets_none b d v (by simp; omega) (by simp; omega) (by simp; omega) (by simp; omega) (by simp; omega) l w hv hl
end Go.Proofs.YtioldikeiiibgaaGreatDoor
