/- The law FnIntsAll: an integer's value is set to just those texts that are numerals that it holds, and says digits. (Printed by gen_il.py.) -/
import Derived.Test.YthodlepbmnbflaaDoorIImp0
import Derived.Test.YthodlepbmnbflaaDoorIImp1
import Derived.Test.YthodlepbmnbflaaDoorIImp2
import Derived.Test.YthodlepbmnbflaaDoorIImp3
import Derived.Test.YthodlepbmnbflaaDoorIImp4
import Derived.Test.YthodlepbmnbflaaDoorWh1
import Derived.Test.YthodlepbmnbflaaDoorOpenT
namespace Go.Proofs.YthodlepbmnbflaaDoor
open Go.RowKit
set_option linter.unusedVariables false
set_option linter.unusedSimpArgs false

/-- What was said, as it lies. -/
def SaidI (w : World) (a : Option Addr) (C M : Nat) (l : List ByteArray) : Prop := ∀ i (h : i < l.length), ∃ b off, a = some ⟨b, off, none⟩ ∧ w.cell? ⟨b, off + i * 3, none⟩ = some (.bool (ib C M l[i])) ∧ w.cell? ⟨b, off + i * 3 + 1, none⟩ = some (.int .i64 (iv C M l[i])) ∧ w.cell? ⟨b, off + i * 3 + 2, none⟩ = some (.string (numI (iv C M l[i]))) ∧ b < w.heap.size
theorem flatI_get {C M : Nat} : ∀ (l : List ByteArray) (i : Nat) (h : i < l.length), (flatI C M l)[i * 3]? = some (.bool (ib C M l[i])) ∧ (flatI C M l)[i * 3 + 1]? = some (.int .i64 (iv C M l[i])) ∧ (flatI C M l)[i * 3 + 2]? = some (.string (numI (iv C M l[i])))
  | x :: l, 0, h => ⟨rfl, rfl, rfl⟩
  | x :: l, i + 1, h => by
    have := flatI_get (C := C) (M := M) l i (by simpa using h)
    have e : flatI C M (x :: l) = .bool (ib C M x) :: .int .i64 (iv C M x) :: .string (numI (iv C M x)) :: flatI C M l := rfl
    rw [e, show (i + 1) * 3 = i * 3 + 3 by omega]
    exact this
theorem saidI_of {w : World} {base C M : Nat} {a : Option Addr} {n c : Nat} {l : List ByteArray} (h : w.ownsRow base 65 3 (.slice a n c) l.length (flatI C M l)) : SaidI w a C M l := by
  intro i hi
  rcases h.2 with ⟨e, hn⟩ | ⟨b, cap, cur, e, hb, hh, hnc, hcm, hcs, ht⟩
  · omega
  · cases e
    obtain ⟨q0, q1, q2⟩ := flatI_get (C := C) (M := M) l i hi
    rw [← ht, List.getElem?_take, if_pos (by omega), Array.getElem?_toList] at q0 q1 q2
    exact ⟨b, 0, rfl, by simp [World.cell?, hh, q0], by simp [World.cell?, hh, q1], by simp [World.cell?, hh, q2], lt_of_block hh⟩
theorem SaidI.later {w w' : World} {a : Option Addr} {C M : Nat} {l : List ByteArray} (h : SaidI w a C M l) (hb : Below w.heap.size w w') : SaidI w' a C M l := by
  intro i hi
  obtain ⟨b, off, e, c0, c1, c2, hlt⟩ := h i hi
  have := hb.size
  exact ⟨b, off, e, (hb.cell (p := ⟨b, _, none⟩) hlt).trans c0, (hb.cell (p := ⟨b, _, none⟩) hlt).trans c1, (hb.cell (p := ⟨b, _, none⟩) hlt).trans c2, by omega⟩

theorem heardI_any (n : Int) (b : Bool) (hn : (n = 2 ∧ b = true) ∨ (n = 1 ∧ b = false)) (w : World) : Calls Tryd.prog 11 #[.int .i64 n, .bool b] w fun e w' => e = .returned (.bool true) ∧ w = w' := by
  obtain ⟨rfl, rfl⟩ | ⟨rfl, rfl⟩ := hn
  · go_enter Tryd.func11, Tryd.ntmps11
    go_wp2
    go_ret
    exact ⟨rfl, rfl⟩
  · go_enter Tryd.func11, Tryd.ntmps11
    go_wp2
    go_ret
    exact ⟨rfl, rfl⟩
theorem whole_of {C M : Nat} (hC : C ≤ M) (hM : M ≤ M64) (s : ByteArray) : (ib C M s = false ∧ wF C s.data.toList = (iv C M s, 1)) ∨ (ib C M s = true ∧ (wF C s.data.toList).2 = 2) := by
  obtain ⟨h1, h2⟩ := wF_pi hC hM s.data.toList
  by_cases h : (pi0 C M s.data.toList).2 = 0
  · exact .inl ⟨by simp [ib, h], h1 h⟩
  · exact .inr ⟨by simp [ib, h], h2 h⟩
theorem width_0 (w : World) : Calls Tryd.prog 28 #[.int .i64 0] w fun e w' => e = .returned (.int .i64 64) ∧ w = w' := by
  go_enter Tryd.func28, Tryd.ntmps28
  go_wp2
  go_ret
  exact ⟨rfl, rfl⟩
theorem width_1 (w : World) : Calls Tryd.prog 28 #[.int .i64 1] w fun e w' => e = .returned (.int .i64 8) ∧ w = w' := by
  go_enter Tryd.func28, Tryd.ntmps28
  go_wp2
  go_ret
  exact ⟨rfl, rfl⟩
theorem width_2 (w : World) : Calls Tryd.prog 28 #[.int .i64 2] w fun e w' => e = .returned (.int .i64 16) ∧ w = w' := by
  go_enter Tryd.func28, Tryd.ntmps28
  go_wp2
  go_ret
  exact ⟨rfl, rfl⟩
theorem width_3 (w : World) : Calls Tryd.prog 28 #[.int .i64 3] w fun e w' => e = .returned (.int .i64 32) ∧ w = w' := by
  go_enter Tryd.func28, Tryd.ntmps28
  go_wp2
  go_ret
  exact ⟨rfl, rfl⟩
theorem width_4 (w : World) : Calls Tryd.prog 28 #[.int .i64 4] w fun e w' => e = .returned (.int .i64 64) ∧ w = w' := by
  go_enter Tryd.func28, Tryd.ntmps28
  go_wp2
  go_ret
  exact ⟨rfl, rfl⟩
theorem holds_8 (d : Int) (h0 : -128 ≤ d) (h1 : d ≤ 127) (w : World) : Calls Tryd.prog 29 #[.int .i64 8, .int .i64 d] w fun e w' => e = .returned (.bool true) ∧ w = w' := by
  have h2 : d < 128 := by omega
  go_enter Tryd.func29, Tryd.ntmps29
  go_wp2
  go_ret
  exact ⟨rfl, rfl⟩
theorem holdsnot_8 (d : Int) (h : d < -128 ∨ 128 ≤ d) (w : World) : Calls Tryd.prog 29 #[.int .i64 8, .int .i64 d] w fun e w' => e = .returned (.bool false) ∧ w = w' := by
  rcases h with h | h
  · go_enter Tryd.func29, Tryd.ntmps29
    go_wp2
    go_ret
    exact ⟨rfl, rfl⟩
  · have h2 : -128 ≤ d := by omega
    have h3 : decide (d < 128) = false := decide_eq_false (by omega)
    go_enter Tryd.func29, Tryd.ntmps29
    go_wp2
    go_ret
    exact ⟨rfl, rfl⟩
theorem holds_16 (d : Int) (h0 : -32768 ≤ d) (h1 : d ≤ 32767) (w : World) : Calls Tryd.prog 29 #[.int .i64 16, .int .i64 d] w fun e w' => e = .returned (.bool true) ∧ w = w' := by
  have h2 : d < 32768 := by omega
  go_enter Tryd.func29, Tryd.ntmps29
  go_wp2
  go_ret
  exact ⟨rfl, rfl⟩
theorem holdsnot_16 (d : Int) (h : d < -32768 ∨ 32768 ≤ d) (w : World) : Calls Tryd.prog 29 #[.int .i64 16, .int .i64 d] w fun e w' => e = .returned (.bool false) ∧ w = w' := by
  rcases h with h | h
  · go_enter Tryd.func29, Tryd.ntmps29
    go_wp2
    go_ret
    exact ⟨rfl, rfl⟩
  · have h2 : -32768 ≤ d := by omega
    have h3 : decide (d < 32768) = false := decide_eq_false (by omega)
    go_enter Tryd.func29, Tryd.ntmps29
    go_wp2
    go_ret
    exact ⟨rfl, rfl⟩
theorem holds_32 (d : Int) (h0 : -2147483648 ≤ d) (h1 : d ≤ 2147483647) (w : World) : Calls Tryd.prog 29 #[.int .i64 32, .int .i64 d] w fun e w' => e = .returned (.bool true) ∧ w = w' := by
  have h2 : d < 2147483648 := by omega
  go_enter Tryd.func29, Tryd.ntmps29
  go_wp2
  go_ret
  exact ⟨rfl, rfl⟩
theorem holdsnot_32 (d : Int) (h : d < -2147483648 ∨ 2147483648 ≤ d) (w : World) : Calls Tryd.prog 29 #[.int .i64 32, .int .i64 d] w fun e w' => e = .returned (.bool false) ∧ w = w' := by
  rcases h with h | h
  · go_enter Tryd.func29, Tryd.ntmps29
    go_wp2
    go_ret
    exact ⟨rfl, rfl⟩
  · have h2 : -2147483648 ≤ d := by omega
    have h3 : decide (d < 2147483648) = false := decide_eq_false (by omega)
    go_enter Tryd.func29, Tryd.ntmps29
    go_wp2
    go_ret
    exact ⟨rfl, rfl⟩
theorem holds_64 (d : Int) (h0 : -9223372036854775808 ≤ d) (h1 : d ≤ 9223372036854775807) (w : World) : Calls Tryd.prog 29 #[.int .i64 64, .int .i64 d] w fun e w' => e = .returned (.bool true) ∧ w = w' := by
  have h2 : d < 9223372036854775808 := by omega
  go_enter Tryd.func29, Tryd.ntmps29
  go_wp2
  go_ret
  exact ⟨rfl, rfl⟩

set_option maxRecDepth 100000 in
set_option maxHeartbeats 6400000 in
theorem int_int (d : Int) (hd : -9223372036854775808 ≤ d) (hd1 : d ≤ 9223372036854775807) (v : Value) (l : List ByteArray) (w : World) (hv : Strs w v l) (hl : l.length ≤ 2147483647) (hs : ∀ s ∈ l, s.size ≤ 2147483647) (hE : ErrsAt w) (hT : Tab w) :
    Calls Tryd.prog 9 #[.int .i64 0, .int .i64 d, v, .bool true] w fun e w' => e = .returned (.bool true) ∧ Below w.heap.size w w' := by
  obtain ⟨a, cap, rfl⟩ := hv.len
  have HV := Lib.hid (fun W (h : Below w.heap.size w W) => hv.later h.block)
  have C := Lib.hid (ival_int d hd hd1 _ l w hv hl hs hE hT)
  have CW := Lib.hid width_0
  have CH := Lib.hid (fun W => holds_64 d hd hd1 W)
  have HS := Lib.hid hs
  clear hv hE hs hT
  go_enter Tryd.func9, Tryd.ntmps9
  go_wp2_with (first
    | (go_at_call 28; refine (CW.out _).mono ?_; rintro e w' ⟨rfl, rfl⟩)
    | (go_at_call 29; refine (CH.out _).mono ?_; rintro e w' ⟨rfl, rfl⟩)
    | fail)
  refine C.out.mono ?_
  rintro e w1 ⟨rv, rfl, hrow, hb1⟩
  obtain ⟨ra, rc, rfl⟩ := row_form hrow
  have HSA := Lib.hid (fun W (h : Below w1.heap.size w1 W) => (saidI_of hrow).later h)
  have HB1 := Lib.hid hb1
  clear hrow hb1 C
  go_wp2_with fail
  go_loopw [36] (fun vi wr => ∃ k : Nat, k ≤ l.length ∧ vi = .int .i64 k ∧ Below w1.heap.size w1 wr) (fun vi _ => l.length - (intOf vi).toNat)
  case atStart => exact ⟨0, Nat.zero_le _, rfl, Below.refl _ _⟩
  case round =>
    obtain ⟨k, hk, rfl, hr⟩ := hrel
    have HR := Lib.hid hr
    clear hr
    by_cases hlt : k < l.length
    case neg =>
      go_wp2_with fail
      go_ret
      exact ⟨rfl, Below.after HB1.out HR.out⟩
    obtain ⟨sb, so, rfl, s0, s1, s2, slt⟩ := HSA.out wr HR.out k hlt
    obtain ⟨tb, tof, rfl, hc⟩ := (HV.out wr (Below.after HB1.out HR.out)).cell (by omega)
    have hck := hc k hlt
    have tlt : tb < wr.heap.size := by
      rcases Nat.lt_or_ge tb wr.heap.size with h | h
      · exact h
      · simp [World.cell?, Array.getElem?_eq_none h] at hck
    have HN := Lib.hid (fun W => wh64_any l[k] (HS.out l[k] (List.getElem_mem hlt)) W)
    have HU := Lib.hid (whole_of (C := 9223372036854775808) (M := 18446744073709551615) (by decide) (by decide) l[k])
    have HLE := Lib.hid (iv_le 9223372036854775808 18446744073709551615 (by decide) l[k])
    clear hc
    generalize l[k] = x at *
    generalize wF 9223372036854775808 x.data.toList = R at *
    generalize iv 9223372036854775808 18446744073709551615 x = vv at *
    generalize ib 9223372036854775808 18446744073709551615 x = bad at *
    obtain ⟨rv, ris⟩ := R
    go_wp2_with fail
    refine (HN.out _).mono ?_
    rintro e w2 ⟨rfl, hq⟩
    have hw2 : w2.heap[wr.heap.size]? = some (.cells #[.bool bad, .int .i64 vv, .string (numI vv)] 65 (0, 0)) := (hq.block _ (by simp only [World.size_alloc, World.heap_drewN]; omega)).trans (by (repeat (first | (with_reducible assumption) | ((with_reducible refine heap_past' ?_ ?_); focus ((try simp only [World.size_alloc, size_setCell, World.heap_drewN]); (try omega); done)) | ((with_reducible refine heap_at _ _ _ ?_); focus ((try simp only [World.size_alloc, size_setCell, World.heap_drewN]); (try omega); done)) | ((with_reducible refine heap_ne' ?_ ?_); focus ((try simp only [World.size_alloc, size_setCell, World.heap_drewN]); (try omega); done)) | (with_reducible refine heap_drew' ?_))))
    have HW : Hid (Below wr.heap.size wr w2) := Lib.hid (((Below.refl _ _).alloc (Nat.le_refl _) _).trans (hq.mono (by simp only [World.size_alloc, World.heap_drewN]; omega)))
    clear hq s0 s1 s2 hck HN
    rcases HU.out with ⟨rfl, he⟩ | ⟨rfl, he⟩
    · cases he
      have HNM := Lib.hid (fun W => signed_any vv (by have := HLE.out; omega) (by have := HLE.out; omega) W)
      have HC := Lib.hid (fun W (h : Below w2.heap.size w2 W) => (show W.cell? ⟨wr.heap.size, 0, none⟩ = some (.bool false) ∧ W.cell? ⟨wr.heap.size, 1, none⟩ = some (.int .i64 vv) ∧ W.cell? ⟨wr.heap.size, 2, none⟩ = some (.string (numI vv)) from ⟨cell_of ((h.block _ (lt_of_block hw2)).trans hw2) 0 _ rfl, cell_of ((h.block _ (lt_of_block hw2)).trans hw2) 1 _ rfl, cell_of ((h.block _ (lt_of_block hw2)).trans hw2) 2 _ rfl⟩))
      have hlt2 := lt_of_block hw2
      clear hw2 HU HLE
      generalize numI vv = tx at *
      have hd1' : Below w2.heap.size w2 w2.drew := (Below.refl _ _).drew
      go_upto_region 11 with fail
      go_region_held3 (fun wx => wx.cell? ⟨wr.heap.size, 0, none⟩ = some (.bool false) ∧ wx.cell? ⟨wr.heap.size, 1, none⟩ = some (.int .i64 vv) ∧ wx.cell? ⟨wr.heap.size, 2, none⟩ = some (.string tx))
        (first
          | (with_reducible exact HC.out _ hd1')
          | (with_reducible exact HC.out _ hd2))
        (first
          | (go_simp; go_at_call 11; refine (heardI_any 1 false (.inr ⟨rfl, rfl⟩) _).mono ?_; rintro e w' ⟨rfl, rfl⟩)
          | (go_simp; go_at_call 32; refine (HNM.out _).mono ?_; rintro e w3 ⟨rfl, hb3⟩; have hd2 := Below.after hd1' hb3)
          | fail)
      all_goals (go_wp2_with fail)
      all_goals go_roundw
      all_goals first
        | exact ⟨k + 1, by omega, by go_num, Below.after HR.out (Below.after HW.out hd2)⟩
        | (simp [intOf]; omega)
    · have he' : ris = 2 := he
      subst he'
      clear he
      have c0 := cell_of hw2 0 _ rfl
      have c1 := cell_of hw2 1 _ rfl
      have c2 := cell_of hw2 2 _ rfl
      clear hw2 HU HLE
      go_wp2_with fail
      go_quiet ((go_at_call 11; exact Calls.quiet_of_same ((heardI_any 2 true (.inl ⟨rfl, rfl⟩) _).mono fun _ _ ⟨h, q⟩ => ⟨h, q.symm⟩)))
      go_wp2_with fail
      go_roundw
      case rel => exact ⟨k + 1, by omega, by go_num, Below.drewN' (Below.after HR.out HW.out)⟩
      case measure => simp [intOf]; omega

set_option maxRecDepth 100000 in
set_option maxHeartbeats 6400000 in
theorem int_int8 (d : Int) (hd : -128 ≤ d) (hd1 : d ≤ 127) (v : Value) (l : List ByteArray) (w : World) (hv : Strs w v l) (hl : l.length ≤ 2147483647) (hs : ∀ s ∈ l, s.size ≤ 2147483647) (hE : ErrsAt w) (hT : Tab w) :
    Calls Tryd.prog 9 #[.int .i64 1, .int .i64 d, v, .bool true] w fun e w' => e = .returned (.bool true) ∧ Below w.heap.size w w' := by
  obtain ⟨a, cap, rfl⟩ := hv.len
  have HV := Lib.hid (fun W (h : Below w.heap.size w W) => hv.later h.block)
  have C := Lib.hid (ival_int8 d hd hd1 _ l w hv hl hs hE hT)
  have CW := Lib.hid width_1
  have CH := Lib.hid (fun W => holds_8 d hd hd1 W)
  have HS := Lib.hid hs
  clear hv hE hs hT
  go_enter Tryd.func9, Tryd.ntmps9
  go_wp2_with (first
    | (go_at_call 28; refine (CW.out _).mono ?_; rintro e w' ⟨rfl, rfl⟩)
    | (go_at_call 29; refine (CH.out _).mono ?_; rintro e w' ⟨rfl, rfl⟩)
    | fail)
  refine C.out.mono ?_
  rintro e w1 ⟨rv, rfl, hrow, hb1⟩
  obtain ⟨ra, rc, rfl⟩ := row_form hrow
  have HSA := Lib.hid (fun W (h : Below w1.heap.size w1 W) => (saidI_of hrow).later h)
  have HB1 := Lib.hid hb1
  clear hrow hb1 C
  go_wp2_with fail
  go_loopw [36] (fun vi wr => ∃ k : Nat, k ≤ l.length ∧ vi = .int .i64 k ∧ Below w1.heap.size w1 wr) (fun vi _ => l.length - (intOf vi).toNat)
  case atStart => exact ⟨0, Nat.zero_le _, rfl, Below.refl _ _⟩
  case round =>
    obtain ⟨k, hk, rfl, hr⟩ := hrel
    have HR := Lib.hid hr
    clear hr
    by_cases hlt : k < l.length
    case neg =>
      go_wp2_with fail
      go_ret
      exact ⟨rfl, Below.after HB1.out HR.out⟩
    obtain ⟨sb, so, rfl, s0, s1, s2, slt⟩ := HSA.out wr HR.out k hlt
    obtain ⟨tb, tof, rfl, hc⟩ := (HV.out wr (Below.after HB1.out HR.out)).cell (by omega)
    have hck := hc k hlt
    have tlt : tb < wr.heap.size := by
      rcases Nat.lt_or_ge tb wr.heap.size with h | h
      · exact h
      · simp [World.cell?, Array.getElem?_eq_none h] at hck
    have HN := Lib.hid (fun W => wh8_any l[k] (HS.out l[k] (List.getElem_mem hlt)) W)
    have HU := Lib.hid (whole_of (C := 128) (M := 255) (by decide) (by decide) l[k])
    have HLE := Lib.hid (iv_le 128 255 (by decide) l[k])
    clear hc
    generalize l[k] = x at *
    generalize wF 128 x.data.toList = R at *
    generalize iv 128 255 x = vv at *
    generalize ib 128 255 x = bad at *
    obtain ⟨rv, ris⟩ := R
    go_wp2_with fail
    refine (HN.out _).mono ?_
    rintro e w2 ⟨rfl, hq⟩
    have hw2 : w2.heap[wr.heap.size]? = some (.cells #[.bool bad, .int .i64 vv, .string (numI vv)] 65 (0, 0)) := (hq.block _ (by simp only [World.size_alloc, World.heap_drewN]; omega)).trans (by (repeat (first | (with_reducible assumption) | ((with_reducible refine heap_past' ?_ ?_); focus ((try simp only [World.size_alloc, size_setCell, World.heap_drewN]); (try omega); done)) | ((with_reducible refine heap_at _ _ _ ?_); focus ((try simp only [World.size_alloc, size_setCell, World.heap_drewN]); (try omega); done)) | ((with_reducible refine heap_ne' ?_ ?_); focus ((try simp only [World.size_alloc, size_setCell, World.heap_drewN]); (try omega); done)) | (with_reducible refine heap_drew' ?_))))
    have HW : Hid (Below wr.heap.size wr w2) := Lib.hid (((Below.refl _ _).alloc (Nat.le_refl _) _).trans (hq.mono (by simp only [World.size_alloc, World.heap_drewN]; omega)))
    clear hq s0 s1 s2 hck HN
    rcases HU.out with ⟨rfl, he⟩ | ⟨rfl, he⟩
    · cases he
      have HNM := Lib.hid (fun W => signed_any vv (by have := HLE.out; omega) (by have := HLE.out; omega) W)
      have HC := Lib.hid (fun W (h : Below w2.heap.size w2 W) => (show W.cell? ⟨wr.heap.size, 0, none⟩ = some (.bool false) ∧ W.cell? ⟨wr.heap.size, 1, none⟩ = some (.int .i64 vv) ∧ W.cell? ⟨wr.heap.size, 2, none⟩ = some (.string (numI vv)) from ⟨cell_of ((h.block _ (lt_of_block hw2)).trans hw2) 0 _ rfl, cell_of ((h.block _ (lt_of_block hw2)).trans hw2) 1 _ rfl, cell_of ((h.block _ (lt_of_block hw2)).trans hw2) 2 _ rfl⟩))
      have hlt2 := lt_of_block hw2
      clear hw2 HU HLE
      generalize numI vv = tx at *
      have hd1' : Below w2.heap.size w2 w2.drew := (Below.refl _ _).drew
      go_upto_region 11 with fail
      go_region_held3 (fun wx => wx.cell? ⟨wr.heap.size, 0, none⟩ = some (.bool false) ∧ wx.cell? ⟨wr.heap.size, 1, none⟩ = some (.int .i64 vv) ∧ wx.cell? ⟨wr.heap.size, 2, none⟩ = some (.string tx))
        (first
          | (with_reducible exact HC.out _ hd1')
          | (with_reducible exact HC.out _ hd2))
        (first
          | (go_simp; go_at_call 11; refine (heardI_any 1 false (.inr ⟨rfl, rfl⟩) _).mono ?_; rintro e w' ⟨rfl, rfl⟩)
          | (go_simp; go_at_call 32; refine (HNM.out _).mono ?_; rintro e w3 ⟨rfl, hb3⟩; have hd2 := Below.after hd1' hb3)
          | fail)
      all_goals (go_wp2_with fail)
      all_goals go_roundw
      all_goals first
        | exact ⟨k + 1, by omega, by go_num, Below.after HR.out (Below.after HW.out hd2)⟩
        | (simp [intOf]; omega)
    · have he' : ris = 2 := he
      subst he'
      clear he
      have c0 := cell_of hw2 0 _ rfl
      have c1 := cell_of hw2 1 _ rfl
      have c2 := cell_of hw2 2 _ rfl
      clear hw2 HU HLE
      go_wp2_with fail
      go_quiet ((go_at_call 11; exact Calls.quiet_of_same ((heardI_any 2 true (.inl ⟨rfl, rfl⟩) _).mono fun _ _ ⟨h, q⟩ => ⟨h, q.symm⟩)))
      go_wp2_with fail
      go_roundw
      case rel => exact ⟨k + 1, by omega, by go_num, Below.drewN' (Below.after HR.out HW.out)⟩
      case measure => simp [intOf]; omega
set_option maxRecDepth 100000 in
theorem intout_int8 (d : Int) (hd : d < -128 ∨ 128 ≤ d) (v : Value) (w : World) : Calls Tryd.prog 9 #[.int .i64 1, .int .i64 d, v, .bool true] w fun e w' => e = .returned (.bool true) ∧ w = w' := by
  have CW := Lib.hid width_1
  have CH := Lib.hid (fun W => holdsnot_8 d hd W)
  clear hd
  go_enter Tryd.func9, Tryd.ntmps9
  go_wp2_with (first
    | (go_at_call 28; refine (CW.out _).mono ?_; rintro e w' ⟨rfl, rfl⟩)
    | (go_at_call 29; refine (CH.out _).mono ?_; rintro e w' ⟨rfl, rfl⟩)
    | fail)
  go_ret
  exact ⟨rfl, rfl⟩

set_option maxRecDepth 100000 in
set_option maxHeartbeats 6400000 in
theorem int_int16 (d : Int) (hd : -32768 ≤ d) (hd1 : d ≤ 32767) (v : Value) (l : List ByteArray) (w : World) (hv : Strs w v l) (hl : l.length ≤ 2147483647) (hs : ∀ s ∈ l, s.size ≤ 2147483647) (hE : ErrsAt w) (hT : Tab w) :
    Calls Tryd.prog 9 #[.int .i64 2, .int .i64 d, v, .bool true] w fun e w' => e = .returned (.bool true) ∧ Below w.heap.size w w' := by
  obtain ⟨a, cap, rfl⟩ := hv.len
  have HV := Lib.hid (fun W (h : Below w.heap.size w W) => hv.later h.block)
  have C := Lib.hid (ival_int16 d hd hd1 _ l w hv hl hs hE hT)
  have CW := Lib.hid width_2
  have CH := Lib.hid (fun W => holds_16 d hd hd1 W)
  have HS := Lib.hid hs
  clear hv hE hs hT
  go_enter Tryd.func9, Tryd.ntmps9
  go_wp2_with (first
    | (go_at_call 28; refine (CW.out _).mono ?_; rintro e w' ⟨rfl, rfl⟩)
    | (go_at_call 29; refine (CH.out _).mono ?_; rintro e w' ⟨rfl, rfl⟩)
    | fail)
  refine C.out.mono ?_
  rintro e w1 ⟨rv, rfl, hrow, hb1⟩
  obtain ⟨ra, rc, rfl⟩ := row_form hrow
  have HSA := Lib.hid (fun W (h : Below w1.heap.size w1 W) => (saidI_of hrow).later h)
  have HB1 := Lib.hid hb1
  clear hrow hb1 C
  go_wp2_with fail
  go_loopw [36] (fun vi wr => ∃ k : Nat, k ≤ l.length ∧ vi = .int .i64 k ∧ Below w1.heap.size w1 wr) (fun vi _ => l.length - (intOf vi).toNat)
  case atStart => exact ⟨0, Nat.zero_le _, rfl, Below.refl _ _⟩
  case round =>
    obtain ⟨k, hk, rfl, hr⟩ := hrel
    have HR := Lib.hid hr
    clear hr
    by_cases hlt : k < l.length
    case neg =>
      go_wp2_with fail
      go_ret
      exact ⟨rfl, Below.after HB1.out HR.out⟩
    obtain ⟨sb, so, rfl, s0, s1, s2, slt⟩ := HSA.out wr HR.out k hlt
    obtain ⟨tb, tof, rfl, hc⟩ := (HV.out wr (Below.after HB1.out HR.out)).cell (by omega)
    have hck := hc k hlt
    have tlt : tb < wr.heap.size := by
      rcases Nat.lt_or_ge tb wr.heap.size with h | h
      · exact h
      · simp [World.cell?, Array.getElem?_eq_none h] at hck
    have HN := Lib.hid (fun W => wh16_any l[k] (HS.out l[k] (List.getElem_mem hlt)) W)
    have HU := Lib.hid (whole_of (C := 32768) (M := 65535) (by decide) (by decide) l[k])
    have HLE := Lib.hid (iv_le 32768 65535 (by decide) l[k])
    clear hc
    generalize l[k] = x at *
    generalize wF 32768 x.data.toList = R at *
    generalize iv 32768 65535 x = vv at *
    generalize ib 32768 65535 x = bad at *
    obtain ⟨rv, ris⟩ := R
    go_wp2_with fail
    refine (HN.out _).mono ?_
    rintro e w2 ⟨rfl, hq⟩
    have hw2 : w2.heap[wr.heap.size]? = some (.cells #[.bool bad, .int .i64 vv, .string (numI vv)] 65 (0, 0)) := (hq.block _ (by simp only [World.size_alloc, World.heap_drewN]; omega)).trans (by (repeat (first | (with_reducible assumption) | ((with_reducible refine heap_past' ?_ ?_); focus ((try simp only [World.size_alloc, size_setCell, World.heap_drewN]); (try omega); done)) | ((with_reducible refine heap_at _ _ _ ?_); focus ((try simp only [World.size_alloc, size_setCell, World.heap_drewN]); (try omega); done)) | ((with_reducible refine heap_ne' ?_ ?_); focus ((try simp only [World.size_alloc, size_setCell, World.heap_drewN]); (try omega); done)) | (with_reducible refine heap_drew' ?_))))
    have HW : Hid (Below wr.heap.size wr w2) := Lib.hid (((Below.refl _ _).alloc (Nat.le_refl _) _).trans (hq.mono (by simp only [World.size_alloc, World.heap_drewN]; omega)))
    clear hq s0 s1 s2 hck HN
    rcases HU.out with ⟨rfl, he⟩ | ⟨rfl, he⟩
    · cases he
      have HNM := Lib.hid (fun W => signed_any vv (by have := HLE.out; omega) (by have := HLE.out; omega) W)
      have HC := Lib.hid (fun W (h : Below w2.heap.size w2 W) => (show W.cell? ⟨wr.heap.size, 0, none⟩ = some (.bool false) ∧ W.cell? ⟨wr.heap.size, 1, none⟩ = some (.int .i64 vv) ∧ W.cell? ⟨wr.heap.size, 2, none⟩ = some (.string (numI vv)) from ⟨cell_of ((h.block _ (lt_of_block hw2)).trans hw2) 0 _ rfl, cell_of ((h.block _ (lt_of_block hw2)).trans hw2) 1 _ rfl, cell_of ((h.block _ (lt_of_block hw2)).trans hw2) 2 _ rfl⟩))
      have hlt2 := lt_of_block hw2
      clear hw2 HU HLE
      generalize numI vv = tx at *
      have hd1' : Below w2.heap.size w2 w2.drew := (Below.refl _ _).drew
      go_upto_region 11 with fail
      go_region_held3 (fun wx => wx.cell? ⟨wr.heap.size, 0, none⟩ = some (.bool false) ∧ wx.cell? ⟨wr.heap.size, 1, none⟩ = some (.int .i64 vv) ∧ wx.cell? ⟨wr.heap.size, 2, none⟩ = some (.string tx))
        (first
          | (with_reducible exact HC.out _ hd1')
          | (with_reducible exact HC.out _ hd2))
        (first
          | (go_simp; go_at_call 11; refine (heardI_any 1 false (.inr ⟨rfl, rfl⟩) _).mono ?_; rintro e w' ⟨rfl, rfl⟩)
          | (go_simp; go_at_call 32; refine (HNM.out _).mono ?_; rintro e w3 ⟨rfl, hb3⟩; have hd2 := Below.after hd1' hb3)
          | fail)
      all_goals (go_wp2_with fail)
      all_goals go_roundw
      all_goals first
        | exact ⟨k + 1, by omega, by go_num, Below.after HR.out (Below.after HW.out hd2)⟩
        | (simp [intOf]; omega)
    · have he' : ris = 2 := he
      subst he'
      clear he
      have c0 := cell_of hw2 0 _ rfl
      have c1 := cell_of hw2 1 _ rfl
      have c2 := cell_of hw2 2 _ rfl
      clear hw2 HU HLE
      go_wp2_with fail
      go_quiet ((go_at_call 11; exact Calls.quiet_of_same ((heardI_any 2 true (.inl ⟨rfl, rfl⟩) _).mono fun _ _ ⟨h, q⟩ => ⟨h, q.symm⟩)))
      go_wp2_with fail
      go_roundw
      case rel => exact ⟨k + 1, by omega, by go_num, Below.drewN' (Below.after HR.out HW.out)⟩
      case measure => simp [intOf]; omega
set_option maxRecDepth 100000 in
theorem intout_int16 (d : Int) (hd : d < -32768 ∨ 32768 ≤ d) (v : Value) (w : World) : Calls Tryd.prog 9 #[.int .i64 2, .int .i64 d, v, .bool true] w fun e w' => e = .returned (.bool true) ∧ w = w' := by
  have CW := Lib.hid width_2
  have CH := Lib.hid (fun W => holdsnot_16 d hd W)
  clear hd
  go_enter Tryd.func9, Tryd.ntmps9
  go_wp2_with (first
    | (go_at_call 28; refine (CW.out _).mono ?_; rintro e w' ⟨rfl, rfl⟩)
    | (go_at_call 29; refine (CH.out _).mono ?_; rintro e w' ⟨rfl, rfl⟩)
    | fail)
  go_ret
  exact ⟨rfl, rfl⟩

set_option maxRecDepth 100000 in
set_option maxHeartbeats 6400000 in
theorem int_int32 (d : Int) (hd : -2147483648 ≤ d) (hd1 : d ≤ 2147483647) (v : Value) (l : List ByteArray) (w : World) (hv : Strs w v l) (hl : l.length ≤ 2147483647) (hs : ∀ s ∈ l, s.size ≤ 2147483647) (hE : ErrsAt w) (hT : Tab w) :
    Calls Tryd.prog 9 #[.int .i64 3, .int .i64 d, v, .bool true] w fun e w' => e = .returned (.bool true) ∧ Below w.heap.size w w' := by
  obtain ⟨a, cap, rfl⟩ := hv.len
  have HV := Lib.hid (fun W (h : Below w.heap.size w W) => hv.later h.block)
  have C := Lib.hid (ival_int32 d hd hd1 _ l w hv hl hs hE hT)
  have CW := Lib.hid width_3
  have CH := Lib.hid (fun W => holds_32 d hd hd1 W)
  have HS := Lib.hid hs
  clear hv hE hs hT
  go_enter Tryd.func9, Tryd.ntmps9
  go_wp2_with (first
    | (go_at_call 28; refine (CW.out _).mono ?_; rintro e w' ⟨rfl, rfl⟩)
    | (go_at_call 29; refine (CH.out _).mono ?_; rintro e w' ⟨rfl, rfl⟩)
    | fail)
  refine C.out.mono ?_
  rintro e w1 ⟨rv, rfl, hrow, hb1⟩
  obtain ⟨ra, rc, rfl⟩ := row_form hrow
  have HSA := Lib.hid (fun W (h : Below w1.heap.size w1 W) => (saidI_of hrow).later h)
  have HB1 := Lib.hid hb1
  clear hrow hb1 C
  go_wp2_with fail
  go_loopw [36] (fun vi wr => ∃ k : Nat, k ≤ l.length ∧ vi = .int .i64 k ∧ Below w1.heap.size w1 wr) (fun vi _ => l.length - (intOf vi).toNat)
  case atStart => exact ⟨0, Nat.zero_le _, rfl, Below.refl _ _⟩
  case round =>
    obtain ⟨k, hk, rfl, hr⟩ := hrel
    have HR := Lib.hid hr
    clear hr
    by_cases hlt : k < l.length
    case neg =>
      go_wp2_with fail
      go_ret
      exact ⟨rfl, Below.after HB1.out HR.out⟩
    obtain ⟨sb, so, rfl, s0, s1, s2, slt⟩ := HSA.out wr HR.out k hlt
    obtain ⟨tb, tof, rfl, hc⟩ := (HV.out wr (Below.after HB1.out HR.out)).cell (by omega)
    have hck := hc k hlt
    have tlt : tb < wr.heap.size := by
      rcases Nat.lt_or_ge tb wr.heap.size with h | h
      · exact h
      · simp [World.cell?, Array.getElem?_eq_none h] at hck
    have HN := Lib.hid (fun W => wh32_any l[k] (HS.out l[k] (List.getElem_mem hlt)) W)
    have HU := Lib.hid (whole_of (C := 2147483648) (M := 4294967295) (by decide) (by decide) l[k])
    have HLE := Lib.hid (iv_le 2147483648 4294967295 (by decide) l[k])
    clear hc
    generalize l[k] = x at *
    generalize wF 2147483648 x.data.toList = R at *
    generalize iv 2147483648 4294967295 x = vv at *
    generalize ib 2147483648 4294967295 x = bad at *
    obtain ⟨rv, ris⟩ := R
    go_wp2_with fail
    refine (HN.out _).mono ?_
    rintro e w2 ⟨rfl, hq⟩
    have hw2 : w2.heap[wr.heap.size]? = some (.cells #[.bool bad, .int .i64 vv, .string (numI vv)] 65 (0, 0)) := (hq.block _ (by simp only [World.size_alloc, World.heap_drewN]; omega)).trans (by (repeat (first | (with_reducible assumption) | ((with_reducible refine heap_past' ?_ ?_); focus ((try simp only [World.size_alloc, size_setCell, World.heap_drewN]); (try omega); done)) | ((with_reducible refine heap_at _ _ _ ?_); focus ((try simp only [World.size_alloc, size_setCell, World.heap_drewN]); (try omega); done)) | ((with_reducible refine heap_ne' ?_ ?_); focus ((try simp only [World.size_alloc, size_setCell, World.heap_drewN]); (try omega); done)) | (with_reducible refine heap_drew' ?_))))
    have HW : Hid (Below wr.heap.size wr w2) := Lib.hid (((Below.refl _ _).alloc (Nat.le_refl _) _).trans (hq.mono (by simp only [World.size_alloc, World.heap_drewN]; omega)))
    clear hq s0 s1 s2 hck HN
    rcases HU.out with ⟨rfl, he⟩ | ⟨rfl, he⟩
    · cases he
      have HNM := Lib.hid (fun W => signed_any vv (by have := HLE.out; omega) (by have := HLE.out; omega) W)
      have HC := Lib.hid (fun W (h : Below w2.heap.size w2 W) => (show W.cell? ⟨wr.heap.size, 0, none⟩ = some (.bool false) ∧ W.cell? ⟨wr.heap.size, 1, none⟩ = some (.int .i64 vv) ∧ W.cell? ⟨wr.heap.size, 2, none⟩ = some (.string (numI vv)) from ⟨cell_of ((h.block _ (lt_of_block hw2)).trans hw2) 0 _ rfl, cell_of ((h.block _ (lt_of_block hw2)).trans hw2) 1 _ rfl, cell_of ((h.block _ (lt_of_block hw2)).trans hw2) 2 _ rfl⟩))
      have hlt2 := lt_of_block hw2
      clear hw2 HU HLE
      generalize numI vv = tx at *
      have hd1' : Below w2.heap.size w2 w2.drew := (Below.refl _ _).drew
      go_upto_region 11 with fail
      go_region_held3 (fun wx => wx.cell? ⟨wr.heap.size, 0, none⟩ = some (.bool false) ∧ wx.cell? ⟨wr.heap.size, 1, none⟩ = some (.int .i64 vv) ∧ wx.cell? ⟨wr.heap.size, 2, none⟩ = some (.string tx))
        (first
          | (with_reducible exact HC.out _ hd1')
          | (with_reducible exact HC.out _ hd2))
        (first
          | (go_simp; go_at_call 11; refine (heardI_any 1 false (.inr ⟨rfl, rfl⟩) _).mono ?_; rintro e w' ⟨rfl, rfl⟩)
          | (go_simp; go_at_call 32; refine (HNM.out _).mono ?_; rintro e w3 ⟨rfl, hb3⟩; have hd2 := Below.after hd1' hb3)
          | fail)
      all_goals (go_wp2_with fail)
      all_goals go_roundw
      all_goals first
        | exact ⟨k + 1, by omega, by go_num, Below.after HR.out (Below.after HW.out hd2)⟩
        | (simp [intOf]; omega)
    · have he' : ris = 2 := he
      subst he'
      clear he
      have c0 := cell_of hw2 0 _ rfl
      have c1 := cell_of hw2 1 _ rfl
      have c2 := cell_of hw2 2 _ rfl
      clear hw2 HU HLE
      go_wp2_with fail
      go_quiet ((go_at_call 11; exact Calls.quiet_of_same ((heardI_any 2 true (.inl ⟨rfl, rfl⟩) _).mono fun _ _ ⟨h, q⟩ => ⟨h, q.symm⟩)))
      go_wp2_with fail
      go_roundw
      case rel => exact ⟨k + 1, by omega, by go_num, Below.drewN' (Below.after HR.out HW.out)⟩
      case measure => simp [intOf]; omega
set_option maxRecDepth 100000 in
theorem intout_int32 (d : Int) (hd : d < -2147483648 ∨ 2147483648 ≤ d) (v : Value) (w : World) : Calls Tryd.prog 9 #[.int .i64 3, .int .i64 d, v, .bool true] w fun e w' => e = .returned (.bool true) ∧ w = w' := by
  have CW := Lib.hid width_3
  have CH := Lib.hid (fun W => holdsnot_32 d hd W)
  clear hd
  go_enter Tryd.func9, Tryd.ntmps9
  go_wp2_with (first
    | (go_at_call 28; refine (CW.out _).mono ?_; rintro e w' ⟨rfl, rfl⟩)
    | (go_at_call 29; refine (CH.out _).mono ?_; rintro e w' ⟨rfl, rfl⟩)
    | fail)
  go_ret
  exact ⟨rfl, rfl⟩

set_option maxRecDepth 100000 in
set_option maxHeartbeats 6400000 in
theorem int_int64 (d : Int) (hd : -9223372036854775808 ≤ d) (hd1 : d ≤ 9223372036854775807) (v : Value) (l : List ByteArray) (w : World) (hv : Strs w v l) (hl : l.length ≤ 2147483647) (hs : ∀ s ∈ l, s.size ≤ 2147483647) (hE : ErrsAt w) (hT : Tab w) :
    Calls Tryd.prog 9 #[.int .i64 4, .int .i64 d, v, .bool true] w fun e w' => e = .returned (.bool true) ∧ Below w.heap.size w w' := by
  obtain ⟨a, cap, rfl⟩ := hv.len
  have HV := Lib.hid (fun W (h : Below w.heap.size w W) => hv.later h.block)
  have C := Lib.hid (ival_int64 d hd hd1 _ l w hv hl hs hE hT)
  have CW := Lib.hid width_4
  have CH := Lib.hid (fun W => holds_64 d hd hd1 W)
  have HS := Lib.hid hs
  clear hv hE hs hT
  go_enter Tryd.func9, Tryd.ntmps9
  go_wp2_with (first
    | (go_at_call 28; refine (CW.out _).mono ?_; rintro e w' ⟨rfl, rfl⟩)
    | (go_at_call 29; refine (CH.out _).mono ?_; rintro e w' ⟨rfl, rfl⟩)
    | fail)
  refine C.out.mono ?_
  rintro e w1 ⟨rv, rfl, hrow, hb1⟩
  obtain ⟨ra, rc, rfl⟩ := row_form hrow
  have HSA := Lib.hid (fun W (h : Below w1.heap.size w1 W) => (saidI_of hrow).later h)
  have HB1 := Lib.hid hb1
  clear hrow hb1 C
  go_wp2_with fail
  go_loopw [36] (fun vi wr => ∃ k : Nat, k ≤ l.length ∧ vi = .int .i64 k ∧ Below w1.heap.size w1 wr) (fun vi _ => l.length - (intOf vi).toNat)
  case atStart => exact ⟨0, Nat.zero_le _, rfl, Below.refl _ _⟩
  case round =>
    obtain ⟨k, hk, rfl, hr⟩ := hrel
    have HR := Lib.hid hr
    clear hr
    by_cases hlt : k < l.length
    case neg =>
      go_wp2_with fail
      go_ret
      exact ⟨rfl, Below.after HB1.out HR.out⟩
    obtain ⟨sb, so, rfl, s0, s1, s2, slt⟩ := HSA.out wr HR.out k hlt
    obtain ⟨tb, tof, rfl, hc⟩ := (HV.out wr (Below.after HB1.out HR.out)).cell (by omega)
    have hck := hc k hlt
    have tlt : tb < wr.heap.size := by
      rcases Nat.lt_or_ge tb wr.heap.size with h | h
      · exact h
      · simp [World.cell?, Array.getElem?_eq_none h] at hck
    have HN := Lib.hid (fun W => wh64_any l[k] (HS.out l[k] (List.getElem_mem hlt)) W)
    have HU := Lib.hid (whole_of (C := 9223372036854775808) (M := 18446744073709551615) (by decide) (by decide) l[k])
    have HLE := Lib.hid (iv_le 9223372036854775808 18446744073709551615 (by decide) l[k])
    clear hc
    generalize l[k] = x at *
    generalize wF 9223372036854775808 x.data.toList = R at *
    generalize iv 9223372036854775808 18446744073709551615 x = vv at *
    generalize ib 9223372036854775808 18446744073709551615 x = bad at *
    obtain ⟨rv, ris⟩ := R
    go_wp2_with fail
    refine (HN.out _).mono ?_
    rintro e w2 ⟨rfl, hq⟩
    have hw2 : w2.heap[wr.heap.size]? = some (.cells #[.bool bad, .int .i64 vv, .string (numI vv)] 65 (0, 0)) := (hq.block _ (by simp only [World.size_alloc, World.heap_drewN]; omega)).trans (by (repeat (first | (with_reducible assumption) | ((with_reducible refine heap_past' ?_ ?_); focus ((try simp only [World.size_alloc, size_setCell, World.heap_drewN]); (try omega); done)) | ((with_reducible refine heap_at _ _ _ ?_); focus ((try simp only [World.size_alloc, size_setCell, World.heap_drewN]); (try omega); done)) | ((with_reducible refine heap_ne' ?_ ?_); focus ((try simp only [World.size_alloc, size_setCell, World.heap_drewN]); (try omega); done)) | (with_reducible refine heap_drew' ?_))))
    have HW : Hid (Below wr.heap.size wr w2) := Lib.hid (((Below.refl _ _).alloc (Nat.le_refl _) _).trans (hq.mono (by simp only [World.size_alloc, World.heap_drewN]; omega)))
    clear hq s0 s1 s2 hck HN
    rcases HU.out with ⟨rfl, he⟩ | ⟨rfl, he⟩
    · cases he
      have HNM := Lib.hid (fun W => signed_any vv (by have := HLE.out; omega) (by have := HLE.out; omega) W)
      have HC := Lib.hid (fun W (h : Below w2.heap.size w2 W) => (show W.cell? ⟨wr.heap.size, 0, none⟩ = some (.bool false) ∧ W.cell? ⟨wr.heap.size, 1, none⟩ = some (.int .i64 vv) ∧ W.cell? ⟨wr.heap.size, 2, none⟩ = some (.string (numI vv)) from ⟨cell_of ((h.block _ (lt_of_block hw2)).trans hw2) 0 _ rfl, cell_of ((h.block _ (lt_of_block hw2)).trans hw2) 1 _ rfl, cell_of ((h.block _ (lt_of_block hw2)).trans hw2) 2 _ rfl⟩))
      have hlt2 := lt_of_block hw2
      clear hw2 HU HLE
      generalize numI vv = tx at *
      have hd1' : Below w2.heap.size w2 w2.drew := (Below.refl _ _).drew
      go_upto_region 11 with fail
      go_region_held3 (fun wx => wx.cell? ⟨wr.heap.size, 0, none⟩ = some (.bool false) ∧ wx.cell? ⟨wr.heap.size, 1, none⟩ = some (.int .i64 vv) ∧ wx.cell? ⟨wr.heap.size, 2, none⟩ = some (.string tx))
        (first
          | (with_reducible exact HC.out _ hd1')
          | (with_reducible exact HC.out _ hd2))
        (first
          | (go_simp; go_at_call 11; refine (heardI_any 1 false (.inr ⟨rfl, rfl⟩) _).mono ?_; rintro e w' ⟨rfl, rfl⟩)
          | (go_simp; go_at_call 32; refine (HNM.out _).mono ?_; rintro e w3 ⟨rfl, hb3⟩; have hd2 := Below.after hd1' hb3)
          | fail)
      all_goals (go_wp2_with fail)
      all_goals go_roundw
      all_goals first
        | exact ⟨k + 1, by omega, by go_num, Below.after HR.out (Below.after HW.out hd2)⟩
        | (simp [intOf]; omega)
    · have he' : ris = 2 := he
      subst he'
      clear he
      have c0 := cell_of hw2 0 _ rfl
      have c1 := cell_of hw2 1 _ rfl
      have c2 := cell_of hw2 2 _ rfl
      clear hw2 HU HLE
      go_wp2_with fail
      go_quiet ((go_at_call 11; exact Calls.quiet_of_same ((heardI_any 2 true (.inl ⟨rfl, rfl⟩) _).mono fun _ _ ⟨h, q⟩ => ⟨h, q.symm⟩)))
      go_wp2_with fail
      go_roundw
      case rel => exact ⟨k + 1, by omega, by go_num, Below.drewN' (Below.after HR.out HW.out)⟩
      case measure => simp [intOf]; omega

theorem width_none (b : Int) (h0 : (b == 0) = false) (h1 : (b == 1) = false) (h2 : (b == 2) = false) (h3 : (b == 3) = false) (h4 : (b == 4) = false) (w : World) : Calls Tryd.prog 28 #[.int .i64 b] w fun e w' => e = .returned (.int .i64 0) ∧ w = w' := by
  go_enter Tryd.func28, Tryd.ntmps28
  go_wp2
  go_ret
  exact ⟨rfl, rfl⟩
set_option maxRecDepth 100000 in
theorem int_none (b d : Int) (v : Value) (hw : ∀ w, Calls Tryd.prog 28 #[.int .i64 b] w fun e w' => e = .returned (.int .i64 0) ∧ w = w') (w : World) : Calls Tryd.prog 9 #[.int .i64 b, .int .i64 d, v, .bool true] w fun e w' => e = .returned (.bool true) ∧ w = w' := by
  have CW := Lib.hid hw
  clear hw
  go_enter Tryd.func9, Tryd.ntmps9
  go_wp2_with (go_at_call 28; refine (CW.out _).mono ?_; rintro e w' ⟨rfl, rfl⟩)
  go_ret
  exact ⟨rfl, rfl⟩

theorem integers_any (b d : Int) (hd : -9223372036854775808 ≤ d) (hd1 : d ≤ 9223372036854775807) (v : Value) (l : List ByteArray) (w : World) (hv : Strs w v l) (hl : l.length ≤ 2147483647) (hs : ∀ s ∈ l, s.size ≤ 2147483647) (hE : ErrsAt w) (hT : Tab w) :
    Calls Tryd.prog 9 #[.int .i64 b, .int .i64 d, v, .bool true] w fun e w' => e = .returned (.bool true) ∧ Below w.heap.size w w' := by
  have same : ∀ {e : Ending} {w' : World}, (e = .returned (.bool true) ∧ w = w') → e = .returned (.bool true) ∧ Below w.heap.size w w' := fun ⟨h1, h2⟩ => ⟨h1, by rw [← h2]; exact Below.refl _ _⟩
  by_cases q0 : b = 0
  · subst q0; exact int_int d hd hd1 v l w hv hl hs hE hT
  by_cases q4 : b = 4
  · subst q4; exact int_int64 d hd hd1 v l w hv hl hs hE hT
  by_cases q1 : b = 1
  · subst q1
    by_cases hx : d < -128 ∨ 128 ≤ d
    · exact (intout_int8 d hx v w).mono fun _ _ h => same h
    · exact int_int8 d (by omega) (by omega) v l w hv hl hs hE hT
  by_cases q2 : b = 2
  · subst q2
    by_cases hx : d < -32768 ∨ 32768 ≤ d
    · exact (intout_int16 d hx v w).mono fun _ _ h => same h
    · exact int_int16 d (by omega) (by omega) v l w hv hl hs hE hT
  by_cases q3 : b = 3
  · subst q3
    by_cases hx : d < -2147483648 ∨ 2147483648 ≤ d
    · exact (intout_int32 d hx v w).mono fun _ _ h => same h
    · exact int_int32 d (by omega) (by omega) v l w hv hl hs hE hT
  exact (int_none b d v (fun w => width_none b (by simp; omega) (by simp; omega) (by simp; omega) (by simp; omega) (by simp; omega) w) w).mono fun _ _ h => same h

theorem fnIntsAll_law (b d : Int) (hd : -9223372036854775808 ≤ d) (hd1 : d ≤ 9223372036854775807) (v : Value) (l : List ByteArray) (w : World) (hv : Strs w v l) (hl : l.length ≤ 9223372036854775807) (hE : ErrsAt w) (hT : Tab w) :
    Calls Tryd.prog 5 #[.int .i64 b, .int .i64 d, v] w fun e w' => e = .returned (.bool true) ∧ Below w.heap.size w w' := by
  have F := Lib.hid (fits2_any v l w hv hl)
  have C := Lib.hid (fun (h : SmallL l) => integers_any b d hd hd1 v l w hv h.1 h.2 hE hT)
  obtain ⟨a, cap, rfl⟩ := hv.len
  clear hv hE hT
  go_enter Tryd.func5, Tryd.ntmps5
  go_wp2_with fail
  refine F.out.mono ?_
  rintro e w' ⟨⟨b, rfl, hb⟩, rfl⟩
  cases b with
  | false =>
    go_wp2_with fail
    go_ret
    exact ⟨rfl, Below.refl _ _⟩
  | true =>
    have C2 := Lib.hid (C.out (hb rfl))
    clear hb
    go_wp2_with fail
    refine C2.out.mono ?_
    rintro e w2 ⟨rfl, hb2⟩
    have HB := Lib.hid hb2
    clear hb2
    go_wp2_with fail
    go_ret
    exact ⟨rfl, HB.out⟩
end Go.Proofs.YthodlepbmnbflaaDoor
