/- The law FnUints: an unsigned value is set to plain numerals that it holds, and says digits. (Printed by gen_ul.py.) -/
import Derived.Test.YthodlepbmnbflaaDoorUImp0
import Derived.Test.YthodlepbmnbflaaDoorUImp8
import Derived.Test.YthodlepbmnbflaaDoorUImp16
import Derived.Test.YthodlepbmnbflaaDoorUImp32
import Derived.Test.YthodlepbmnbflaaDoorUImp64
import Derived.Test.YthodlepbmnbflaaDoorSpecV
import Derived.Test.YthodlepbmnbflaaDoorNum
import Derived.Test.YthodlepbmnbflaaDoorOpenT
namespace Go.Proofs.YthodlepbmnbflaaDoor
open Go.RowKit
set_option linter.unusedVariables false
set_option linter.unusedSimpArgs false

/-- What was said, as it lies. -/
def SaidU (w : World) (a : Option Addr) (M : Nat) (l : List ByteArray) : Prop := ∀ i (h : i < l.length), ∃ b off, a = some ⟨b, off, none⟩ ∧ w.cell? ⟨b, off + i * 3, none⟩ = some (.bool (ub M l[i])) ∧ w.cell? ⟨b, off + i * 3 + 1, none⟩ = some (.int .u64 (uv M l[i] : Nat)) ∧ w.cell? ⟨b, off + i * 3 + 2, none⟩ = some (.string (numS (uv M l[i]))) ∧ b < w.heap.size
theorem flatU_get {M : Nat} : ∀ (l : List ByteArray) (i : Nat) (h : i < l.length), (flatU M l)[i * 3]? = some (.bool (ub M l[i])) ∧ (flatU M l)[i * 3 + 1]? = some (.int .u64 (uv M l[i] : Nat)) ∧ (flatU M l)[i * 3 + 2]? = some (.string (numS (uv M l[i])))
  | x :: l, 0, h => ⟨rfl, rfl, rfl⟩
  | x :: l, i + 1, h => by
    have := flatU_get (M := M) l i (by simpa using h)
    have e : flatU M (x :: l) = .bool (ub M x) :: .int .u64 (uv M x : Nat) :: .string (numS (uv M x)) :: flatU M l := rfl
    rw [e, show (i + 1) * 3 = i * 3 + 3 by omega]
    exact this
theorem saidU_of {w : World} {base M : Nat} {a : Option Addr} {n c : Nat} {l : List ByteArray} (h : w.ownsRow base 31 3 (.slice a n c) l.length (flatU M l)) : SaidU w a M l := by
  intro i hi
  rcases h.2 with ⟨e, hn⟩ | ⟨b, cap, cur, e, hb, hh, hnc, hcm, hcs, ht⟩
  · omega
  · cases e
    obtain ⟨q0, q1, q2⟩ := flatU_get (M := M) l i hi
    rw [← ht, List.getElem?_take, if_pos (by omega), Array.getElem?_toList] at q0 q1 q2
    exact ⟨b, 0, rfl, by simp [World.cell?, hh, q0], by simp [World.cell?, hh, q1], by simp [World.cell?, hh, q2], lt_of_block hh⟩
theorem SaidU.later {w w' : World} {a : Option Addr} {M : Nat} {l : List ByteArray} (h : SaidU w a M l) (hb : Below w.heap.size w w') : SaidU w' a M l := by
  intro i hi
  obtain ⟨b, off, e, c0, c1, c2, hlt⟩ := h i hi
  have := hb.size
  exact ⟨b, off, e, (hb.cell (p := ⟨b, _, none⟩) hlt).trans c0, (hb.cell (p := ⟨b, _, none⟩) hlt).trans c1, (hb.cell (p := ⟨b, _, none⟩) hlt).trans c2, by omega⟩

theorem heard_any (n : Int) (b : Bool) (hn : n = 0 ∨ (n = 1 ∧ b = false)) (w : World) : Calls Tryd.prog 11 #[.int .i64 n, .bool b] w fun e w' => e = .returned (.bool true) ∧ w = w' := by
  obtain rfl | ⟨rfl, rfl⟩ := hn
  · go_enter Tryd.func11, Tryd.ntmps11
    go_wp2
    go_ret
    exact ⟨rfl, rfl⟩
  · go_enter Tryd.func11, Tryd.ntmps11
    go_wp2
    go_ret
    exact ⟨rfl, rfl⟩
theorem uv_of {M : Nat} {s : ByteArray} {v : Nat} {us : Bool} (h : pu0 M s.data.toList = .ok v us) : uv M s = v ∧ ub M s = false := by
  rw [uv, ub, h]
  exact ⟨rfl, rfl⟩

set_option maxRecDepth 100000 in
set_option maxHeartbeats 6400000 in
theorem nat_uint (d : Int) (hd : 0 ≤ d) (hd1 : d ≤ 18446744073709551615)  (v : Value) (l : List ByteArray) (w : World) (hv : Strs w v l) (hl : l.length ≤ 2147483647) (hs : ∀ s ∈ l, s.size ≤ 2147483647) (hE : ErrsAt w) (hT : Tab w) :
    Calls Tryd.prog 7 #[.int .i64 0, .int .u64 d, v, .bool false] w fun e w' => e = .returned (.bool true) ∧ Below w.heap.size w w' := by
  obtain ⟨a, cap, rfl⟩ := hv.len
  have HV := Lib.hid (fun W (h : Below w.heap.size w W) => hv.later h.block)
  have C := Lib.hid (uval_uint d hd hd1 _ l w hv hl hs hE hT)
  have HS := Lib.hid hs
  clear hv hE hs hT
  go_enter Tryd.func7, Tryd.ntmps7
  go_wp2_with fail
  refine C.out.mono ?_
  rintro e w1 ⟨rv, rfl, hrow, hb1⟩
  obtain ⟨ra, rc, rfl⟩ := row_form hrow
  have HSA := Lib.hid (fun W (h : Below w1.heap.size w1 W) => (saidU_of hrow).later h)
  have HB1 := Lib.hid hb1
  clear hrow hb1 C
  go_wp2_with fail
  go_loopw [60] (fun vi wr => ∃ k : Nat, k ≤ l.length ∧ vi = .int .i64 k ∧ Below w1.heap.size w1 wr) (fun vi _ => l.length - (intOf vi).toNat)
  case atStart => exact ⟨0, Nat.zero_le _, rfl, Below.refl _ _⟩
  case round =>
    obtain ⟨k, hk, rfl, hr⟩ := hrel
    have HR := Lib.hid hr
    clear hr
    by_cases hlt : k < l.length
    case neg =>
      go_wp2_with fail
      go_ret
      exact ⟨rfl, Below.after HB1.out HR.out⟩
    obtain ⟨sb, so, rfl, s0, s1, s2, slt⟩ := HSA.out wr HR.out k hlt
    obtain ⟨tb, tof, rfl, hc⟩ := (HV.out wr (Below.after HB1.out HR.out)).cell (by omega)
    have hck := hc k hlt
    have tlt : tb < wr.heap.size := by
      rcases Nat.lt_or_ge tb wr.heap.size with h | h
      · exact h
      · simp [World.cell?, Array.getElem?_eq_none h] at hck
    have HN := Lib.hid (fun W => natural_64 l[k] (HS.out l[k] (List.getElem_mem hlt)) W)
    have HU : Hid (∀ v us, pu0 18446744073709551615 l[k].data.toList = .ok v us → uv 18446744073709551615 l[k] = v ∧ ub 18446744073709551615 l[k] = false) := Lib.hid (fun v us h => uv_of h)
    have HLE := Lib.hid (uv_le 18446744073709551615 l[k])
    clear hc
    generalize l[k] = x at *
    go_wp2_with fail
    refine (HN.out _).mono ?_
    rintro e w2 ⟨⟨vn, is, rfl, his⟩, hq⟩
    have hw2 : w2.heap[wr.heap.size]? = some (.cells #[.bool (ub 18446744073709551615 x), .int .u64 (uv 18446744073709551615 x : Nat), .string (numS (uv 18446744073709551615 x))] 31 (0, 0)) := (hq.below.block _ (by simp only [World.size_alloc, World.heap_drewN]; omega)).trans (by (repeat (first | (with_reducible assumption) | ((with_reducible refine heap_past' ?_ ?_); focus ((try simp only [World.size_alloc, size_setCell, World.heap_drewN]); (try omega); done)) | ((with_reducible refine heap_at _ _ _ ?_); focus ((try simp only [World.size_alloc, size_setCell, World.heap_drewN]); (try omega); done)) | ((with_reducible refine heap_ne' ?_ ?_); focus ((try simp only [World.size_alloc, size_setCell, World.heap_drewN]); (try omega); done)) | (with_reducible refine heap_drew' ?_))))
    have HW : Hid (Below wr.heap.size wr w2) := Lib.hid (((Below.refl _ _).alloc (Nat.le_refl _) _).trans (hq.below.mono (by simp only [World.size_alloc, World.heap_drewN]; omega)))
    clear hq s0 s1 s2 hck HN
    rcases his with rfl | ⟨rfl, hok⟩
    · have c0 := cell_of hw2 0 _ rfl
      have c1 := cell_of hw2 1 _ rfl
      have c2 := cell_of hw2 2 _ rfl
      clear hw2 HU HLE
      generalize ub 18446744073709551615 x = bad at *
      generalize uv 18446744073709551615 x = vv at *
      go_wp2_with fail
      go_quiet ((go_at_call 11; exact Calls.quiet_of_same ((heard_any 0 bad (.inl rfl) _).mono fun _ _ ⟨h, q⟩ => ⟨h, q.symm⟩)))
      go_wp2_with fail
      go_roundw
      case rel => exact ⟨k + 1, by omega, by go_num, Below.drewN' (Below.after HR.out HW.out)⟩
      case measure => simp [intOf]; omega
    · obtain ⟨e1, e2⟩ := HU.out _ _ hok
      have hvn : vn ≤ 18446744073709551615 := by rw [← e1]; exact HLE.out
      rw [e1, e2] at hw2
      have HNM := Lib.hid (fun W => numeral_any vn (Nat.lt_of_le_of_lt hvn (by decide)) W)
      clear e1 e2 hok HU HLE hvn
      have HC := Lib.hid (fun W (h : Below w2.heap.size w2 W) => (show W.cell? ⟨wr.heap.size, 0, none⟩ = some (.bool false) ∧ W.cell? ⟨wr.heap.size, 1, none⟩ = some (.int .u64 (vn : Nat)) ∧ W.cell? ⟨wr.heap.size, 2, none⟩ = some (.string (numS vn)) from ⟨cell_of ((h.block _ (lt_of_block hw2)).trans hw2) 0 _ rfl, cell_of ((h.block _ (lt_of_block hw2)).trans hw2) 1 _ rfl, cell_of ((h.block _ (lt_of_block hw2)).trans hw2) 2 _ rfl⟩))
      have hlt2 := lt_of_block hw2
      clear hw2
      generalize numS vn = tx at *
      obtain ⟨vi, hvi⟩ : ∃ vi : Int, vi = (vn : Nat) := ⟨_, rfl⟩
      rw [← hvi] at HNM HC ⊢
      clear hvi
      have hd1 : Below w2.heap.size w2 w2.drew := (Below.refl _ _).drew
      go_upto_region 12 with fail
      go_region_held3 (fun wx => wx.cell? ⟨wr.heap.size, 0, none⟩ = some (.bool false) ∧ wx.cell? ⟨wr.heap.size, 1, none⟩ = some (.int .u64 vi) ∧ wx.cell? ⟨wr.heap.size, 2, none⟩ = some (.string tx))
        (first
          | (with_reducible exact HC.out _ hd1)
          | (with_reducible exact HC.out _ hd2))
        (first
          | (go_simp; go_at_call 11; refine (heard_any 1 false (.inr ⟨rfl, rfl⟩) _).mono ?_; rintro e w' ⟨rfl, rfl⟩)
          | (go_simp; go_at_call 12; refine (HNM.out _).mono ?_; rintro e w3 ⟨rfl, hb3⟩; have hd2 := Below.after hd1 hb3)
          | fail)
      all_goals (go_wp2_with fail)
      all_goals go_roundw
      all_goals first
        | exact ⟨k + 1, by omega, by go_num, Below.after HR.out (Below.after HW.out hd2)⟩
        | (simp [intOf]; omega)

set_option maxRecDepth 100000 in
set_option maxHeartbeats 6400000 in
theorem nat_uint8 (d : Int) (hd : 0 ≤ d) (hd1 : d ≤ 255) (hx : d / 256 ≤ 0) (v : Value) (l : List ByteArray) (w : World) (hv : Strs w v l) (hl : l.length ≤ 2147483647) (hs : ∀ s ∈ l, s.size ≤ 2147483647) (hE : ErrsAt w) (hT : Tab w) :
    Calls Tryd.prog 7 #[.int .i64 8, .int .u64 d, v, .bool false] w fun e w' => e = .returned (.bool true) ∧ Below w.heap.size w w' := by
  obtain ⟨a, cap, rfl⟩ := hv.len
  have HV := Lib.hid (fun W (h : Below w.heap.size w W) => hv.later h.block)
  have C := Lib.hid (uval_uint8 d hd hd1 _ l w hv hl hs hE hT)
  have HS := Lib.hid hs
  clear hv hE hs hT
  go_enter Tryd.func7, Tryd.ntmps7
  go_wp2_with fail
  refine C.out.mono ?_
  rintro e w1 ⟨rv, rfl, hrow, hb1⟩
  obtain ⟨ra, rc, rfl⟩ := row_form hrow
  have HSA := Lib.hid (fun W (h : Below w1.heap.size w1 W) => (saidU_of hrow).later h)
  have HB1 := Lib.hid hb1
  clear hrow hb1 C
  go_wp2_with fail
  go_loopw [60] (fun vi wr => ∃ k : Nat, k ≤ l.length ∧ vi = .int .i64 k ∧ Below w1.heap.size w1 wr) (fun vi _ => l.length - (intOf vi).toNat)
  case atStart => exact ⟨0, Nat.zero_le _, rfl, Below.refl _ _⟩
  case round =>
    obtain ⟨k, hk, rfl, hr⟩ := hrel
    have HR := Lib.hid hr
    clear hr
    by_cases hlt : k < l.length
    case neg =>
      go_wp2_with fail
      go_ret
      exact ⟨rfl, Below.after HB1.out HR.out⟩
    obtain ⟨sb, so, rfl, s0, s1, s2, slt⟩ := HSA.out wr HR.out k hlt
    obtain ⟨tb, tof, rfl, hc⟩ := (HV.out wr (Below.after HB1.out HR.out)).cell (by omega)
    have hck := hc k hlt
    have tlt : tb < wr.heap.size := by
      rcases Nat.lt_or_ge tb wr.heap.size with h | h
      · exact h
      · simp [World.cell?, Array.getElem?_eq_none h] at hck
    have HN := Lib.hid (fun W => natural_8 l[k] (HS.out l[k] (List.getElem_mem hlt)) W)
    have HU : Hid (∀ v us, pu0 255 l[k].data.toList = .ok v us → uv 255 l[k] = v ∧ ub 255 l[k] = false) := Lib.hid (fun v us h => uv_of h)
    have HLE := Lib.hid (uv_le 255 l[k])
    clear hc
    generalize l[k] = x at *
    go_wp2_with fail
    refine (HN.out _).mono ?_
    rintro e w2 ⟨⟨vn, is, rfl, his⟩, hq⟩
    have hw2 : w2.heap[wr.heap.size]? = some (.cells #[.bool (ub 255 x), .int .u64 (uv 255 x : Nat), .string (numS (uv 255 x))] 31 (0, 0)) := (hq.below.block _ (by simp only [World.size_alloc, World.heap_drewN]; omega)).trans (by (repeat (first | (with_reducible assumption) | ((with_reducible refine heap_past' ?_ ?_); focus ((try simp only [World.size_alloc, size_setCell, World.heap_drewN]); (try omega); done)) | ((with_reducible refine heap_at _ _ _ ?_); focus ((try simp only [World.size_alloc, size_setCell, World.heap_drewN]); (try omega); done)) | ((with_reducible refine heap_ne' ?_ ?_); focus ((try simp only [World.size_alloc, size_setCell, World.heap_drewN]); (try omega); done)) | (with_reducible refine heap_drew' ?_))))
    have HW : Hid (Below wr.heap.size wr w2) := Lib.hid (((Below.refl _ _).alloc (Nat.le_refl _) _).trans (hq.below.mono (by simp only [World.size_alloc, World.heap_drewN]; omega)))
    clear hq s0 s1 s2 hck HN
    rcases his with rfl | ⟨rfl, hok⟩
    · have c0 := cell_of hw2 0 _ rfl
      have c1 := cell_of hw2 1 _ rfl
      have c2 := cell_of hw2 2 _ rfl
      clear hw2 HU HLE
      generalize ub 255 x = bad at *
      generalize uv 255 x = vv at *
      go_wp2_with fail
      go_quiet ((go_at_call 11; exact Calls.quiet_of_same ((heard_any 0 bad (.inl rfl) _).mono fun _ _ ⟨h, q⟩ => ⟨h, q.symm⟩)))
      go_wp2_with fail
      go_roundw
      case rel => exact ⟨k + 1, by omega, by go_num, Below.drewN' (Below.after HR.out HW.out)⟩
      case measure => simp [intOf]; omega
    · obtain ⟨e1, e2⟩ := HU.out _ _ hok
      have hvn : vn ≤ 255 := by rw [← e1]; exact HLE.out
      rw [e1, e2] at hw2
      have HNM := Lib.hid (fun W => numeral_any vn (Nat.lt_of_le_of_lt hvn (by decide)) W)
      clear e1 e2 hok HU HLE hvn
      have HC := Lib.hid (fun W (h : Below w2.heap.size w2 W) => (show W.cell? ⟨wr.heap.size, 0, none⟩ = some (.bool false) ∧ W.cell? ⟨wr.heap.size, 1, none⟩ = some (.int .u64 (vn : Nat)) ∧ W.cell? ⟨wr.heap.size, 2, none⟩ = some (.string (numS vn)) from ⟨cell_of ((h.block _ (lt_of_block hw2)).trans hw2) 0 _ rfl, cell_of ((h.block _ (lt_of_block hw2)).trans hw2) 1 _ rfl, cell_of ((h.block _ (lt_of_block hw2)).trans hw2) 2 _ rfl⟩))
      have hlt2 := lt_of_block hw2
      clear hw2
      generalize numS vn = tx at *
      obtain ⟨vi, hvi⟩ : ∃ vi : Int, vi = (vn : Nat) := ⟨_, rfl⟩
      rw [← hvi] at HNM HC ⊢
      clear hvi
      have hd1 : Below w2.heap.size w2 w2.drew := (Below.refl _ _).drew
      go_upto_region 12 with fail
      go_region_held3 (fun wx => wx.cell? ⟨wr.heap.size, 0, none⟩ = some (.bool false) ∧ wx.cell? ⟨wr.heap.size, 1, none⟩ = some (.int .u64 vi) ∧ wx.cell? ⟨wr.heap.size, 2, none⟩ = some (.string tx))
        (first
          | (with_reducible exact HC.out _ hd1)
          | (with_reducible exact HC.out _ hd2))
        (first
          | (go_simp; go_at_call 11; refine (heard_any 1 false (.inr ⟨rfl, rfl⟩) _).mono ?_; rintro e w' ⟨rfl, rfl⟩)
          | (go_simp; go_at_call 12; refine (HNM.out _).mono ?_; rintro e w3 ⟨rfl, hb3⟩; have hd2 := Below.after hd1 hb3)
          | fail)
      all_goals (go_wp2_with fail)
      all_goals go_roundw
      all_goals first
        | exact ⟨k + 1, by omega, by go_num, Below.after HR.out (Below.after HW.out hd2)⟩
        | (simp [intOf]; omega)

set_option maxRecDepth 100000 in
set_option maxHeartbeats 6400000 in
theorem nat_uint16 (d : Int) (hd : 0 ≤ d) (hd1 : d ≤ 65535) (hx : d / 65536 ≤ 0) (v : Value) (l : List ByteArray) (w : World) (hv : Strs w v l) (hl : l.length ≤ 2147483647) (hs : ∀ s ∈ l, s.size ≤ 2147483647) (hE : ErrsAt w) (hT : Tab w) :
    Calls Tryd.prog 7 #[.int .i64 16, .int .u64 d, v, .bool false] w fun e w' => e = .returned (.bool true) ∧ Below w.heap.size w w' := by
  obtain ⟨a, cap, rfl⟩ := hv.len
  have HV := Lib.hid (fun W (h : Below w.heap.size w W) => hv.later h.block)
  have C := Lib.hid (uval_uint16 d hd hd1 _ l w hv hl hs hE hT)
  have HS := Lib.hid hs
  clear hv hE hs hT
  go_enter Tryd.func7, Tryd.ntmps7
  go_wp2_with fail
  refine C.out.mono ?_
  rintro e w1 ⟨rv, rfl, hrow, hb1⟩
  obtain ⟨ra, rc, rfl⟩ := row_form hrow
  have HSA := Lib.hid (fun W (h : Below w1.heap.size w1 W) => (saidU_of hrow).later h)
  have HB1 := Lib.hid hb1
  clear hrow hb1 C
  go_wp2_with fail
  go_loopw [60] (fun vi wr => ∃ k : Nat, k ≤ l.length ∧ vi = .int .i64 k ∧ Below w1.heap.size w1 wr) (fun vi _ => l.length - (intOf vi).toNat)
  case atStart => exact ⟨0, Nat.zero_le _, rfl, Below.refl _ _⟩
  case round =>
    obtain ⟨k, hk, rfl, hr⟩ := hrel
    have HR := Lib.hid hr
    clear hr
    by_cases hlt : k < l.length
    case neg =>
      go_wp2_with fail
      go_ret
      exact ⟨rfl, Below.after HB1.out HR.out⟩
    obtain ⟨sb, so, rfl, s0, s1, s2, slt⟩ := HSA.out wr HR.out k hlt
    obtain ⟨tb, tof, rfl, hc⟩ := (HV.out wr (Below.after HB1.out HR.out)).cell (by omega)
    have hck := hc k hlt
    have tlt : tb < wr.heap.size := by
      rcases Nat.lt_or_ge tb wr.heap.size with h | h
      · exact h
      · simp [World.cell?, Array.getElem?_eq_none h] at hck
    have HN := Lib.hid (fun W => natural_16 l[k] (HS.out l[k] (List.getElem_mem hlt)) W)
    have HU : Hid (∀ v us, pu0 65535 l[k].data.toList = .ok v us → uv 65535 l[k] = v ∧ ub 65535 l[k] = false) := Lib.hid (fun v us h => uv_of h)
    have HLE := Lib.hid (uv_le 65535 l[k])
    clear hc
    generalize l[k] = x at *
    go_wp2_with fail
    refine (HN.out _).mono ?_
    rintro e w2 ⟨⟨vn, is, rfl, his⟩, hq⟩
    have hw2 : w2.heap[wr.heap.size]? = some (.cells #[.bool (ub 65535 x), .int .u64 (uv 65535 x : Nat), .string (numS (uv 65535 x))] 31 (0, 0)) := (hq.below.block _ (by simp only [World.size_alloc, World.heap_drewN]; omega)).trans (by (repeat (first | (with_reducible assumption) | ((with_reducible refine heap_past' ?_ ?_); focus ((try simp only [World.size_alloc, size_setCell, World.heap_drewN]); (try omega); done)) | ((with_reducible refine heap_at _ _ _ ?_); focus ((try simp only [World.size_alloc, size_setCell, World.heap_drewN]); (try omega); done)) | ((with_reducible refine heap_ne' ?_ ?_); focus ((try simp only [World.size_alloc, size_setCell, World.heap_drewN]); (try omega); done)) | (with_reducible refine heap_drew' ?_))))
    have HW : Hid (Below wr.heap.size wr w2) := Lib.hid (((Below.refl _ _).alloc (Nat.le_refl _) _).trans (hq.below.mono (by simp only [World.size_alloc, World.heap_drewN]; omega)))
    clear hq s0 s1 s2 hck HN
    rcases his with rfl | ⟨rfl, hok⟩
    · have c0 := cell_of hw2 0 _ rfl
      have c1 := cell_of hw2 1 _ rfl
      have c2 := cell_of hw2 2 _ rfl
      clear hw2 HU HLE
      generalize ub 65535 x = bad at *
      generalize uv 65535 x = vv at *
      go_wp2_with fail
      go_quiet ((go_at_call 11; exact Calls.quiet_of_same ((heard_any 0 bad (.inl rfl) _).mono fun _ _ ⟨h, q⟩ => ⟨h, q.symm⟩)))
      go_wp2_with fail
      go_roundw
      case rel => exact ⟨k + 1, by omega, by go_num, Below.drewN' (Below.after HR.out HW.out)⟩
      case measure => simp [intOf]; omega
    · obtain ⟨e1, e2⟩ := HU.out _ _ hok
      have hvn : vn ≤ 65535 := by rw [← e1]; exact HLE.out
      rw [e1, e2] at hw2
      have HNM := Lib.hid (fun W => numeral_any vn (Nat.lt_of_le_of_lt hvn (by decide)) W)
      clear e1 e2 hok HU HLE hvn
      have HC := Lib.hid (fun W (h : Below w2.heap.size w2 W) => (show W.cell? ⟨wr.heap.size, 0, none⟩ = some (.bool false) ∧ W.cell? ⟨wr.heap.size, 1, none⟩ = some (.int .u64 (vn : Nat)) ∧ W.cell? ⟨wr.heap.size, 2, none⟩ = some (.string (numS vn)) from ⟨cell_of ((h.block _ (lt_of_block hw2)).trans hw2) 0 _ rfl, cell_of ((h.block _ (lt_of_block hw2)).trans hw2) 1 _ rfl, cell_of ((h.block _ (lt_of_block hw2)).trans hw2) 2 _ rfl⟩))
      have hlt2 := lt_of_block hw2
      clear hw2
      generalize numS vn = tx at *
      obtain ⟨vi, hvi⟩ : ∃ vi : Int, vi = (vn : Nat) := ⟨_, rfl⟩
      rw [← hvi] at HNM HC ⊢
      clear hvi
      have hd1 : Below w2.heap.size w2 w2.drew := (Below.refl _ _).drew
      go_upto_region 12 with fail
      go_region_held3 (fun wx => wx.cell? ⟨wr.heap.size, 0, none⟩ = some (.bool false) ∧ wx.cell? ⟨wr.heap.size, 1, none⟩ = some (.int .u64 vi) ∧ wx.cell? ⟨wr.heap.size, 2, none⟩ = some (.string tx))
        (first
          | (with_reducible exact HC.out _ hd1)
          | (with_reducible exact HC.out _ hd2))
        (first
          | (go_simp; go_at_call 11; refine (heard_any 1 false (.inr ⟨rfl, rfl⟩) _).mono ?_; rintro e w' ⟨rfl, rfl⟩)
          | (go_simp; go_at_call 12; refine (HNM.out _).mono ?_; rintro e w3 ⟨rfl, hb3⟩; have hd2 := Below.after hd1 hb3)
          | fail)
      all_goals (go_wp2_with fail)
      all_goals go_roundw
      all_goals first
        | exact ⟨k + 1, by omega, by go_num, Below.after HR.out (Below.after HW.out hd2)⟩
        | (simp [intOf]; omega)

set_option maxRecDepth 100000 in
set_option maxHeartbeats 6400000 in
theorem nat_uint32 (d : Int) (hd : 0 ≤ d) (hd1 : d ≤ 4294967295) (hx : d / 4294967296 ≤ 0) (v : Value) (l : List ByteArray) (w : World) (hv : Strs w v l) (hl : l.length ≤ 2147483647) (hs : ∀ s ∈ l, s.size ≤ 2147483647) (hE : ErrsAt w) (hT : Tab w) :
    Calls Tryd.prog 7 #[.int .i64 32, .int .u64 d, v, .bool false] w fun e w' => e = .returned (.bool true) ∧ Below w.heap.size w w' := by
  obtain ⟨a, cap, rfl⟩ := hv.len
  have HV := Lib.hid (fun W (h : Below w.heap.size w W) => hv.later h.block)
  have C := Lib.hid (uval_uint32 d hd hd1 _ l w hv hl hs hE hT)
  have HS := Lib.hid hs
  clear hv hE hs hT
  go_enter Tryd.func7, Tryd.ntmps7
  go_wp2_with fail
  refine C.out.mono ?_
  rintro e w1 ⟨rv, rfl, hrow, hb1⟩
  obtain ⟨ra, rc, rfl⟩ := row_form hrow
  have HSA := Lib.hid (fun W (h : Below w1.heap.size w1 W) => (saidU_of hrow).later h)
  have HB1 := Lib.hid hb1
  clear hrow hb1 C
  go_wp2_with fail
  go_loopw [60] (fun vi wr => ∃ k : Nat, k ≤ l.length ∧ vi = .int .i64 k ∧ Below w1.heap.size w1 wr) (fun vi _ => l.length - (intOf vi).toNat)
  case atStart => exact ⟨0, Nat.zero_le _, rfl, Below.refl _ _⟩
  case round =>
    obtain ⟨k, hk, rfl, hr⟩ := hrel
    have HR := Lib.hid hr
    clear hr
    by_cases hlt : k < l.length
    case neg =>
      go_wp2_with fail
      go_ret
      exact ⟨rfl, Below.after HB1.out HR.out⟩
    obtain ⟨sb, so, rfl, s0, s1, s2, slt⟩ := HSA.out wr HR.out k hlt
    obtain ⟨tb, tof, rfl, hc⟩ := (HV.out wr (Below.after HB1.out HR.out)).cell (by omega)
    have hck := hc k hlt
    have tlt : tb < wr.heap.size := by
      rcases Nat.lt_or_ge tb wr.heap.size with h | h
      · exact h
      · simp [World.cell?, Array.getElem?_eq_none h] at hck
    have HN := Lib.hid (fun W => natural_32 l[k] (HS.out l[k] (List.getElem_mem hlt)) W)
    have HU : Hid (∀ v us, pu0 4294967295 l[k].data.toList = .ok v us → uv 4294967295 l[k] = v ∧ ub 4294967295 l[k] = false) := Lib.hid (fun v us h => uv_of h)
    have HLE := Lib.hid (uv_le 4294967295 l[k])
    clear hc
    generalize l[k] = x at *
    go_wp2_with fail
    refine (HN.out _).mono ?_
    rintro e w2 ⟨⟨vn, is, rfl, his⟩, hq⟩
    have hw2 : w2.heap[wr.heap.size]? = some (.cells #[.bool (ub 4294967295 x), .int .u64 (uv 4294967295 x : Nat), .string (numS (uv 4294967295 x))] 31 (0, 0)) := (hq.below.block _ (by simp only [World.size_alloc, World.heap_drewN]; omega)).trans (by (repeat (first | (with_reducible assumption) | ((with_reducible refine heap_past' ?_ ?_); focus ((try simp only [World.size_alloc, size_setCell, World.heap_drewN]); (try omega); done)) | ((with_reducible refine heap_at _ _ _ ?_); focus ((try simp only [World.size_alloc, size_setCell, World.heap_drewN]); (try omega); done)) | ((with_reducible refine heap_ne' ?_ ?_); focus ((try simp only [World.size_alloc, size_setCell, World.heap_drewN]); (try omega); done)) | (with_reducible refine heap_drew' ?_))))
    have HW : Hid (Below wr.heap.size wr w2) := Lib.hid (((Below.refl _ _).alloc (Nat.le_refl _) _).trans (hq.below.mono (by simp only [World.size_alloc, World.heap_drewN]; omega)))
    clear hq s0 s1 s2 hck HN
    rcases his with rfl | ⟨rfl, hok⟩
    · have c0 := cell_of hw2 0 _ rfl
      have c1 := cell_of hw2 1 _ rfl
      have c2 := cell_of hw2 2 _ rfl
      clear hw2 HU HLE
      generalize ub 4294967295 x = bad at *
      generalize uv 4294967295 x = vv at *
      go_wp2_with fail
      go_quiet ((go_at_call 11; exact Calls.quiet_of_same ((heard_any 0 bad (.inl rfl) _).mono fun _ _ ⟨h, q⟩ => ⟨h, q.symm⟩)))
      go_wp2_with fail
      go_roundw
      case rel => exact ⟨k + 1, by omega, by go_num, Below.drewN' (Below.after HR.out HW.out)⟩
      case measure => simp [intOf]; omega
    · obtain ⟨e1, e2⟩ := HU.out _ _ hok
      have hvn : vn ≤ 4294967295 := by rw [← e1]; exact HLE.out
      rw [e1, e2] at hw2
      have HNM := Lib.hid (fun W => numeral_any vn (Nat.lt_of_le_of_lt hvn (by decide)) W)
      clear e1 e2 hok HU HLE hvn
      have HC := Lib.hid (fun W (h : Below w2.heap.size w2 W) => (show W.cell? ⟨wr.heap.size, 0, none⟩ = some (.bool false) ∧ W.cell? ⟨wr.heap.size, 1, none⟩ = some (.int .u64 (vn : Nat)) ∧ W.cell? ⟨wr.heap.size, 2, none⟩ = some (.string (numS vn)) from ⟨cell_of ((h.block _ (lt_of_block hw2)).trans hw2) 0 _ rfl, cell_of ((h.block _ (lt_of_block hw2)).trans hw2) 1 _ rfl, cell_of ((h.block _ (lt_of_block hw2)).trans hw2) 2 _ rfl⟩))
      have hlt2 := lt_of_block hw2
      clear hw2
      generalize numS vn = tx at *
      obtain ⟨vi, hvi⟩ : ∃ vi : Int, vi = (vn : Nat) := ⟨_, rfl⟩
      rw [← hvi] at HNM HC ⊢
      clear hvi
      have hd1 : Below w2.heap.size w2 w2.drew := (Below.refl _ _).drew
      go_upto_region 12 with fail
      go_region_held3 (fun wx => wx.cell? ⟨wr.heap.size, 0, none⟩ = some (.bool false) ∧ wx.cell? ⟨wr.heap.size, 1, none⟩ = some (.int .u64 vi) ∧ wx.cell? ⟨wr.heap.size, 2, none⟩ = some (.string tx))
        (first
          | (with_reducible exact HC.out _ hd1)
          | (with_reducible exact HC.out _ hd2))
        (first
          | (go_simp; go_at_call 11; refine (heard_any 1 false (.inr ⟨rfl, rfl⟩) _).mono ?_; rintro e w' ⟨rfl, rfl⟩)
          | (go_simp; go_at_call 12; refine (HNM.out _).mono ?_; rintro e w3 ⟨rfl, hb3⟩; have hd2 := Below.after hd1 hb3)
          | fail)
      all_goals (go_wp2_with fail)
      all_goals go_roundw
      all_goals first
        | exact ⟨k + 1, by omega, by go_num, Below.after HR.out (Below.after HW.out hd2)⟩
        | (simp [intOf]; omega)

set_option maxRecDepth 100000 in
set_option maxHeartbeats 6400000 in
theorem nat_uint64 (d : Int) (hd : 0 ≤ d) (hd1 : d ≤ 18446744073709551615)  (v : Value) (l : List ByteArray) (w : World) (hv : Strs w v l) (hl : l.length ≤ 2147483647) (hs : ∀ s ∈ l, s.size ≤ 2147483647) (hE : ErrsAt w) (hT : Tab w) :
    Calls Tryd.prog 7 #[.int .i64 64, .int .u64 d, v, .bool false] w fun e w' => e = .returned (.bool true) ∧ Below w.heap.size w w' := by
  obtain ⟨a, cap, rfl⟩ := hv.len
  have HV := Lib.hid (fun W (h : Below w.heap.size w W) => hv.later h.block)
  have C := Lib.hid (uval_uint64 d hd hd1 _ l w hv hl hs hE hT)
  have HS := Lib.hid hs
  clear hv hE hs hT
  go_enter Tryd.func7, Tryd.ntmps7
  go_wp2_with fail
  refine C.out.mono ?_
  rintro e w1 ⟨rv, rfl, hrow, hb1⟩
  obtain ⟨ra, rc, rfl⟩ := row_form hrow
  have HSA := Lib.hid (fun W (h : Below w1.heap.size w1 W) => (saidU_of hrow).later h)
  have HB1 := Lib.hid hb1
  clear hrow hb1 C
  go_wp2_with fail
  go_loopw [60] (fun vi wr => ∃ k : Nat, k ≤ l.length ∧ vi = .int .i64 k ∧ Below w1.heap.size w1 wr) (fun vi _ => l.length - (intOf vi).toNat)
  case atStart => exact ⟨0, Nat.zero_le _, rfl, Below.refl _ _⟩
  case round =>
    obtain ⟨k, hk, rfl, hr⟩ := hrel
    have HR := Lib.hid hr
    clear hr
    by_cases hlt : k < l.length
    case neg =>
      go_wp2_with fail
      go_ret
      exact ⟨rfl, Below.after HB1.out HR.out⟩
    obtain ⟨sb, so, rfl, s0, s1, s2, slt⟩ := HSA.out wr HR.out k hlt
    obtain ⟨tb, tof, rfl, hc⟩ := (HV.out wr (Below.after HB1.out HR.out)).cell (by omega)
    have hck := hc k hlt
    have tlt : tb < wr.heap.size := by
      rcases Nat.lt_or_ge tb wr.heap.size with h | h
      · exact h
      · simp [World.cell?, Array.getElem?_eq_none h] at hck
    have HN := Lib.hid (fun W => natural_64 l[k] (HS.out l[k] (List.getElem_mem hlt)) W)
    have HU : Hid (∀ v us, pu0 18446744073709551615 l[k].data.toList = .ok v us → uv 18446744073709551615 l[k] = v ∧ ub 18446744073709551615 l[k] = false) := Lib.hid (fun v us h => uv_of h)
    have HLE := Lib.hid (uv_le 18446744073709551615 l[k])
    clear hc
    generalize l[k] = x at *
    go_wp2_with fail
    refine (HN.out _).mono ?_
    rintro e w2 ⟨⟨vn, is, rfl, his⟩, hq⟩
    have hw2 : w2.heap[wr.heap.size]? = some (.cells #[.bool (ub 18446744073709551615 x), .int .u64 (uv 18446744073709551615 x : Nat), .string (numS (uv 18446744073709551615 x))] 31 (0, 0)) := (hq.below.block _ (by simp only [World.size_alloc, World.heap_drewN]; omega)).trans (by (repeat (first | (with_reducible assumption) | ((with_reducible refine heap_past' ?_ ?_); focus ((try simp only [World.size_alloc, size_setCell, World.heap_drewN]); (try omega); done)) | ((with_reducible refine heap_at _ _ _ ?_); focus ((try simp only [World.size_alloc, size_setCell, World.heap_drewN]); (try omega); done)) | ((with_reducible refine heap_ne' ?_ ?_); focus ((try simp only [World.size_alloc, size_setCell, World.heap_drewN]); (try omega); done)) | (with_reducible refine heap_drew' ?_))))
    have HW : Hid (Below wr.heap.size wr w2) := Lib.hid (((Below.refl _ _).alloc (Nat.le_refl _) _).trans (hq.below.mono (by simp only [World.size_alloc, World.heap_drewN]; omega)))
    clear hq s0 s1 s2 hck HN
    rcases his with rfl | ⟨rfl, hok⟩
    · have c0 := cell_of hw2 0 _ rfl
      have c1 := cell_of hw2 1 _ rfl
      have c2 := cell_of hw2 2 _ rfl
      clear hw2 HU HLE
      generalize ub 18446744073709551615 x = bad at *
      generalize uv 18446744073709551615 x = vv at *
      go_wp2_with fail
      go_quiet ((go_at_call 11; exact Calls.quiet_of_same ((heard_any 0 bad (.inl rfl) _).mono fun _ _ ⟨h, q⟩ => ⟨h, q.symm⟩)))
      go_wp2_with fail
      go_roundw
      case rel => exact ⟨k + 1, by omega, by go_num, Below.drewN' (Below.after HR.out HW.out)⟩
      case measure => simp [intOf]; omega
    · obtain ⟨e1, e2⟩ := HU.out _ _ hok
      have hvn : vn ≤ 18446744073709551615 := by rw [← e1]; exact HLE.out
      rw [e1, e2] at hw2
      have HNM := Lib.hid (fun W => numeral_any vn (Nat.lt_of_le_of_lt hvn (by decide)) W)
      clear e1 e2 hok HU HLE hvn
      have HC := Lib.hid (fun W (h : Below w2.heap.size w2 W) => (show W.cell? ⟨wr.heap.size, 0, none⟩ = some (.bool false) ∧ W.cell? ⟨wr.heap.size, 1, none⟩ = some (.int .u64 (vn : Nat)) ∧ W.cell? ⟨wr.heap.size, 2, none⟩ = some (.string (numS vn)) from ⟨cell_of ((h.block _ (lt_of_block hw2)).trans hw2) 0 _ rfl, cell_of ((h.block _ (lt_of_block hw2)).trans hw2) 1 _ rfl, cell_of ((h.block _ (lt_of_block hw2)).trans hw2) 2 _ rfl⟩))
      have hlt2 := lt_of_block hw2
      clear hw2
      generalize numS vn = tx at *
      obtain ⟨vi, hvi⟩ : ∃ vi : Int, vi = (vn : Nat) := ⟨_, rfl⟩
      rw [← hvi] at HNM HC ⊢
      clear hvi
      have hd1 : Below w2.heap.size w2 w2.drew := (Below.refl _ _).drew
      go_upto_region 12 with fail
      go_region_held3 (fun wx => wx.cell? ⟨wr.heap.size, 0, none⟩ = some (.bool false) ∧ wx.cell? ⟨wr.heap.size, 1, none⟩ = some (.int .u64 vi) ∧ wx.cell? ⟨wr.heap.size, 2, none⟩ = some (.string tx))
        (first
          | (with_reducible exact HC.out _ hd1)
          | (with_reducible exact HC.out _ hd2))
        (first
          | (go_simp; go_at_call 11; refine (heard_any 1 false (.inr ⟨rfl, rfl⟩) _).mono ?_; rintro e w' ⟨rfl, rfl⟩)
          | (go_simp; go_at_call 12; refine (HNM.out _).mono ?_; rintro e w3 ⟨rfl, hb3⟩; have hd2 := Below.after hd1 hb3)
          | fail)
      all_goals (go_wp2_with fail)
      all_goals go_roundw
      all_goals first
        | exact ⟨k + 1, by omega, by go_num, Below.after HR.out (Below.after HW.out hd2)⟩
        | (simp [intOf]; omega)

set_option maxRecDepth 100000 in
theorem nat_none (b d : Int) (v : Value) (h1 : (b != 0) = true) (h2 : (b != 8) = true) (h3 : (b != 16) = true) (h4 : (b != 32) = true) (h5 : (b != 64) = true) (w : World) : Calls Tryd.prog 7 #[.int .i64 b, .int .u64 d, v, .bool false] w fun e w' => e = .returned (.bool true) ∧ w = w' := by
  go_enter Tryd.func7, Tryd.ntmps7
  go_wp2_with fail
  go_ret
  exact ⟨rfl, rfl⟩
set_option maxRecDepth 100000 in
theorem nat_out8 (d : Int) (v : Value) (hd : 0 ≤ d) (hd1 : d ≤ 18446744073709551615) (hx : 0 < d / 256) (w : World) : Calls Tryd.prog 7 #[.int .i64 8, .int .u64 d, v, .bool false] w fun e w' => e = .returned (.bool true) ∧ w = w' := by
  go_enter Tryd.func7, Tryd.ntmps7
  go_wp2_with fail
  go_ret
  exact ⟨rfl, rfl⟩
set_option maxRecDepth 100000 in
theorem nat_out16 (d : Int) (v : Value) (hd : 0 ≤ d) (hd1 : d ≤ 18446744073709551615) (hx : 0 < d / 65536) (w : World) : Calls Tryd.prog 7 #[.int .i64 16, .int .u64 d, v, .bool false] w fun e w' => e = .returned (.bool true) ∧ w = w' := by
  go_enter Tryd.func7, Tryd.ntmps7
  go_wp2_with fail
  go_ret
  exact ⟨rfl, rfl⟩
set_option maxRecDepth 100000 in
theorem nat_out32 (d : Int) (v : Value) (hd : 0 ≤ d) (hd1 : d ≤ 18446744073709551615) (hx : 0 < d / 4294967296) (w : World) : Calls Tryd.prog 7 #[.int .i64 32, .int .u64 d, v, .bool false] w fun e w' => e = .returned (.bool true) ∧ w = w' := by
  go_enter Tryd.func7, Tryd.ntmps7
  go_wp2_with fail
  go_ret
  exact ⟨rfl, rfl⟩

theorem naturals_any (b d : Int) (hd : 0 ≤ d) (hd1 : d ≤ 18446744073709551615) (v : Value) (l : List ByteArray) (w : World) (hv : Strs w v l) (hl : l.length ≤ 2147483647) (hs : ∀ s ∈ l, s.size ≤ 2147483647) (hE : ErrsAt w) (hT : Tab w) :
    Calls Tryd.prog 7 #[.int .i64 b, .int .u64 d, v, .bool false] w fun e w' => e = .returned (.bool true) ∧ Below w.heap.size w w' := by
  have same : ∀ {e : Ending} {w' : World}, (e = .returned (.bool true) ∧ w = w') → e = .returned (.bool true) ∧ Below w.heap.size w w' := fun ⟨h1, h2⟩ => ⟨h1, by rw [← h2]; exact Below.refl _ _⟩
  by_cases q0 : b = 0
  · subst q0; exact nat_uint d hd hd1 v l w hv hl hs hE hT
  by_cases q5 : b = 64
  · subst q5; exact nat_uint64 d hd hd1 v l w hv hl hs hE hT
  by_cases q1 : b = 8
  · subst q1
    by_cases hx : 0 < d / 256
    · exact (nat_out8 d v hd hd1 hx w).mono fun _ _ h => same h
    · exact nat_uint8 d hd (by omega) (by omega) v l w hv hl hs hE hT
  by_cases q2 : b = 16
  · subst q2
    by_cases hx : 0 < d / 65536
    · exact (nat_out16 d v hd hd1 hx w).mono fun _ _ h => same h
    · exact nat_uint16 d hd (by omega) (by omega) v l w hv hl hs hE hT
  by_cases q3 : b = 32
  · subst q3
    by_cases hx : 0 < d / 4294967296
    · exact (nat_out32 d v hd hd1 hx w).mono fun _ _ h => same h
    · exact nat_uint32 d hd (by omega) (by omega) v l w hv hl hs hE hT
  exact (nat_none b d v (by simp; omega) (by simp; omega) (by simp; omega) (by simp; omega) (by simp; omega) w).mono fun _ _ h => same h

theorem fnUints_law (b d : Int) (hd : 0 ≤ d) (hd1 : d ≤ 18446744073709551615) (v : Value) (l : List ByteArray) (w : World) (hv : Strs w v l) (hl : l.length ≤ 9223372036854775807) (hE : ErrsAt w) (hT : Tab w) :
    Calls Tryd.prog 3 #[.int .i64 b, .int .u64 d, v] w fun e w' => e = .returned (.bool true) ∧ Below w.heap.size w w' := by
  have F := Lib.hid (fits2_any v l w hv hl)
  have C := Lib.hid (fun (h : SmallL l) => naturals_any b d hd hd1 v l w hv h.1 h.2 hE hT)
  obtain ⟨a, cap, rfl⟩ := hv.len
  clear hv hE hT
  go_enter Tryd.func3, Tryd.ntmps3
  go_wp2_with fail
  refine F.out.mono ?_
  rintro e w' ⟨⟨b, rfl, hb⟩, rfl⟩
  cases b with
  | false =>
    go_wp2_with fail
    go_ret
    exact ⟨rfl, Below.refl _ _⟩
  | true =>
    have C2 := Lib.hid (C.out (hb rfl))
    clear hb
    go_wp2_with fail
    refine C2.out.mono ?_
    rintro e w2 ⟨rfl, hb2⟩
    have HB := Lib.hid hb2
    clear hb2
    go_wp2_with fail
    go_ret
    exact ⟨rfl, HB.out⟩
end Go.Proofs.YthodlepbmnbflaaDoor
