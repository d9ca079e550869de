/- The law FnUintsBack: what an unsigned value says is taken, and is the same. (Printed by gen_ub.py.) -/
import Derived.Test.YthodlepbmnbflaaDoorUImp0
import Derived.Test.YthodlepbmnbflaaDoorUImp8
import Derived.Test.YthodlepbmnbflaaDoorUImp16
import Derived.Test.YthodlepbmnbflaaDoorUImp32
import Derived.Test.YthodlepbmnbflaaDoorUImp64
import Derived.Test.YthodlepbmnbflaaDoorPuDec
import Derived.Laws.StructEq
import Derived.Laws.Bits64b
namespace Go.Proofs.YthodlepbmnbflaaDoor
open Go.RowKit
set_option linter.unusedVariables false
set_option linter.unusedSimpArgs false

theorem or_small {d o : Int} (hd : 0 ≤ d) (hd1 : d ≤ 18446744073709551615) (ho : 0 ≤ o) (ho1 : o ≤ 18446744073709551615) {k : Int} (hk : 0 < k) (h : ¬ 0 < bits .or .u64 d o / k) : d < k ∧ o < k := by
  obtain ⟨a, rfl⟩ : ∃ a : Nat, d = a := ⟨d.toNat, by omega⟩
  obtain ⟨b, rfl⟩ : ∃ b : Nat, o = b := ⟨o.toNat, by omega⟩
  rw [bits_or_u64_nat a b (by omega) (by omega)] at h
  have h1 : a ≤ a ||| b := Nat.left_le_or
  have h2 : b ≤ a ||| b := Nat.right_le_or
  have h3 : ((a ||| b : Nat) : Int) < k := by
    rcases Int.lt_or_le ((a ||| b : Nat) : Int) k with h' | h'
    · exact h'
    · exfalso
      apply h
      have : 1 ≤ ((a ||| b : Nat) : Int) / k := Int.le_ediv_of_mul_le hk (by omega)
      omega
  omega

/-- The one row that is told of one text. -/
def RowU (w : World) (a : Option Addr) (b : Bool) (v : Nat) : Prop := ∃ q off, a = some ⟨q, off, none⟩ ∧ q < w.heap.size ∧ w.cell? ⟨q, off, none⟩ = some (.bool b) ∧ w.cell? ⟨q, off + 1, none⟩ = some (.int .u64 (v : Nat)) ∧ w.cell? ⟨q, off + 2, none⟩ = some (.string (numS v))
theorem rowU_of {w : World} {base : Nat} {a : Option Addr} {c M : Nat} {s : ByteArray} (h : w.ownsRow base 31 3 (.slice a 1 c) 1 (flatU M [s])) : RowU w a (ub M s) (uv M s) := by
  rcases h.2 with ⟨e, hn⟩ | ⟨b, cap, cur, e, hb, hh, hnc, hcm, hcs, ht⟩
  · omega
  · cases e
    have q0 : (flatU M [s])[0]? = some (.bool (ub M s)) := rfl
    have q1 : (flatU M [s])[1]? = some (.int .u64 (uv M s : Nat)) := rfl
    have q2 : (flatU M [s])[2]? = some (.string (numS (uv M s))) := rfl
    rw [← ht, List.getElem?_take, if_pos (by omega), Array.getElem?_toList] at q0 q1 q2
    exact ⟨b, 0, rfl, lt_of_block hh, by simp [World.cell?, hh, q0], by simp [World.cell?, hh, q1], by simp [World.cell?, hh, q2]⟩
theorem RowU.later {w w' : World} {a : Option Addr} {b : Bool} {v : Nat} (h : RowU w a b v) (hb : Below w.heap.size w w') : RowU w' a b v := by
  obtain ⟨q, off, e, hlt, c0, c1, c2⟩ := h
  have := hb.size
  exact ⟨q, off, e, by omega, (hb.cell (p := ⟨q, _, none⟩) hlt).trans c0, (hb.cell (p := ⟨q, _, none⟩) hlt).trans c1, (hb.cell (p := ⟨q, _, none⟩) hlt).trans c2⟩
theorem numS_size {u : Nat} (h : u < 18446744073709551616) : (numS u).size ≤ 2147483647 := by
  have e : (numS u).size = (Lib.decDigits u).length := by simp [numS, ByteArray.size]
  rw [e, Lib.decDigits_length]
  by_cases h0 : u = 0
  · subst h0; rw [← Lib.decDigits_length, Lib.decDigits_one (by omega)]; decide
  · have := Lib.numDigits_eq u (by omega) h
    split at this <;> omega
theorem back_row {M : Nat} (s : ByteArray) (h : ub M s = false) : uv M (numS (uv M s)) = uv M s ∧ ub M (numS (uv M s)) = false := by
  have e : (numS (uv M s)).data.toList = Lib.decDigits (uv M s) := by simp [numS]
  have hp := pu0_dec (M := M) (uv M s) (uv_le M s)
  rw [uv, ub, e, hp]
  exact ⟨rfl, rfl⟩
theorem said_guard : Tryd.prog.eqGuardType Tryd.prog.depth 31 = false := by kernel_rfl
theorem said_eql (b : Bool) (v : Int) (x : ByteArray) (w : World) : (binOp .eql 31 (.agg #[.bool b, .int .u64 v, .string x]) (.agg #[.bool b, .int .u64 v, .string x])).run Tryd.prog w = .ok (.bool true) w := by
  rw [run_eql_struct, run_equalIn_struct (P := Tryd.prog) w 9999 31 _ _ (by kernel_rfl) (by kernel_rfl)]
  have h3 := Tryd.underlying22
  have h4 := Tryd.underlying4
  have h9 := Tryd.underlying9
  simp only [Program.fieldsOf, Tryd.underlying31]
  go_simp

set_option maxRecDepth 100000 in
set_option maxHeartbeats 3200000 in
theorem back_uint (d o : Int) (hd : 0 ≤ d) (hd1 : d ≤ 18446744073709551615) (ho : 0 ≤ o) (ho1 : o ≤ 18446744073709551615)  (s : ByteArray) (hs : s.size ≤ 2147483647) (w : World) (hE : ErrsAt w) (hT : Tab w) :
    Calls Tryd.prog 4 #[.int .i64 0, .int .u64 d, .int .u64 o, .string s] w fun e w' => e = .returned (.bool true) ∧ Below w.heap.size w w' := by
  have hB1 : Below w.heap.size w (w.alloc (.cells #[.string s] 9)) := (Below.refl _ _).alloc (Nat.le_refl _) _
  have C1 := Lib.hid (uval_uint d hd hd1 (.slice (some ⟨w.heap.size, 0, none⟩) 1 1) [s] (w.alloc (.cells #[.string s] 9)) (Strs.made [s] 1 (heap_at w (.cells #[.string s] 9) _ rfl)) (by simp) (by simpa using hs) (hE.later hB1.block) (hT.later hB1))
  have HB1 := Lib.hid hB1
  have HE := Lib.hid (fun W (h : Below w.heap.size w W) => hE.later h.block)
  have HT := Lib.hid (fun W (h : Below w.heap.size w W) => hT.later h)
  have s0 : (s.size : Int) ≤ 2147483647 := by omega
  clear hE hT hB1
  go_enter Tryd.func4, Tryd.ntmps4
  go_wp2_with fail
  refine C1.out.mono ?_
  rintro e w2 ⟨rv, rfl, hrow, hb2⟩
  obtain ⟨ra, rc, rfl⟩ := row_form hrow
  have HB2 := Lib.hid (Below.after HB1.out hb2)
  obtain ⟨q, off, rfl, hlt, c0, c1, c2⟩ := rowU_of hrow
  have HR := Lib.hid (rowU_of hrow)
  simp only [List.length_cons, List.length_nil, Nat.zero_add]
  clear hrow hb2 C1 HB1
  have HBK := Lib.hid (back_row (M := 18446744073709551615) s)
  have HLE := Lib.hid (numS_size (u := uv 18446744073709551615 s) (Nat.lt_of_le_of_lt (uv_le _ s) (by decide)))
  cases hub : ub 18446744073709551615 s with
  | true =>
    rw [hub] at c0
    clear hub
    go_wp2_with fail
    go_ret
    exact ⟨rfl, HB2.out⟩
  | false =>
    rw [hub] at c0
    have HBB := Lib.hid (HBK.out hub)
    have HR0 : Hid (RowU w2 (some ⟨q, off, none⟩) false (uv 18446744073709551615 s)) := Lib.hid (by have := HR.out; rw [hub] at this; exact this)
    clear hub HBK HR
    generalize uv 18446744073709551615 s = vn at *
    have hB3 : Below w2.heap.size w2 (w2.alloc (.cells #[.string (numS vn)] 9)) := (Below.refl _ _).alloc (Nat.le_refl _) _
    have C2 := Lib.hid (uval_uint o ho ho1 (.slice (some ⟨w2.heap.size, 0, none⟩) 1 1) [numS vn] (w2.alloc (.cells #[.string (numS vn)] 9)) (Strs.made [numS vn] 1 (heap_at w2 (.cells #[.string (numS vn)] 9) _ rfl)) (by simp) (by simpa using HLE.out) (HE.out _ (Below.after HB2.out hB3)) (HT.out _ (Below.after HB2.out hB3)))
    have HB3 := Lib.hid hB3
    have hwd : w.heap.size ≤ w2.heap.size := HB2.out.size
    clear hB3
    go_wp2_with fail
    refine C2.out.mono ?_
    rintro e w4 ⟨rv, rfl, hrow, hb4⟩
    obtain ⟨ra, rc, rfl⟩ := row_form hrow
    have hb5 := Below.after HB3.out hb4
    have HB4 := Lib.hid (Below.after HB2.out hb5)
    have hR2 := rowU_of hrow
    rw [HBB.out.1, HBB.out.2] at hR2
    obtain ⟨q2, off2, rfl, hlt2, x0, x1, x2⟩ := hR2
    obtain ⟨q', off', e', hlt', y0, y1, y2⟩ := HR0.out.later hb5
    cases e'
    have hsq := said_eql false vn (numS vn)
    simp only [List.length_cons, List.length_nil, Nat.zero_add]
    clear hrow hb4 hb5 c0 c1 c2 C2
    go_wp2_with fail
    go_quiet (fail)
    go_wp2_with fail
    go_ret
    exact ⟨rfl, Below.drewN' HB4.out⟩

set_option maxRecDepth 100000 in
set_option maxHeartbeats 3200000 in
theorem back_uint8 (d o : Int) (hd : 0 ≤ d) (hd1 : d ≤ 255) (ho : 0 ≤ o) (ho1 : o ≤ 255) (hx : bits .or .u64 d o / 256 ≤ 0) (s : ByteArray) (hs : s.size ≤ 2147483647) (w : World) (hE : ErrsAt w) (hT : Tab w) :
    Calls Tryd.prog 4 #[.int .i64 8, .int .u64 d, .int .u64 o, .string s] w fun e w' => e = .returned (.bool true) ∧ Below w.heap.size w w' := by
  have hB1 : Below w.heap.size w (w.alloc (.cells #[.string s] 9)) := (Below.refl _ _).alloc (Nat.le_refl _) _
  have C1 := Lib.hid (uval_uint8 d hd hd1 (.slice (some ⟨w.heap.size, 0, none⟩) 1 1) [s] (w.alloc (.cells #[.string s] 9)) (Strs.made [s] 1 (heap_at w (.cells #[.string s] 9) _ rfl)) (by simp) (by simpa using hs) (hE.later hB1.block) (hT.later hB1))
  have HB1 := Lib.hid hB1
  have HE := Lib.hid (fun W (h : Below w.heap.size w W) => hE.later h.block)
  have HT := Lib.hid (fun W (h : Below w.heap.size w W) => hT.later h)
  have s0 : (s.size : Int) ≤ 2147483647 := by omega
  clear hE hT hB1
  go_enter Tryd.func4, Tryd.ntmps4
  go_wp2_with fail
  refine C1.out.mono ?_
  rintro e w2 ⟨rv, rfl, hrow, hb2⟩
  obtain ⟨ra, rc, rfl⟩ := row_form hrow
  have HB2 := Lib.hid (Below.after HB1.out hb2)
  obtain ⟨q, off, rfl, hlt, c0, c1, c2⟩ := rowU_of hrow
  have HR := Lib.hid (rowU_of hrow)
  simp only [List.length_cons, List.length_nil, Nat.zero_add]
  clear hrow hb2 C1 HB1
  have HBK := Lib.hid (back_row (M := 255) s)
  have HLE := Lib.hid (numS_size (u := uv 255 s) (Nat.lt_of_le_of_lt (uv_le _ s) (by decide)))
  cases hub : ub 255 s with
  | true =>
    rw [hub] at c0
    clear hub
    go_wp2_with fail
    go_ret
    exact ⟨rfl, HB2.out⟩
  | false =>
    rw [hub] at c0
    have HBB := Lib.hid (HBK.out hub)
    have HR0 : Hid (RowU w2 (some ⟨q, off, none⟩) false (uv 255 s)) := Lib.hid (by have := HR.out; rw [hub] at this; exact this)
    clear hub HBK HR
    generalize uv 255 s = vn at *
    have hB3 : Below w2.heap.size w2 (w2.alloc (.cells #[.string (numS vn)] 9)) := (Below.refl _ _).alloc (Nat.le_refl _) _
    have C2 := Lib.hid (uval_uint8 o ho ho1 (.slice (some ⟨w2.heap.size, 0, none⟩) 1 1) [numS vn] (w2.alloc (.cells #[.string (numS vn)] 9)) (Strs.made [numS vn] 1 (heap_at w2 (.cells #[.string (numS vn)] 9) _ rfl)) (by simp) (by simpa using HLE.out) (HE.out _ (Below.after HB2.out hB3)) (HT.out _ (Below.after HB2.out hB3)))
    have HB3 := Lib.hid hB3
    have hwd : w.heap.size ≤ w2.heap.size := HB2.out.size
    clear hB3
    go_wp2_with fail
    refine C2.out.mono ?_
    rintro e w4 ⟨rv, rfl, hrow, hb4⟩
    obtain ⟨ra, rc, rfl⟩ := row_form hrow
    have hb5 := Below.after HB3.out hb4
    have HB4 := Lib.hid (Below.after HB2.out hb5)
    have hR2 := rowU_of hrow
    rw [HBB.out.1, HBB.out.2] at hR2
    obtain ⟨q2, off2, rfl, hlt2, x0, x1, x2⟩ := hR2
    obtain ⟨q', off', e', hlt', y0, y1, y2⟩ := HR0.out.later hb5
    cases e'
    have hsq := said_eql false vn (numS vn)
    simp only [List.length_cons, List.length_nil, Nat.zero_add]
    clear hrow hb4 hb5 c0 c1 c2 C2
    go_wp2_with fail
    go_quiet (fail)
    go_wp2_with fail
    go_ret
    exact ⟨rfl, Below.drewN' HB4.out⟩

set_option maxRecDepth 100000 in
set_option maxHeartbeats 3200000 in
theorem back_uint16 (d o : Int) (hd : 0 ≤ d) (hd1 : d ≤ 65535) (ho : 0 ≤ o) (ho1 : o ≤ 65535) (hx : bits .or .u64 d o / 65536 ≤ 0) (s : ByteArray) (hs : s.size ≤ 2147483647) (w : World) (hE : ErrsAt w) (hT : Tab w) :
    Calls Tryd.prog 4 #[.int .i64 16, .int .u64 d, .int .u64 o, .string s] w fun e w' => e = .returned (.bool true) ∧ Below w.heap.size w w' := by
  have hB1 : Below w.heap.size w (w.alloc (.cells #[.string s] 9)) := (Below.refl _ _).alloc (Nat.le_refl _) _
  have C1 := Lib.hid (uval_uint16 d hd hd1 (.slice (some ⟨w.heap.size, 0, none⟩) 1 1) [s] (w.alloc (.cells #[.string s] 9)) (Strs.made [s] 1 (heap_at w (.cells #[.string s] 9) _ rfl)) (by simp) (by simpa using hs) (hE.later hB1.block) (hT.later hB1))
  have HB1 := Lib.hid hB1
  have HE := Lib.hid (fun W (h : Below w.heap.size w W) => hE.later h.block)
  have HT := Lib.hid (fun W (h : Below w.heap.size w W) => hT.later h)
  have s0 : (s.size : Int) ≤ 2147483647 := by omega
  clear hE hT hB1
  go_enter Tryd.func4, Tryd.ntmps4
  go_wp2_with fail
  refine C1.out.mono ?_
  rintro e w2 ⟨rv, rfl, hrow, hb2⟩
  obtain ⟨ra, rc, rfl⟩ := row_form hrow
  have HB2 := Lib.hid (Below.after HB1.out hb2)
  obtain ⟨q, off, rfl, hlt, c0, c1, c2⟩ := rowU_of hrow
  have HR := Lib.hid (rowU_of hrow)
  simp only [List.length_cons, List.length_nil, Nat.zero_add]
  clear hrow hb2 C1 HB1
  have HBK := Lib.hid (back_row (M := 65535) s)
  have HLE := Lib.hid (numS_size (u := uv 65535 s) (Nat.lt_of_le_of_lt (uv_le _ s) (by decide)))
  cases hub : ub 65535 s with
  | true =>
    rw [hub] at c0
    clear hub
    go_wp2_with fail
    go_ret
    exact ⟨rfl, HB2.out⟩
  | false =>
    rw [hub] at c0
    have HBB := Lib.hid (HBK.out hub)
    have HR0 : Hid (RowU w2 (some ⟨q, off, none⟩) false (uv 65535 s)) := Lib.hid (by have := HR.out; rw [hub] at this; exact this)
    clear hub HBK HR
    generalize uv 65535 s = vn at *
    have hB3 : Below w2.heap.size w2 (w2.alloc (.cells #[.string (numS vn)] 9)) := (Below.refl _ _).alloc (Nat.le_refl _) _
    have C2 := Lib.hid (uval_uint16 o ho ho1 (.slice (some ⟨w2.heap.size, 0, none⟩) 1 1) [numS vn] (w2.alloc (.cells #[.string (numS vn)] 9)) (Strs.made [numS vn] 1 (heap_at w2 (.cells #[.string (numS vn)] 9) _ rfl)) (by simp) (by simpa using HLE.out) (HE.out _ (Below.after HB2.out hB3)) (HT.out _ (Below.after HB2.out hB3)))
    have HB3 := Lib.hid hB3
    have hwd : w.heap.size ≤ w2.heap.size := HB2.out.size
    clear hB3
    go_wp2_with fail
    refine C2.out.mono ?_
    rintro e w4 ⟨rv, rfl, hrow, hb4⟩
    obtain ⟨ra, rc, rfl⟩ := row_form hrow
    have hb5 := Below.after HB3.out hb4
    have HB4 := Lib.hid (Below.after HB2.out hb5)
    have hR2 := rowU_of hrow
    rw [HBB.out.1, HBB.out.2] at hR2
    obtain ⟨q2, off2, rfl, hlt2, x0, x1, x2⟩ := hR2
    obtain ⟨q', off', e', hlt', y0, y1, y2⟩ := HR0.out.later hb5
    cases e'
    have hsq := said_eql false vn (numS vn)
    simp only [List.length_cons, List.length_nil, Nat.zero_add]
    clear hrow hb4 hb5 c0 c1 c2 C2
    go_wp2_with fail
    go_quiet (fail)
    go_wp2_with fail
    go_ret
    exact ⟨rfl, Below.drewN' HB4.out⟩

set_option maxRecDepth 100000 in
set_option maxHeartbeats 3200000 in
theorem back_uint32 (d o : Int) (hd : 0 ≤ d) (hd1 : d ≤ 4294967295) (ho : 0 ≤ o) (ho1 : o ≤ 4294967295) (hx : bits .or .u64 d o / 4294967296 ≤ 0) (s : ByteArray) (hs : s.size ≤ 2147483647) (w : World) (hE : ErrsAt w) (hT : Tab w) :
    Calls Tryd.prog 4 #[.int .i64 32, .int .u64 d, .int .u64 o, .string s] w fun e w' => e = .returned (.bool true) ∧ Below w.heap.size w w' := by
  have hB1 : Below w.heap.size w (w.alloc (.cells #[.string s] 9)) := (Below.refl _ _).alloc (Nat.le_refl _) _
  have C1 := Lib.hid (uval_uint32 d hd hd1 (.slice (some ⟨w.heap.size, 0, none⟩) 1 1) [s] (w.alloc (.cells #[.string s] 9)) (Strs.made [s] 1 (heap_at w (.cells #[.string s] 9) _ rfl)) (by simp) (by simpa using hs) (hE.later hB1.block) (hT.later hB1))
  have HB1 := Lib.hid hB1
  have HE := Lib.hid (fun W (h : Below w.heap.size w W) => hE.later h.block)
  have HT := Lib.hid (fun W (h : Below w.heap.size w W) => hT.later h)
  have s0 : (s.size : Int) ≤ 2147483647 := by omega
  clear hE hT hB1
  go_enter Tryd.func4, Tryd.ntmps4
  go_wp2_with fail
  refine C1.out.mono ?_
  rintro e w2 ⟨rv, rfl, hrow, hb2⟩
  obtain ⟨ra, rc, rfl⟩ := row_form hrow
  have HB2 := Lib.hid (Below.after HB1.out hb2)
  obtain ⟨q, off, rfl, hlt, c0, c1, c2⟩ := rowU_of hrow
  have HR := Lib.hid (rowU_of hrow)
  simp only [List.length_cons, List.length_nil, Nat.zero_add]
  clear hrow hb2 C1 HB1
  have HBK := Lib.hid (back_row (M := 4294967295) s)
  have HLE := Lib.hid (numS_size (u := uv 4294967295 s) (Nat.lt_of_le_of_lt (uv_le _ s) (by decide)))
  cases hub : ub 4294967295 s with
  | true =>
    rw [hub] at c0
    clear hub
    go_wp2_with fail
    go_ret
    exact ⟨rfl, HB2.out⟩
  | false =>
    rw [hub] at c0
    have HBB := Lib.hid (HBK.out hub)
    have HR0 : Hid (RowU w2 (some ⟨q, off, none⟩) false (uv 4294967295 s)) := Lib.hid (by have := HR.out; rw [hub] at this; exact this)
    clear hub HBK HR
    generalize uv 4294967295 s = vn at *
    have hB3 : Below w2.heap.size w2 (w2.alloc (.cells #[.string (numS vn)] 9)) := (Below.refl _ _).alloc (Nat.le_refl _) _
    have C2 := Lib.hid (uval_uint32 o ho ho1 (.slice (some ⟨w2.heap.size, 0, none⟩) 1 1) [numS vn] (w2.alloc (.cells #[.string (numS vn)] 9)) (Strs.made [numS vn] 1 (heap_at w2 (.cells #[.string (numS vn)] 9) _ rfl)) (by simp) (by simpa using HLE.out) (HE.out _ (Below.after HB2.out hB3)) (HT.out _ (Below.after HB2.out hB3)))
    have HB3 := Lib.hid hB3
    have hwd : w.heap.size ≤ w2.heap.size := HB2.out.size
    clear hB3
    go_wp2_with fail
    refine C2.out.mono ?_
    rintro e w4 ⟨rv, rfl, hrow, hb4⟩
    obtain ⟨ra, rc, rfl⟩ := row_form hrow
    have hb5 := Below.after HB3.out hb4
    have HB4 := Lib.hid (Below.after HB2.out hb5)
    have hR2 := rowU_of hrow
    rw [HBB.out.1, HBB.out.2] at hR2
    obtain ⟨q2, off2, rfl, hlt2, x0, x1, x2⟩ := hR2
    obtain ⟨q', off', e', hlt', y0, y1, y2⟩ := HR0.out.later hb5
    cases e'
    have hsq := said_eql false vn (numS vn)
    simp only [List.length_cons, List.length_nil, Nat.zero_add]
    clear hrow hb4 hb5 c0 c1 c2 C2
    go_wp2_with fail
    go_quiet (fail)
    go_wp2_with fail
    go_ret
    exact ⟨rfl, Below.drewN' HB4.out⟩

set_option maxRecDepth 100000 in
set_option maxHeartbeats 3200000 in
theorem back_uint64 (d o : Int) (hd : 0 ≤ d) (hd1 : d ≤ 18446744073709551615) (ho : 0 ≤ o) (ho1 : o ≤ 18446744073709551615)  (s : ByteArray) (hs : s.size ≤ 2147483647) (w : World) (hE : ErrsAt w) (hT : Tab w) :
    Calls Tryd.prog 4 #[.int .i64 64, .int .u64 d, .int .u64 o, .string s] w fun e w' => e = .returned (.bool true) ∧ Below w.heap.size w w' := by
  have hB1 : Below w.heap.size w (w.alloc (.cells #[.string s] 9)) := (Below.refl _ _).alloc (Nat.le_refl _) _
  have C1 := Lib.hid (uval_uint64 d hd hd1 (.slice (some ⟨w.heap.size, 0, none⟩) 1 1) [s] (w.alloc (.cells #[.string s] 9)) (Strs.made [s] 1 (heap_at w (.cells #[.string s] 9) _ rfl)) (by simp) (by simpa using hs) (hE.later hB1.block) (hT.later hB1))
  have HB1 := Lib.hid hB1
  have HE := Lib.hid (fun W (h : Below w.heap.size w W) => hE.later h.block)
  have HT := Lib.hid (fun W (h : Below w.heap.size w W) => hT.later h)
  have s0 : (s.size : Int) ≤ 2147483647 := by omega
  clear hE hT hB1
  go_enter Tryd.func4, Tryd.ntmps4
  go_wp2_with fail
  refine C1.out.mono ?_
  rintro e w2 ⟨rv, rfl, hrow, hb2⟩
  obtain ⟨ra, rc, rfl⟩ := row_form hrow
  have HB2 := Lib.hid (Below.after HB1.out hb2)
  obtain ⟨q, off, rfl, hlt, c0, c1, c2⟩ := rowU_of hrow
  have HR := Lib.hid (rowU_of hrow)
  simp only [List.length_cons, List.length_nil, Nat.zero_add]
  clear hrow hb2 C1 HB1
  have HBK := Lib.hid (back_row (M := 18446744073709551615) s)
  have HLE := Lib.hid (numS_size (u := uv 18446744073709551615 s) (Nat.lt_of_le_of_lt (uv_le _ s) (by decide)))
  cases hub : ub 18446744073709551615 s with
  | true =>
    rw [hub] at c0
    clear hub
    go_wp2_with fail
    go_ret
    exact ⟨rfl, HB2.out⟩
  | false =>
    rw [hub] at c0
    have HBB := Lib.hid (HBK.out hub)
    have HR0 : Hid (RowU w2 (some ⟨q, off, none⟩) false (uv 18446744073709551615 s)) := Lib.hid (by have := HR.out; rw [hub] at this; exact this)
    clear hub HBK HR
    generalize uv 18446744073709551615 s = vn at *
    have hB3 : Below w2.heap.size w2 (w2.alloc (.cells #[.string (numS vn)] 9)) := (Below.refl _ _).alloc (Nat.le_refl _) _
    have C2 := Lib.hid (uval_uint64 o ho ho1 (.slice (some ⟨w2.heap.size, 0, none⟩) 1 1) [numS vn] (w2.alloc (.cells #[.string (numS vn)] 9)) (Strs.made [numS vn] 1 (heap_at w2 (.cells #[.string (numS vn)] 9) _ rfl)) (by simp) (by simpa using HLE.out) (HE.out _ (Below.after HB2.out hB3)) (HT.out _ (Below.after HB2.out hB3)))
    have HB3 := Lib.hid hB3
    have hwd : w.heap.size ≤ w2.heap.size := HB2.out.size
    clear hB3
    go_wp2_with fail
    refine C2.out.mono ?_
    rintro e w4 ⟨rv, rfl, hrow, hb4⟩
    obtain ⟨ra, rc, rfl⟩ := row_form hrow
    have hb5 := Below.after HB3.out hb4
    have HB4 := Lib.hid (Below.after HB2.out hb5)
    have hR2 := rowU_of hrow
    rw [HBB.out.1, HBB.out.2] at hR2
    obtain ⟨q2, off2, rfl, hlt2, x0, x1, x2⟩ := hR2
    obtain ⟨q', off', e', hlt', y0, y1, y2⟩ := HR0.out.later hb5
    cases e'
    have hsq := said_eql false vn (numS vn)
    simp only [List.length_cons, List.length_nil, Nat.zero_add]
    clear hrow hb4 hb5 c0 c1 c2 C2
    go_wp2_with fail
    go_quiet (fail)
    go_wp2_with fail
    go_ret
    exact ⟨rfl, Below.drewN' HB4.out⟩

set_option maxRecDepth 100000 in
theorem back_big (b d o : Int) (s : ByteArray) (hs : 2147483647 < (s.size : Int)) (w : World) : Calls Tryd.prog 4 #[.int .i64 b, .int .u64 d, .int .u64 o, .string s] w fun e w' => e = .returned (.bool true) ∧ w = w' := by
  go_enter Tryd.func4, Tryd.ntmps4
  go_wp2_with fail
  go_ret
  exact ⟨rfl, rfl⟩
set_option maxRecDepth 100000 in
theorem back_none (b d o : Int) (s : ByteArray) (hs : (s.size : Int) ≤ 2147483647) (h1 : (b != 0) = true) (h2 : (b != 8) = true) (h3 : (b != 16) = true) (h4 : (b != 32) = true) (h5 : (b != 64) = true) (w : World) : Calls Tryd.prog 4 #[.int .i64 b, .int .u64 d, .int .u64 o, .string s] w fun e w' => e = .returned (.bool true) ∧ w = w' := by
  go_enter Tryd.func4, Tryd.ntmps4
  go_wp2_with fail
  go_ret
  exact ⟨rfl, rfl⟩
set_option maxRecDepth 100000 in
theorem back_out8 (d o : Int) (s : ByteArray) (hd : 0 ≤ d) (hd1 : d ≤ 18446744073709551615) (ho : 0 ≤ o) (ho1 : o ≤ 18446744073709551615) (hs : (s.size : Int) ≤ 2147483647) (hx : 0 < bits .or .u64 d o / 256) (w : World) : Calls Tryd.prog 4 #[.int .i64 8, .int .u64 d, .int .u64 o, .string s] w fun e w' => e = .returned (.bool true) ∧ w = w' := by
  go_enter Tryd.func4, Tryd.ntmps4
  go_wp2_with fail
  go_ret
  exact ⟨rfl, rfl⟩
set_option maxRecDepth 100000 in
theorem back_out16 (d o : Int) (s : ByteArray) (hd : 0 ≤ d) (hd1 : d ≤ 18446744073709551615) (ho : 0 ≤ o) (ho1 : o ≤ 18446744073709551615) (hs : (s.size : Int) ≤ 2147483647) (hx : 0 < bits .or .u64 d o / 65536) (w : World) : Calls Tryd.prog 4 #[.int .i64 16, .int .u64 d, .int .u64 o, .string s] w fun e w' => e = .returned (.bool true) ∧ w = w' := by
  go_enter Tryd.func4, Tryd.ntmps4
  go_wp2_with fail
  go_ret
  exact ⟨rfl, rfl⟩
set_option maxRecDepth 100000 in
theorem back_out32 (d o : Int) (s : ByteArray) (hd : 0 ≤ d) (hd1 : d ≤ 18446744073709551615) (ho : 0 ≤ o) (ho1 : o ≤ 18446744073709551615) (hs : (s.size : Int) ≤ 2147483647) (hx : 0 < bits .or .u64 d o / 4294967296) (w : World) : Calls Tryd.prog 4 #[.int .i64 32, .int .u64 d, .int .u64 o, .string s] w fun e w' => e = .returned (.bool true) ∧ w = w' := by
  go_enter Tryd.func4, Tryd.ntmps4
  go_wp2_with fail
  go_ret
  exact ⟨rfl, rfl⟩

theorem fnUintsBack_law (b d o : Int) (hd : 0 ≤ d) (hd1 : d ≤ 18446744073709551615) (ho : 0 ≤ o) (ho1 : o ≤ 18446744073709551615) (s : ByteArray) (w : World) (hE : ErrsAt w) (hT : Tab w) :
    Calls Tryd.prog 4 #[.int .i64 b, .int .u64 d, .int .u64 o, .string s] w fun e w' => e = .returned (.bool true) ∧ Below w.heap.size w w' := by
  have same : ∀ {e : Ending} {w' : World}, (e = .returned (.bool true) ∧ w = w') → e = .returned (.bool true) ∧ Below w.heap.size w w' := fun ⟨h1, h2⟩ => ⟨h1, by rw [← h2]; exact Below.refl _ _⟩
  by_cases hs : s.size ≤ 2147483647
  case neg => exact (back_big b d o s (by omega) w).mono fun _ _ h => same h
  by_cases q0 : b = 0
  · subst q0; exact back_uint d o hd hd1 ho ho1 s hs w hE hT
  by_cases q5 : b = 64
  · subst q5; exact back_uint64 d o hd hd1 ho ho1 s hs w hE hT
  by_cases q1 : b = 8
  · subst q1
    by_cases hx : 0 < bits .or .u64 d o / 256
    · exact (back_out8 d o s hd hd1 ho ho1 (by omega) hx w).mono fun _ _ h => same h
    · obtain ⟨x1, x2⟩ := or_small hd hd1 ho ho1 (k := 256) (by decide) hx
      exact back_uint8 d o hd (by omega) ho (by omega) (by omega) s hs w hE hT
  by_cases q2 : b = 16
  · subst q2
    by_cases hx : 0 < bits .or .u64 d o / 65536
    · exact (back_out16 d o s hd hd1 ho ho1 (by omega) hx w).mono fun _ _ h => same h
    · obtain ⟨x1, x2⟩ := or_small hd hd1 ho ho1 (k := 65536) (by decide) hx
      exact back_uint16 d o hd (by omega) ho (by omega) (by omega) s hs w hE hT
  by_cases q3 : b = 32
  · subst q3
    by_cases hx : 0 < bits .or .u64 d o / 4294967296
    · exact (back_out32 d o s hd hd1 ho ho1 (by omega) hx w).mono fun _ _ h => same h
    · obtain ⟨x1, x2⟩ := or_small hd hd1 ho ho1 (k := 4294967296) (by decide) hx
      exact back_uint32 d o hd (by omega) ho (by omega) (by omega) s hs w hE hT
  exact (back_none b d o s (by omega) (by simp; omega) (by simp; omega) (by simp; omega) (by simp; omega) (by simp; omega) w).mono fun _ _ h => same h
end Go.Proofs.YthodlepbmnbflaaDoor
