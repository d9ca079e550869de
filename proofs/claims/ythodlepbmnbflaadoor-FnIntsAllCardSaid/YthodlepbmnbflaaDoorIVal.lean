/- What the signed kinds are set to, and say. (Printed by gen_iv.py.) -/
import Derived.Test.YthodlepbmnbflaaDoorPubI
import Derived.Test.YthodlepbmnbflaaDoorSayer
namespace Go.Proofs.YthodlepbmnbflaaDoor
open Go.RowKit
set_option linter.unusedVariables false
set_option linter.unusedSimpArgs false

/-- A pointer is set to a value; the error. -/
def SetTo (P : Nat) (v : Value) (bad : Bool) (w : World) (e : Ending) (w' : World) : Prop := ∃ er w2, e = .returned er ∧ (if bad then ∃ t p, er = .iface t p else er = .nilIface) ∧ Below w.heap.size w w2 ∧ w' = w2.setCell ⟨P, 0, none⟩ v

theorem set_int (P : Nat) (y : Int) (T : TypeId) (s : ByteArray) (hs : s.size ≤ 2147483647) (w : World) (hP : w.heap[P]? = some (.cells #[.int .i64 y] T (0, 0))) (hE : ErrsAt w) :
    Calls Tryd.prog 45 #[.pointer (some ⟨P, 0, none⟩), .string s] w (SetTo P (.int .i64 (iv 9223372036854775808 18446744073709551615 s)) (ib 9223372036854775808 18446744073709551615 s) w) := by
  have Cc := Lib.hid (pubI_any 64 9223372036854775808 18446744073709551615 (.inr (.inr (.inr ⟨rfl, rfl, rfl⟩))) s hs w hE)
  have hle := iv_le 9223372036854775808 18446744073709551615 (by decide) s
  have HP := Lib.hid hP
  generalize iv 9223372036854775808 18446744073709551615 s = v at *
  generalize ib 9223372036854775808 18446744073709551615 s = bad at *
  have v0 : -9223372036854775808 ≤ v := by omega
  have v1 : v ≤ 9223372036854775807 := by omega
  clear hP hE hle
  go_enter Tryd.func45, Tryd.ntmps45
  go_wp2_with fail
  refine Cc.out.mono ?_
  rintro e w2 ⟨er, rfl, her, hb⟩
  have hP2 := (hb.block _ (lt_of_block HP.out)).trans HP.out
  have HB := Lib.hid hb
  have HER := Lib.hid her
  have h1 := cell_of_one hP2
  have h2 := free_of_one hP2
  clear hb hP2 her Cc
  go_wp2_with fail
  go_ret
  exact ⟨_, w2, rfl, HER.out, HB.out, rfl⟩
theorem text_int (P : Nat) (v : Int) (h0 : -9223372036854775808 ≤ v) (h1 : v ≤ 9223372036854775807) (w : World) (hc : w.cell? ⟨P, 0, none⟩ = some (.int .i64 v)) (hT : Tab w) :
    Calls Tryd.prog 46 #[.pointer (some ⟨P, 0, none⟩)] w fun e w' => e = .returned (.string (numI v)) ∧ Below w.heap.size w w' := by
  have Cc := Lib.hid (itoa_any v (by omega) (by omega) w hT)
  generalize numI v = t at *
  clear hT
  go_enter Tryd.func46, Tryd.ntmps46
  go_wp2_with fail
  refine Cc.out.mono ?_
  rintro e w2 ⟨rfl, hb⟩
  have HB := Lib.hid hb
  clear hb
  go_wp2_with fail
  go_ret
  exact ⟨rfl, HB.out⟩

theorem set_int8 (P : Nat) (y : Int) (T : TypeId) (s : ByteArray) (hs : s.size ≤ 2147483647) (w : World) (hP : w.heap[P]? = some (.cells #[.int .i8 y] T (0, 0))) (hE : ErrsAt w) :
    Calls Tryd.prog 48 #[.pointer (some ⟨P, 0, none⟩), .string s] w (SetTo P (.int .i8 (iv 128 255 s)) (ib 128 255 s) w) := by
  have Cc := Lib.hid (pubI_any 8 128 255 (.inl ⟨rfl, rfl, rfl⟩) s hs w hE)
  have hle := iv_le 128 255 (by decide) s
  have HP := Lib.hid hP
  generalize iv 128 255 s = v at *
  generalize ib 128 255 s = bad at *
  have v0 : -128 ≤ v := by omega
  have v1 : v ≤ 127 := by omega
  clear hP hE hle
  go_enter Tryd.func48, Tryd.ntmps48
  go_wp2_with fail
  refine Cc.out.mono ?_
  rintro e w2 ⟨er, rfl, her, hb⟩
  have hP2 := (hb.block _ (lt_of_block HP.out)).trans HP.out
  have HB := Lib.hid hb
  have HER := Lib.hid her
  have h1 := cell_of_one hP2
  have h2 := free_of_one hP2
  clear hb hP2 her Cc
  go_wp2_with fail
  go_ret
  exact ⟨_, w2, rfl, HER.out, HB.out, rfl⟩
theorem text_int8 (P : Nat) (v : Int) (h0 : -128 ≤ v) (h1 : v ≤ 127) (w : World) (hc : w.cell? ⟨P, 0, none⟩ = some (.int .i8 v)) (hT : Tab w) :
    Calls Tryd.prog 49 #[.pointer (some ⟨P, 0, none⟩)] w fun e w' => e = .returned (.string (numI v)) ∧ Below w.heap.size w w' := by
  have Cc := Lib.hid (fmtI_any v (by omega) (by omega) w hT)
  generalize numI v = t at *
  clear hT
  go_enter Tryd.func49, Tryd.ntmps49
  go_wp2_with fail
  refine Cc.out.mono ?_
  rintro e w2 ⟨rfl, hb⟩
  have HB := Lib.hid hb
  clear hb
  go_wp2_with fail
  go_ret
  exact ⟨rfl, HB.out⟩

theorem set_int16 (P : Nat) (y : Int) (T : TypeId) (s : ByteArray) (hs : s.size ≤ 2147483647) (w : World) (hP : w.heap[P]? = some (.cells #[.int .i16 y] T (0, 0))) (hE : ErrsAt w) :
    Calls Tryd.prog 51 #[.pointer (some ⟨P, 0, none⟩), .string s] w (SetTo P (.int .i16 (iv 32768 65535 s)) (ib 32768 65535 s) w) := by
  have Cc := Lib.hid (pubI_any 16 32768 65535 (.inr (.inl ⟨rfl, rfl, rfl⟩)) s hs w hE)
  have hle := iv_le 32768 65535 (by decide) s
  have HP := Lib.hid hP
  generalize iv 32768 65535 s = v at *
  generalize ib 32768 65535 s = bad at *
  have v0 : -32768 ≤ v := by omega
  have v1 : v ≤ 32767 := by omega
  clear hP hE hle
  go_enter Tryd.func51, Tryd.ntmps51
  go_wp2_with fail
  refine Cc.out.mono ?_
  rintro e w2 ⟨er, rfl, her, hb⟩
  have hP2 := (hb.block _ (lt_of_block HP.out)).trans HP.out
  have HB := Lib.hid hb
  have HER := Lib.hid her
  have h1 := cell_of_one hP2
  have h2 := free_of_one hP2
  clear hb hP2 her Cc
  go_wp2_with fail
  go_ret
  exact ⟨_, w2, rfl, HER.out, HB.out, rfl⟩
theorem text_int16 (P : Nat) (v : Int) (h0 : -32768 ≤ v) (h1 : v ≤ 32767) (w : World) (hc : w.cell? ⟨P, 0, none⟩ = some (.int .i16 v)) (hT : Tab w) :
    Calls Tryd.prog 52 #[.pointer (some ⟨P, 0, none⟩)] w fun e w' => e = .returned (.string (numI v)) ∧ Below w.heap.size w w' := by
  have Cc := Lib.hid (fmtI_any v (by omega) (by omega) w hT)
  generalize numI v = t at *
  clear hT
  go_enter Tryd.func52, Tryd.ntmps52
  go_wp2_with fail
  refine Cc.out.mono ?_
  rintro e w2 ⟨rfl, hb⟩
  have HB := Lib.hid hb
  clear hb
  go_wp2_with fail
  go_ret
  exact ⟨rfl, HB.out⟩

theorem set_int32 (P : Nat) (y : Int) (T : TypeId) (s : ByteArray) (hs : s.size ≤ 2147483647) (w : World) (hP : w.heap[P]? = some (.cells #[.int .i32 y] T (0, 0))) (hE : ErrsAt w) :
    Calls Tryd.prog 54 #[.pointer (some ⟨P, 0, none⟩), .string s] w (SetTo P (.int .i32 (iv 2147483648 4294967295 s)) (ib 2147483648 4294967295 s) w) := by
  have Cc := Lib.hid (pubI_any 32 2147483648 4294967295 (.inr (.inr (.inl ⟨rfl, rfl, rfl⟩))) s hs w hE)
  have hle := iv_le 2147483648 4294967295 (by decide) s
  have HP := Lib.hid hP
  generalize iv 2147483648 4294967295 s = v at *
  generalize ib 2147483648 4294967295 s = bad at *
  have v0 : -2147483648 ≤ v := by omega
  have v1 : v ≤ 2147483647 := by omega
  clear hP hE hle
  go_enter Tryd.func54, Tryd.ntmps54
  go_wp2_with fail
  refine Cc.out.mono ?_
  rintro e w2 ⟨er, rfl, her, hb⟩
  have hP2 := (hb.block _ (lt_of_block HP.out)).trans HP.out
  have HB := Lib.hid hb
  have HER := Lib.hid her
  have h1 := cell_of_one hP2
  have h2 := free_of_one hP2
  clear hb hP2 her Cc
  go_wp2_with fail
  go_ret
  exact ⟨_, w2, rfl, HER.out, HB.out, rfl⟩
theorem text_int32 (P : Nat) (v : Int) (h0 : -2147483648 ≤ v) (h1 : v ≤ 2147483647) (w : World) (hc : w.cell? ⟨P, 0, none⟩ = some (.int .i32 v)) (hT : Tab w) :
    Calls Tryd.prog 55 #[.pointer (some ⟨P, 0, none⟩)] w fun e w' => e = .returned (.string (numI v)) ∧ Below w.heap.size w w' := by
  have Cc := Lib.hid (fmtI_any v (by omega) (by omega) w hT)
  generalize numI v = t at *
  clear hT
  go_enter Tryd.func55, Tryd.ntmps55
  go_wp2_with fail
  refine Cc.out.mono ?_
  rintro e w2 ⟨rfl, hb⟩
  have HB := Lib.hid hb
  clear hb
  go_wp2_with fail
  go_ret
  exact ⟨rfl, HB.out⟩

theorem set_int64 (P : Nat) (y : Int) (T : TypeId) (s : ByteArray) (hs : s.size ≤ 2147483647) (w : World) (hP : w.heap[P]? = some (.cells #[.int .i64 y] T (0, 0))) (hE : ErrsAt w) :
    Calls Tryd.prog 57 #[.pointer (some ⟨P, 0, none⟩), .string s] w (SetTo P (.int .i64 (iv 9223372036854775808 18446744073709551615 s)) (ib 9223372036854775808 18446744073709551615 s) w) := by
  have Cc := Lib.hid (pubI_any 64 9223372036854775808 18446744073709551615 (.inr (.inr (.inr ⟨rfl, rfl, rfl⟩))) s hs w hE)
  have hle := iv_le 9223372036854775808 18446744073709551615 (by decide) s
  have HP := Lib.hid hP
  generalize iv 9223372036854775808 18446744073709551615 s = v at *
  generalize ib 9223372036854775808 18446744073709551615 s = bad at *
  have v0 : -9223372036854775808 ≤ v := by omega
  have v1 : v ≤ 9223372036854775807 := by omega
  clear hP hE hle
  go_enter Tryd.func57, Tryd.ntmps57
  go_wp2_with fail
  refine Cc.out.mono ?_
  rintro e w2 ⟨er, rfl, her, hb⟩
  have hP2 := (hb.block _ (lt_of_block HP.out)).trans HP.out
  have HB := Lib.hid hb
  have HER := Lib.hid her
  have h1 := cell_of_one hP2
  have h2 := free_of_one hP2
  clear hb hP2 her Cc
  go_wp2_with fail
  go_ret
  exact ⟨_, w2, rfl, HER.out, HB.out, rfl⟩
theorem text_int64 (P : Nat) (v : Int) (h0 : -9223372036854775808 ≤ v) (h1 : v ≤ 9223372036854775807) (w : World) (hc : w.cell? ⟨P, 0, none⟩ = some (.int .i64 v)) (hT : Tab w) :
    Calls Tryd.prog 58 #[.pointer (some ⟨P, 0, none⟩)] w fun e w' => e = .returned (.string (numI v)) ∧ Below w.heap.size w w' := by
  have Cc := Lib.hid (fmtI_any v (by omega) (by omega) w hT)
  generalize numI v = t at *
  clear hT
  go_enter Tryd.func58, Tryd.ntmps58
  go_wp2_with fail
  refine Cc.out.mono ?_
  rintro e w2 ⟨rfl, hb⟩
  have HB := Lib.hid hb
  clear hb
  go_wp2_with fail
  go_ret
  exact ⟨rfl, HB.out⟩

/-- What is said behind a text. -/
def sI (C M : Nat) (s : ByteArray) : List Value := [.bool (ib C M s), .int .i64 (iv C M s), .string (numI (iv C M s))]
def flatI (C M : Nat) (l : List ByteArray) : List Value := l.flatMap (sI C M)
theorem flatI_take (C M : Nat) (l : List ByteArray) (k : Nat) (h : k < l.length) : flatI C M (l.take (k + 1)) = flatI C M (l.take k) ++ sI C M l[k] := by
  rw [flatI, List.take_succ_eq_append_getElem h, List.flatMap_append]
  simp [flatI]
theorem infoI : (Tryd.prog.info? 65).map (fun i => (i.zero, i.size, i.bytes)) = some (some (.agg #[.bool false, .int .i64 0, .string ⟨#[]⟩]), 3, 32) := by kernel_rfl
theorem run_nilCheck {ρ : Operand → Value} {d : Option Tmp} {ty : TypeId} {pos : String} {af : Array Edge} {g : Option (Nat × Bool)} {x : Tmp} {w : World} {a : Addr} (h : ρ (.tmp x) = .pointer (some a)) :
    (execOp ρ ⟨d, .nilCheck (.tmp x), ty, pos, af, g⟩).run Tryd.prog w = .ok (.value (.pointer (some a))) w := by
  go_simp
theorem run_assign {P : Program} {ρ : Operand → Value} {d : Option Tmp} {ty : TypeId} {pos : String} {af : Array Edge} {g : Option (Nat × Bool)} {x : Operand} {w : World} {v : Value} (h : ρ x = v) :
    (execOp ρ ⟨d, .assign x, ty, pos, af, g⟩).run P w = .ok (.value v) w := by
  subst h; rfl
theorem run_neqErr {ρ : Operand → Value} {d : Option Tmp} {ty : TypeId} {pos : String} {af : Array Edge} {g : Option (Nat × Bool)} {x : Tmp} {w : World} {t : TypeId} {p : Value} (h : ρ (.tmp x) = .iface t p) (hn : ρ (.const .nilIface) = .nilIface) :
    (execOp ρ ⟨d, .binOp .neq 43 (.tmp x) (.const .nilIface) 43, ty, pos, af, g⟩).run Tryd.prog w = .ok (.value (.bool true)) w := by
  go_simp
theorem run_neqNil {ρ : Operand → Value} {d : Option Tmp} {ty : TypeId} {pos : String} {af : Array Edge} {g : Option (Nat × Bool)} {x : Tmp} {w : World} (h : ρ (.tmp x) = .nilIface) (hn : ρ (.const .nilIface) = .nilIface) :
    (execOp ρ ⟨d, .binOp .neq 43 (.tmp x) (.const .nilIface) 43, ty, pos, af, g⟩).run Tryd.prog w = .ok (.value (.bool false)) w := by
  go_simp
theorem run_buildI {ρ : Operand → Value} {d : Option Tmp} {ty : TypeId} {pos : String} {af : Array Edge} {g : Option (Nat × Bool)} {x y z : Tmp} {w : World} {b : Bool} {c : Int} {s : ByteArray} (h : ρ (.tmp x) = .bool b) (h1 : ρ (.tmp y) = .int .i64 c) (h2 : ρ (.tmp z) = .string s) :
    (execOp ρ ⟨d, .build 65 #[(0, .tmp x), (1, .tmp y), (2, .tmp z)], ty, pos, af, g⟩).run Tryd.prog w = .ok (.value (.agg #[.bool b, .int .i64 c, .string s])) w := by
  go_simp
theorem run_buildSliceI {ρ : Operand → Value} {d : Option Tmp} {ty : TypeId} {pos : String} {af : Array Edge} {g : Option (Nat × Bool)} {x : Tmp} {w : World} {b : Bool} {c : Int} {s : ByteArray} (h : ρ (.tmp x) = .agg #[.bool b, .int .i64 c, .string s]) :
    (execOp ρ ⟨d, .buildSlice 62 1 #[(0, .tmp x)], ty, pos, af, g⟩).run Tryd.prog w = .ok (.value (.slice (some ⟨w.heap.size, 0, none⟩) 1 1)) (w.alloc (.cells [Value.bool b, .int .i64 c, .string s].toArray 65)) := by
  go_simp
theorem run_load_int {ρ : Operand → Value} {d : Option Tmp} {ty : TypeId} {pos : String} {af : Array Edge} {g : Option (Nat × Bool)} {x : Tmp} {w : World} {B : Nat} {v : Int} (h : ρ (.tmp x) = .pointer (some ⟨B, 0, none⟩)) (hc : w.cell? ⟨B, 0, none⟩ = some (.int .i64 v)) :
    (execOp ρ ⟨d, .load 3 (.tmp x), ty, pos, af, g⟩).run Tryd.prog w = .ok (.value (.int .i64 v)) w := by
  go_simp
theorem run_load_int8 {ρ : Operand → Value} {d : Option Tmp} {ty : TypeId} {pos : String} {af : Array Edge} {g : Option (Nat × Bool)} {x : Tmp} {w : World} {B : Nat} {v : Int} (h : ρ (.tmp x) = .pointer (some ⟨B, 0, none⟩)) (hc : w.cell? ⟨B, 0, none⟩ = some (.int .i8 v)) :
    (execOp ρ ⟨d, .load 88 (.tmp x), ty, pos, af, g⟩).run Tryd.prog w = .ok (.value (.int .i8 v)) w := by
  go_simp
theorem run_conv_int8 {ρ : Operand → Value} {d : Option Tmp} {ty : TypeId} {pos : String} {af : Array Edge} {g : Option (Nat × Bool)} {x : Tmp} {w : World} {v : Int} (h : ρ (.tmp x) = .int .i8 v) (h0 : -128 ≤ v) (h1 : v ≤ 127) :
    (execOp ρ ⟨d, .convert 88 2 (.tmp x), ty, pos, af, g⟩).run Tryd.prog w = .ok (.value (.int .i64 v)) w := by
  go_simp
  simp [IntKind.wrap, IntKind.bits, IntKind.signed]
  omega
theorem run_load_int16 {ρ : Operand → Value} {d : Option Tmp} {ty : TypeId} {pos : String} {af : Array Edge} {g : Option (Nat × Bool)} {x : Tmp} {w : World} {B : Nat} {v : Int} (h : ρ (.tmp x) = .pointer (some ⟨B, 0, none⟩)) (hc : w.cell? ⟨B, 0, none⟩ = some (.int .i16 v)) :
    (execOp ρ ⟨d, .load 92 (.tmp x), ty, pos, af, g⟩).run Tryd.prog w = .ok (.value (.int .i16 v)) w := by
  go_simp
theorem run_conv_int16 {ρ : Operand → Value} {d : Option Tmp} {ty : TypeId} {pos : String} {af : Array Edge} {g : Option (Nat × Bool)} {x : Tmp} {w : World} {v : Int} (h : ρ (.tmp x) = .int .i16 v) (h0 : -32768 ≤ v) (h1 : v ≤ 32767) :
    (execOp ρ ⟨d, .convert 92 2 (.tmp x), ty, pos, af, g⟩).run Tryd.prog w = .ok (.value (.int .i64 v)) w := by
  go_simp
  simp [IntKind.wrap, IntKind.bits, IntKind.signed]
  omega
theorem run_load_int32 {ρ : Operand → Value} {d : Option Tmp} {ty : TypeId} {pos : String} {af : Array Edge} {g : Option (Nat × Bool)} {x : Tmp} {w : World} {B : Nat} {v : Int} (h : ρ (.tmp x) = .pointer (some ⟨B, 0, none⟩)) (hc : w.cell? ⟨B, 0, none⟩ = some (.int .i32 v)) :
    (execOp ρ ⟨d, .load 21 (.tmp x), ty, pos, af, g⟩).run Tryd.prog w = .ok (.value (.int .i32 v)) w := by
  go_simp
theorem run_conv_int32 {ρ : Operand → Value} {d : Option Tmp} {ty : TypeId} {pos : String} {af : Array Edge} {g : Option (Nat × Bool)} {x : Tmp} {w : World} {v : Int} (h : ρ (.tmp x) = .int .i32 v) (h0 : -2147483648 ≤ v) (h1 : v ≤ 2147483647) :
    (execOp ρ ⟨d, .convert 21 2 (.tmp x), ty, pos, af, g⟩).run Tryd.prog w = .ok (.value (.int .i64 v)) w := by
  go_simp
  simp [IntKind.wrap, IntKind.bits, IntKind.signed]
  omega
theorem run_load_int64 {ρ : Operand → Value} {d : Option Tmp} {ty : TypeId} {pos : String} {af : Array Edge} {g : Option (Nat × Bool)} {x : Tmp} {w : World} {B : Nat} {v : Int} (h : ρ (.tmp x) = .pointer (some ⟨B, 0, none⟩)) (hc : w.cell? ⟨B, 0, none⟩ = some (.int .i64 v)) :
    (execOp ρ ⟨d, .load 2 (.tmp x), ty, pos, af, g⟩).run Tryd.prog w = .ok (.value (.int .i64 v)) w := by
  go_simp

/-- The cell that a value points to, and the row of what was said. -/
structure IIn (w0 : World) (P : Nat) (ik : IntKind) (T : TypeId) (C M : Nat) (l : List ByteArray) (k : Nat) (vo : Value) (wr : World) : Prop where
  bel : Below P w0 wr
  cell : ∃ x, wr.heap[P]? = some (.cells #[.int ik x] T (0, 0))
  row : wr.ownsRow (P + 1) 65 3 vo k (flatI C M (l.take k))
end Go.Proofs.YthodlepbmnbflaaDoor
