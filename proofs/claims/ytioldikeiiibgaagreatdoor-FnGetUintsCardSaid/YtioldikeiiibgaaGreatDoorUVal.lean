/- What the unsigned kinds are set to, and say. (Printed by gen_uv.py.) -/
import Derived.Test.YtioldikeiiibgaaGreatDoorPubU
import Derived.Test.YtioldikeiiibgaaGreatDoorFmtU
import Derived.Test.YtioldikeiiibgaaGreatDoorSayer
namespace Go.Proofs.YtioldikeiiibgaaGreatDoor
open Go.RowKit
set_option linter.unusedVariables false
set_option linter.unusedSimpArgs false

/-- A pointer is set to a value; the error. -/
def SetTo (P : Nat) (v : Value) (bad : Bool) (w : World) (e : Ending) (w' : World) : Prop := ∃ er w2, e = .returned er ∧ (if bad then ∃ t p, er = .iface t p else er = .nilIface) ∧ Below w.heap.size w w2 ∧ w' = w2.setCell ⟨P, 0, none⟩ v
def uv (M : Nat) (s : ByteArray) : Nat := valE M (pu0 M s.data.toList)
def ub (M : Nat) (s : ByteArray) : Bool := badE (pu0 M s.data.toList)
theorem uv_le (M : Nat) (s : ByteArray) : uv M s ≤ M := valE_le _

theorem set_uint (P : Nat) (y : Int) (T : TypeId) (s : ByteArray) (hs : s.size ≤ 2147483647) (w : World) (hP : w.heap[P]? = some (.cells #[.int .u64 y] T (0, 0))) (hE : ErrsAt w) :
    Calls Tryz.prog 25 #[.pointer (some ⟨P, 0, none⟩), .string s] w (SetTo P (.int .u64 (uv 18446744073709551615 s : Nat)) (ub 18446744073709551615 s) w) := by
  have C := Lib.hid (pubU_any 64 18446744073709551615 (.inr (.inr (.inr ⟨rfl, rfl⟩))) s hs w hE)
  have hle := uv_le 18446744073709551615 s
  have HP := Lib.hid hP
  unfold uv ub at *
  generalize valE 18446744073709551615 (pu0 18446744073709551615 s.data.toList) = vn at *
  generalize badE (pu0 18446744073709551615 s.data.toList) = bad at *
  obtain ⟨v, hv⟩ : ∃ v : Int, v = (vn : Nat) := ⟨_, rfl⟩
  rw [← hv] at C ⊢
  have v0 : 0 ≤ v := by omega
  have v1 : v ≤ 18446744073709551615 := by omega
  clear hP hE hle hv
  go_enter Tryz.func25, Tryz.ntmps25
  go_wp2_with fail
  refine C.out.mono ?_
  rintro e w2 ⟨er, rfl, her, hb⟩
  have hP2 := (hb.block _ (lt_of_block HP.out)).trans HP.out
  have HB := Lib.hid hb
  have HER := Lib.hid her
  have h1 := cell_of_one hP2
  have h2 := free_of_one hP2
  clear hb hP2 her C
  go_wp2_with fail
  go_ret
  exact ⟨_, w2, rfl, HER.out, HB.out, rfl⟩
theorem text_uint (P vn : Nat) (h : vn ≤ 18446744073709551615) (w : World) (hc : w.cell? ⟨P, 0, none⟩ = some (.int .u64 (vn : Nat))) (hT : Tab w) :
    Calls Tryz.prog 26 #[.pointer (some ⟨P, 0, none⟩)] w fun e w' => e = .returned (.string (numS vn)) ∧ Below w.heap.size w w' := by
  have C := Lib.hid (fmtU_any vn (by omega) w hT)
  generalize numS vn = t at *
  obtain ⟨v, hv⟩ : ∃ v : Int, v = (vn : Nat) := ⟨_, rfl⟩
  rw [← hv] at C hc
  have v0 : 0 ≤ v := by omega
  have v1 : v ≤ 18446744073709551615 := by omega
  clear h hv hT
  go_enter Tryz.func26, Tryz.ntmps26
  go_wp2_with fail
  refine C.out.mono ?_
  rintro e w2 ⟨rfl, hb⟩
  have HB := Lib.hid hb
  clear hb
  go_wp2_with fail
  go_ret
  exact ⟨rfl, HB.out⟩

theorem set_uint8 (P : Nat) (y : Int) (T : TypeId) (s : ByteArray) (hs : s.size ≤ 2147483647) (w : World) (hP : w.heap[P]? = some (.cells #[.int .u8 y] T (0, 0))) (hE : ErrsAt w) :
    Calls Tryz.prog 28 #[.pointer (some ⟨P, 0, none⟩), .string s] w (SetTo P (.int .u8 (uv 255 s : Nat)) (ub 255 s) w) := by
  have C := Lib.hid (pubU_any 8 255 (.inl ⟨rfl, rfl⟩) s hs w hE)
  have hle := uv_le 255 s
  have HP := Lib.hid hP
  unfold uv ub at *
  generalize valE 255 (pu0 255 s.data.toList) = vn at *
  generalize badE (pu0 255 s.data.toList) = bad at *
  obtain ⟨v, hv⟩ : ∃ v : Int, v = (vn : Nat) := ⟨_, rfl⟩
  rw [← hv] at C ⊢
  have v0 : 0 ≤ v := by omega
  have v1 : v ≤ 255 := by omega
  clear hP hE hle hv
  go_enter Tryz.func28, Tryz.ntmps28
  go_wp2_with fail
  refine C.out.mono ?_
  rintro e w2 ⟨er, rfl, her, hb⟩
  have hP2 := (hb.block _ (lt_of_block HP.out)).trans HP.out
  have HB := Lib.hid hb
  have HER := Lib.hid her
  have h1 := cell_of_one hP2
  have h2 := free_of_one hP2
  clear hb hP2 her C
  go_wp2_with fail
  go_ret
  exact ⟨_, w2, rfl, HER.out, HB.out, rfl⟩
theorem text_uint8 (P vn : Nat) (h : vn ≤ 255) (w : World) (hc : w.cell? ⟨P, 0, none⟩ = some (.int .u8 (vn : Nat))) (hT : Tab w) :
    Calls Tryz.prog 29 #[.pointer (some ⟨P, 0, none⟩)] w fun e w' => e = .returned (.string (numS vn)) ∧ Below w.heap.size w w' := by
  have C := Lib.hid (fmtU_any vn (by omega) w hT)
  generalize numS vn = t at *
  obtain ⟨v, hv⟩ : ∃ v : Int, v = (vn : Nat) := ⟨_, rfl⟩
  rw [← hv] at C hc
  have v0 : 0 ≤ v := by omega
  have v1 : v ≤ 255 := by omega
  clear h hv hT
  go_enter Tryz.func29, Tryz.ntmps29
  go_wp2_with fail
  refine C.out.mono ?_
  rintro e w2 ⟨rfl, hb⟩
  have HB := Lib.hid hb
  clear hb
  go_wp2_with fail
  go_ret
  exact ⟨rfl, HB.out⟩

theorem set_uint16 (P : Nat) (y : Int) (T : TypeId) (s : ByteArray) (hs : s.size ≤ 2147483647) (w : World) (hP : w.heap[P]? = some (.cells #[.int .u16 y] T (0, 0))) (hE : ErrsAt w) :
    Calls Tryz.prog 31 #[.pointer (some ⟨P, 0, none⟩), .string s] w (SetTo P (.int .u16 (uv 65535 s : Nat)) (ub 65535 s) w) := by
  have C := Lib.hid (pubU_any 16 65535 (.inr (.inl ⟨rfl, rfl⟩)) s hs w hE)
  have hle := uv_le 65535 s
  have HP := Lib.hid hP
  unfold uv ub at *
  generalize valE 65535 (pu0 65535 s.data.toList) = vn at *
  generalize badE (pu0 65535 s.data.toList) = bad at *
  obtain ⟨v, hv⟩ : ∃ v : Int, v = (vn : Nat) := ⟨_, rfl⟩
  rw [← hv] at C ⊢
  have v0 : 0 ≤ v := by omega
  have v1 : v ≤ 65535 := by omega
  clear hP hE hle hv
  go_enter Tryz.func31, Tryz.ntmps31
  go_wp2_with fail
  refine C.out.mono ?_
  rintro e w2 ⟨er, rfl, her, hb⟩
  have hP2 := (hb.block _ (lt_of_block HP.out)).trans HP.out
  have HB := Lib.hid hb
  have HER := Lib.hid her
  have h1 := cell_of_one hP2
  have h2 := free_of_one hP2
  clear hb hP2 her C
  go_wp2_with fail
  go_ret
  exact ⟨_, w2, rfl, HER.out, HB.out, rfl⟩
theorem text_uint16 (P vn : Nat) (h : vn ≤ 65535) (w : World) (hc : w.cell? ⟨P, 0, none⟩ = some (.int .u16 (vn : Nat))) (hT : Tab w) :
    Calls Tryz.prog 32 #[.pointer (some ⟨P, 0, none⟩)] w fun e w' => e = .returned (.string (numS vn)) ∧ Below w.heap.size w w' := by
  have C := Lib.hid (fmtU_any vn (by omega) w hT)
  generalize numS vn = t at *
  obtain ⟨v, hv⟩ : ∃ v : Int, v = (vn : Nat) := ⟨_, rfl⟩
  rw [← hv] at C hc
  have v0 : 0 ≤ v := by omega
  have v1 : v ≤ 65535 := by omega
  clear h hv hT
  go_enter Tryz.func32, Tryz.ntmps32
  go_wp2_with fail
  refine C.out.mono ?_
  rintro e w2 ⟨rfl, hb⟩
  have HB := Lib.hid hb
  clear hb
  go_wp2_with fail
  go_ret
  exact ⟨rfl, HB.out⟩

theorem set_uint32 (P : Nat) (y : Int) (T : TypeId) (s : ByteArray) (hs : s.size ≤ 2147483647) (w : World) (hP : w.heap[P]? = some (.cells #[.int .u32 y] T (0, 0))) (hE : ErrsAt w) :
    Calls Tryz.prog 34 #[.pointer (some ⟨P, 0, none⟩), .string s] w (SetTo P (.int .u32 (uv 4294967295 s : Nat)) (ub 4294967295 s) w) := by
  have C := Lib.hid (pubU_any 32 4294967295 (.inr (.inr (.inl ⟨rfl, rfl⟩))) s hs w hE)
  have hle := uv_le 4294967295 s
  have HP := Lib.hid hP
  unfold uv ub at *
  generalize valE 4294967295 (pu0 4294967295 s.data.toList) = vn at *
  generalize badE (pu0 4294967295 s.data.toList) = bad at *
  obtain ⟨v, hv⟩ : ∃ v : Int, v = (vn : Nat) := ⟨_, rfl⟩
  rw [← hv] at C ⊢
  have v0 : 0 ≤ v := by omega
  have v1 : v ≤ 4294967295 := by omega
  clear hP hE hle hv
  go_enter Tryz.func34, Tryz.ntmps34
  go_wp2_with fail
  refine C.out.mono ?_
  rintro e w2 ⟨er, rfl, her, hb⟩
  have hP2 := (hb.block _ (lt_of_block HP.out)).trans HP.out
  have HB := Lib.hid hb
  have HER := Lib.hid her
  have h1 := cell_of_one hP2
  have h2 := free_of_one hP2
  clear hb hP2 her C
  go_wp2_with fail
  go_ret
  exact ⟨_, w2, rfl, HER.out, HB.out, rfl⟩
theorem text_uint32 (P vn : Nat) (h : vn ≤ 4294967295) (w : World) (hc : w.cell? ⟨P, 0, none⟩ = some (.int .u32 (vn : Nat))) (hT : Tab w) :
    Calls Tryz.prog 35 #[.pointer (some ⟨P, 0, none⟩)] w fun e w' => e = .returned (.string (numS vn)) ∧ Below w.heap.size w w' := by
  have C := Lib.hid (fmtU_any vn (by omega) w hT)
  generalize numS vn = t at *
  obtain ⟨v, hv⟩ : ∃ v : Int, v = (vn : Nat) := ⟨_, rfl⟩
  rw [← hv] at C hc
  have v0 : 0 ≤ v := by omega
  have v1 : v ≤ 4294967295 := by omega
  clear h hv hT
  go_enter Tryz.func35, Tryz.ntmps35
  go_wp2_with fail
  refine C.out.mono ?_
  rintro e w2 ⟨rfl, hb⟩
  have HB := Lib.hid hb
  clear hb
  go_wp2_with fail
  go_ret
  exact ⟨rfl, HB.out⟩

theorem set_uint64 (P : Nat) (y : Int) (T : TypeId) (s : ByteArray) (hs : s.size ≤ 2147483647) (w : World) (hP : w.heap[P]? = some (.cells #[.int .u64 y] T (0, 0))) (hE : ErrsAt w) :
    Calls Tryz.prog 37 #[.pointer (some ⟨P, 0, none⟩), .string s] w (SetTo P (.int .u64 (uv 18446744073709551615 s : Nat)) (ub 18446744073709551615 s) w) := by
  have C := Lib.hid (pubU_any 64 18446744073709551615 (.inr (.inr (.inr ⟨rfl, rfl⟩))) s hs w hE)
  have hle := uv_le 18446744073709551615 s
  have HP := Lib.hid hP
  unfold uv ub at *
  generalize valE 18446744073709551615 (pu0 18446744073709551615 s.data.toList) = vn at *
  generalize badE (pu0 18446744073709551615 s.data.toList) = bad at *
  obtain ⟨v, hv⟩ : ∃ v : Int, v = (vn : Nat) := ⟨_, rfl⟩
  rw [← hv] at C ⊢
  have v0 : 0 ≤ v := by omega
  have v1 : v ≤ 18446744073709551615 := by omega
  clear hP hE hle hv
  go_enter Tryz.func37, Tryz.ntmps37
  go_wp2_with fail
  refine C.out.mono ?_
  rintro e w2 ⟨er, rfl, her, hb⟩
  have hP2 := (hb.block _ (lt_of_block HP.out)).trans HP.out
  have HB := Lib.hid hb
  have HER := Lib.hid her
  have h1 := cell_of_one hP2
  have h2 := free_of_one hP2
  clear hb hP2 her C
  go_wp2_with fail
  go_ret
  exact ⟨_, w2, rfl, HER.out, HB.out, rfl⟩
theorem text_uint64 (P vn : Nat) (h : vn ≤ 18446744073709551615) (w : World) (hc : w.cell? ⟨P, 0, none⟩ = some (.int .u64 (vn : Nat))) (hT : Tab w) :
    Calls Tryz.prog 38 #[.pointer (some ⟨P, 0, none⟩)] w fun e w' => e = .returned (.string (numS vn)) ∧ Below w.heap.size w w' := by
  have C := Lib.hid (fmtU_any vn (by omega) w hT)
  generalize numS vn = t at *
  obtain ⟨v, hv⟩ : ∃ v : Int, v = (vn : Nat) := ⟨_, rfl⟩
  rw [← hv] at C hc
  have v0 : 0 ≤ v := by omega
  have v1 : v ≤ 18446744073709551615 := by omega
  clear h hv hT
  go_enter Tryz.func38, Tryz.ntmps38
  go_wp2_with fail
  refine C.out.mono ?_
  rintro e w2 ⟨rfl, hb⟩
  have HB := Lib.hid hb
  clear hb
  go_wp2_with fail
  go_ret
  exact ⟨rfl, HB.out⟩

/-- What is said behind a text. -/
def sU (M : Nat) (s : ByteArray) : List Value := [.bool (ub M s), .int .u64 (uv M s : Nat), .string (numS (uv M s))]
def flatU (M : Nat) (l : List ByteArray) : List Value := l.flatMap (sU M)
theorem flatU_take (M : Nat) (l : List ByteArray) (k : Nat) (h : k < l.length) : flatU M (l.take (k + 1)) = flatU M (l.take k) ++ sU M l[k] := by
  rw [flatU, List.take_succ_eq_append_getElem h, List.flatMap_append]
  simp [flatU]
theorem infoU : (Tryz.prog.info? 29).map (fun i => (i.zero, i.size, i.bytes)) = some (some (.agg #[.bool false, .int .u64 0, .string ⟨#[]⟩]), 3, 32) := by kernel_rfl
theorem run_nilCheck {ρ : Operand → Value} {d : Option Tmp} {ty : TypeId} {pos : String} {af : Array Edge} {g : Option (Nat × Bool)} {x : Tmp} {w : World} {a : Addr} (h : ρ (.tmp x) = .pointer (some a)) :
    (execOp ρ ⟨d, .nilCheck (.tmp x), ty, pos, af, g⟩).run Tryz.prog w = .ok (.value (.pointer (some a))) w := by
  go_simp
theorem run_assign {P : Program} {ρ : Operand → Value} {d : Option Tmp} {ty : TypeId} {pos : String} {af : Array Edge} {g : Option (Nat × Bool)} {x : Operand} {w : World} {v : Value} (h : ρ x = v) :
    (execOp ρ ⟨d, .assign x, ty, pos, af, g⟩).run P w = .ok (.value v) w := by
  subst h; rfl
theorem run_neqErr {ρ : Operand → Value} {d : Option Tmp} {ty : TypeId} {pos : String} {af : Array Edge} {g : Option (Nat × Bool)} {x : Tmp} {w : World} {t : TypeId} {p : Value} (h : ρ (.tmp x) = .iface t p) (hn : ρ (.const .nilIface) = .nilIface) :
    (execOp ρ ⟨d, .binOp .neq 38 (.tmp x) (.const .nilIface) 38, ty, pos, af, g⟩).run Tryz.prog w = .ok (.value (.bool true)) w := by
  go_simp
theorem run_neqNil {ρ : Operand → Value} {d : Option Tmp} {ty : TypeId} {pos : String} {af : Array Edge} {g : Option (Nat × Bool)} {x : Tmp} {w : World} (h : ρ (.tmp x) = .nilIface) (hn : ρ (.const .nilIface) = .nilIface) :
    (execOp ρ ⟨d, .binOp .neq 38 (.tmp x) (.const .nilIface) 38, ty, pos, af, g⟩).run Tryz.prog w = .ok (.value (.bool false)) w := by
  go_simp
theorem run_buildU {ρ : Operand → Value} {d : Option Tmp} {ty : TypeId} {pos : String} {af : Array Edge} {g : Option (Nat × Bool)} {x y z : Tmp} {w : World} {b : Bool} {c : Int} {s : ByteArray} (h : ρ (.tmp x) = .bool b) (h1 : ρ (.tmp y) = .int .u64 c) (h2 : ρ (.tmp z) = .string s) :
    (execOp ρ ⟨d, .build 29 #[(0, .tmp x), (1, .tmp y), (2, .tmp z)], ty, pos, af, g⟩).run Tryz.prog w = .ok (.value (.agg #[.bool b, .int .u64 c, .string s])) w := by
  go_simp
theorem run_buildSliceU {ρ : Operand → Value} {d : Option Tmp} {ty : TypeId} {pos : String} {af : Array Edge} {g : Option (Nat × Bool)} {x : Tmp} {w : World} {b : Bool} {c : Int} {s : ByteArray} (h : ρ (.tmp x) = .agg #[.bool b, .int .u64 c, .string s]) :
    (execOp ρ ⟨d, .buildSlice 26 1 #[(0, .tmp x)], ty, pos, af, g⟩).run Tryz.prog w = .ok (.value (.slice (some ⟨w.heap.size, 0, none⟩) 1 1)) (w.alloc (.cells [Value.bool b, .int .u64 c, .string s].toArray 29)) := by
  go_simp
theorem run_load_uint {ρ : Operand → Value} {d : Option Tmp} {ty : TypeId} {pos : String} {af : Array Edge} {g : Option (Nat × Bool)} {x : Tmp} {w : World} {B : Nat} {v : Int} (h : ρ (.tmp x) = .pointer (some ⟨B, 0, none⟩)) (hc : w.cell? ⟨B, 0, none⟩ = some (.int .u64 v)) :
    (execOp ρ ⟨d, .load 25 (.tmp x), ty, pos, af, g⟩).run Tryz.prog w = .ok (.value (.int .u64 v)) w := by
  go_simp
theorem run_load_uint8 {ρ : Operand → Value} {d : Option Tmp} {ty : TypeId} {pos : String} {af : Array Edge} {g : Option (Nat × Bool)} {x : Tmp} {w : World} {B : Nat} {v : Int} (h : ρ (.tmp x) = .pointer (some ⟨B, 0, none⟩)) (hc : w.cell? ⟨B, 0, none⟩ = some (.int .u8 v)) :
    (execOp ρ ⟨d, .load 5 (.tmp x), ty, pos, af, g⟩).run Tryz.prog w = .ok (.value (.int .u8 v)) w := by
  go_simp
theorem run_conv_uint8 {ρ : Operand → Value} {d : Option Tmp} {ty : TypeId} {pos : String} {af : Array Edge} {g : Option (Nat × Bool)} {x : Tmp} {w : World} {v : Int} (h : ρ (.tmp x) = .int .u8 v) (h0 : 0 ≤ v) (h1 : v ≤ 255) :
    (execOp ρ ⟨d, .convert 5 22 (.tmp x), ty, pos, af, g⟩).run Tryz.prog w = .ok (.value (.int .u64 v)) w := by
  go_simp
  rw [IntKind.wrap_u64]
  omega
theorem run_load_uint16 {ρ : Operand → Value} {d : Option Tmp} {ty : TypeId} {pos : String} {af : Array Edge} {g : Option (Nat × Bool)} {x : Tmp} {w : World} {B : Nat} {v : Int} (h : ρ (.tmp x) = .pointer (some ⟨B, 0, none⟩)) (hc : w.cell? ⟨B, 0, none⟩ = some (.int .u16 v)) :
    (execOp ρ ⟨d, .load 47 (.tmp x), ty, pos, af, g⟩).run Tryz.prog w = .ok (.value (.int .u16 v)) w := by
  go_simp
theorem run_conv_uint16 {ρ : Operand → Value} {d : Option Tmp} {ty : TypeId} {pos : String} {af : Array Edge} {g : Option (Nat × Bool)} {x : Tmp} {w : World} {v : Int} (h : ρ (.tmp x) = .int .u16 v) (h0 : 0 ≤ v) (h1 : v ≤ 65535) :
    (execOp ρ ⟨d, .convert 47 22 (.tmp x), ty, pos, af, g⟩).run Tryz.prog w = .ok (.value (.int .u64 v)) w := by
  go_simp
  rw [IntKind.wrap_u64]
  omega
theorem run_load_uint32 {ρ : Operand → Value} {d : Option Tmp} {ty : TypeId} {pos : String} {af : Array Edge} {g : Option (Nat × Bool)} {x : Tmp} {w : World} {B : Nat} {v : Int} (h : ρ (.tmp x) = .pointer (some ⟨B, 0, none⟩)) (hc : w.cell? ⟨B, 0, none⟩ = some (.int .u32 v)) :
    (execOp ρ ⟨d, .load 52 (.tmp x), ty, pos, af, g⟩).run Tryz.prog w = .ok (.value (.int .u32 v)) w := by
  go_simp
theorem run_conv_uint32 {ρ : Operand → Value} {d : Option Tmp} {ty : TypeId} {pos : String} {af : Array Edge} {g : Option (Nat × Bool)} {x : Tmp} {w : World} {v : Int} (h : ρ (.tmp x) = .int .u32 v) (h0 : 0 ≤ v) (h1 : v ≤ 4294967295) :
    (execOp ρ ⟨d, .convert 52 22 (.tmp x), ty, pos, af, g⟩).run Tryz.prog w = .ok (.value (.int .u64 v)) w := by
  go_simp
  rw [IntKind.wrap_u64]
  omega
theorem run_load_uint64 {ρ : Operand → Value} {d : Option Tmp} {ty : TypeId} {pos : String} {af : Array Edge} {g : Option (Nat × Bool)} {x : Tmp} {w : World} {B : Nat} {v : Int} (h : ρ (.tmp x) = .pointer (some ⟨B, 0, none⟩)) (hc : w.cell? ⟨B, 0, none⟩ = some (.int .u64 v)) :
    (execOp ρ ⟨d, .load 22 (.tmp x), ty, pos, af, g⟩).run Tryz.prog w = .ok (.value (.int .u64 v)) w := by
  go_simp

/-- The cell that a value points to, and the row of what was said. -/
structure UIn (w0 : World) (P : Nat) (ik : IntKind) (T : TypeId) (M : Nat) (l : List ByteArray) (k : Nat) (vo : Value) (wr : World) : Prop where
  bel : Below P w0 wr
  cell : ∃ x, wr.heap[P]? = some (.cells #[.int ik x] T (0, 0))
  row : wr.ownsRow (P + 1) 29 3 vo k (flatU M (l.take k))
end Go.Proofs.YtioldikeiiibgaaGreatDoor
