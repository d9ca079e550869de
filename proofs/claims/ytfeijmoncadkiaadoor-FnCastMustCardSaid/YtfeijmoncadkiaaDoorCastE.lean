/- Values of plain kinds, cast to int, int64, uint, uint64 with an error: the layers above the parsing and above the numbers. (Printed by gen_e.py.) -/
import Derived.Test.YtfeijmoncadkiaaDoorTrimD
import Derived.Test.YtfeijmoncadkiaaDoorTrim
import Derived.Test.YtfeijmoncadkiaaDoorPubIW
import Derived.Test.YtfeijmoncadkiaaDoorCastK
import Derived.Test.YtfeijmoncadkiaaDoorCastM0
import Derived.Test.YtfeijmoncadkiaaDoorCastM1
import Derived.Test.YtfeijmoncadkiaaDoorCastM2
import Derived.Test.YtfeijmoncadkiaaDoorCastM3
namespace Go.Proofs.YtfeijmoncadkiaaDoor
open Go.RowKit
set_option linter.unusedVariables false
set_option linter.unusedSimpArgs false

theorem EndV.first {v : Value} {b : Bool} {w w1 : World} {e : Ending} {w2 : World} (h : Below w.heap.size w w1) (k : EndV v b w1 e w2) : EndV v b w e w2 := by
  obtain ⟨er, h1, h2, h3⟩ := k
  exact ⟨er, h1, h2, Below.after h h3⟩
/-- What a text is worth as a signed number, and whether it is none. -/
noncomputable def pvI (s : ByteArray) : Int := if ib 9223372036854775808 18446744073709551615 (trimD s) then 0 else iv 9223372036854775808 18446744073709551615 (trimD s)
noncomputable def pbI (s : ByteArray) : Bool := ib 9223372036854775808 18446744073709551615 (trimD s)
noncomputable def pvU (s : ByteArray) : Int := if badE (pu0 18446744073709551615 (trimP (trimD s)).data.toList) then 0 else (valE 18446744073709551615 (pu0 18446744073709551615 (trimP (trimD s)).data.toList) : Nat)
noncomputable def pbU (s : ByteArray) : Bool := badE (pu0 18446744073709551615 (trimP (trimD s)).data.toList)
theorem pvI_le (s : ByteArray) : -9223372036854775808 ≤ pvI s ∧ pvI s < 9223372036854775808 := by
  unfold pvI
  have := iv_le 9223372036854775808 18446744073709551615 (by omega) (trimD s)
  split <;> omega
theorem pvU_le (s : ByteArray) : 0 ≤ pvU s ∧ pvU s < 18446744073709551616 := by
  unfold pvU
  have := valE_le (M := 18446744073709551615) (trimP (trimD s)).data.toList
  split <;> omega
/-- What a text is worth: the empty one is 0. -/
noncomputable def svI (s : ByteArray) : Int := if s.toList == [] then 0 else pvI s
noncomputable def sbI (s : ByteArray) : Bool := if s.toList == [] then false else pbI s
noncomputable def svU (s : ByteArray) : Int := if s.toList == [] then 0 else pvU s
noncomputable def sbU (s : ByteArray) : Bool := if s.toList == [] then false else pbU s
theorem svI_le (s : ByteArray) : -9223372036854775808 ≤ svI s ∧ svI s < 9223372036854775808 := by
  unfold svI
  have := pvI_le s
  split <;> omega
theorem svU_le (s : ByteArray) : 0 ≤ svU s ∧ svU s < 18446744073709551616 := by
  unfold svU
  have := pvU_le s
  split <;> omega
set_option maxRecDepth 100000 in
theorem errNew_any (s : ByteArray) (w : World) : Calls Tryd.prog 49 #[.string s] w fun e w' => (∃ t p, e = .returned (.iface t p)) ∧ Below w.heap.size w w' := by
  go_enter Tryd.func49, Tryd.ntmps49
  go_wp2_with fail
  go_ret
  exact ⟨⟨_, _, rfl⟩, (Below.refl _ _).alloc (Nat.le_refl _) _⟩
set_option maxRecDepth 100000 in
theorem parse_int (s : ByteArray) (hs : s.size ≤ 2147483646) (w : World) (hE : ErrsAt w) : Calls Tryd.prog 23 #[.string s] w (EndV (.int .i64 (pvI s)) (pbI s) w) := by
  have hn1 : ∀ t v w, Sem.run Tryd.prog (binOp BinOp.neq 37 (.iface t v) Value.nilIface) w = .ok (.bool true) w := fun _ _ _ => by kernel_rfl
  have hn0 : ∀ w, Sem.run Tryd.prog (binOp BinOp.neq 37 Value.nilIface Value.nilIface) w = .ok (.bool false) w := fun _ => by kernel_rfl
  have C := Lib.hid (trimD_any s hs w)
  have hz := trimD_size s hs
  have C2 := Lib.hid (pubI_any 0 9223372036854775808 18446744073709551615 ⟨rfl, rfl, rfl⟩ (trimD s) hz w hE)
  have h1 : pbI s = true → pvI s = 0 := fun h => by unfold pvI; exact if_pos h
  have h2 : pbI s = false → pvI s = iv 9223372036854775808 18446744073709551615 (trimD s) := fun h => by unfold pvI; exact if_neg (by rw [show ib _ _ _ = false from h]; decide)
  generalize pvI s = y at h1 h2 ⊢
  unfold pbI at h1 h2 ⊢
  clear hE hs hz
  generalize trimD s = t at *
  generalize iv 9223372036854775808 18446744073709551615 t = v at *
  generalize ib 9223372036854775808 18446744073709551615 t = bad at *
  have H1 := Lib.hid h1
  have H2 := Lib.hid h2
  clear h1 h2
  go_enter Tryd.func23, Tryd.ntmps23
  go_wp2_with fail
  refine C.out.mono ?_
  rintro e w1 ⟨rfl, rfl⟩
  go_wp2_with fail
  refine C2.out.mono ?_
  rintro e w2 ⟨er, rfl, her, hb⟩
  have HB := Lib.hid hb
  clear hb
  cases bad with
  | true =>
    obtain ⟨t1, p1, rfl⟩ := (show ∃ t p, er = .iface t p from her)
    obtain rfl : y = 0 := H1.out rfl
    go_wp2_with fail
    go_ret2
    exact ⟨_, rfl, ⟨_, _, rfl⟩, HB.out⟩
  | false =>
    obtain rfl : er = .nilIface := her
    obtain rfl : y = v := H2.out rfl
    go_wp2_with fail
    go_ret2
    exact ⟨_, rfl, rfl, HB.out⟩
set_option maxRecDepth 100000 in
theorem e_int (x : Value) (y : Int) (hu : ∀ W, Calls Tryd.prog 47 #[x] W fun e w' => e = .returned (.tuple #[.int .i64 y, .bool true]) ∧ w' = W) (w : World) : Calls Tryd.prog 14 #[x] w (EndV (.int .i64 y) false w) := by
  have E1 : ∀ f W, Calls Tryd.prog 22 #[x, f] W fun e w' => e = .returned (.tuple #[.int .i64 y, .nilIface]) ∧ w' = W := by
    intro f W
    have HU := Lib.hid hu
    clear hu
    go_enter Tryd.func22, Tryd.ntmps22
    go_wp2_with fail
    refine (HU.out _).mono ?_
    rintro e w1 ⟨rfl, rfl⟩
    go_wp2_with fail
    exact bodyPost_ret (v := .tuple #[.int .i64 y, .nilIface]) (by simp [results, Tryd.results22, go_sem]) rfl ⟨rfl, rfl⟩
  have HU := Lib.hid E1
  clear hu E1
  go_enter Tryd.func14, Tryd.ntmps14
  go_wp2_with fail
  refine (HU.out _ _).mono ?_
  rintro e w1 ⟨rfl, rfl⟩
  go_wp2_with fail
  exact bodyPost_ret (v := .tuple #[.int .i64 y, .nilIface]) (by simp [results, Tryd.results14, go_sem]) rfl ⟨_, rfl, rfl, Below.refl _ _⟩
set_option maxRecDepth 100000 in
theorem s_int (s : ByteArray) (hs : s.size ≤ 2147483646) (w : World) (hE : ErrsAt w) : Calls Tryd.prog 14 #[.iface 9 (.string s)] w (EndV (.int .i64 (svI s)) (sbI s) w) := by
  have hn1 : ∀ t v w, Sem.run Tryd.prog (binOp BinOp.neq 37 (.iface t v) Value.nilIface) w = .ok (.bool true) w := fun _ _ _ => by kernel_rfl
  have hn0 : ∀ w, Sem.run Tryd.prog (binOp BinOp.neq 37 Value.nilIface Value.nilIface) w = .ok (.bool false) w := fun _ => by kernel_rfl
  have ta : ∀ v w, (Instr.typeAssert (.iface 9 v) 20 9 true).run Tryd.prog w = .ok (.tuple #[v, .bool true]) w := fun _ _ => by kernel_rfl
  have C1 := Lib.hid (fun W => num_int_string s W)
  have C2 := Lib.hid (fun W => indirect_string (.string s) W)
  have C3 := Lib.hid (parse_int s hs w hE)
  have CN := Lib.hid (fun t W => errNew_any t W)
  have hcf : ∀ w, (callFunc 23 #[]).run Tryd.prog w = .ok (.enter 23 #[]) w := fun w => by simp [go_sem]
  have E1 : Calls Tryd.prog 22 #[.iface 9 (.string s), .func (.func 23) #[] #[]] w (EndV (.int .i64 (svI s)) (sbI s) w) := by
    clear hE hs
    cases h0 : s.toList == [] with
    | true =>
      have e1 : svI s = 0 := by rw [svI, if_pos h0]
      have e2 : sbI s = false := by rw [sbI, if_pos h0]
      rw [e1, e2]
      clear e1 e2
      go_enter Tryd.func22, Tryd.ntmps22
      go_wp2_with fail
      refine (C1.out _).mono ?_
      rintro e w1 ⟨rfl, rfl⟩
      go_wp2_with fail
      refine (C2.out _).mono ?_
      rintro e w1 ⟨rfl, rfl⟩
      go_wp2_with fail
      go_ret2
      exact ⟨_, rfl, rfl, Below.refl _ _⟩
    | false =>
      have e1 : svI s = pvI s := by rw [svI, if_neg (by rw [h0]; decide)]
      have e2 : sbI s = pbI s := by rw [sbI, if_neg (by rw [h0]; decide)]
      rw [e1, e2]
      clear e1 e2
      have hz : pbI s = true → pvI s = 0 := fun h => by unfold pvI; exact if_pos h
      have HZ := Lib.hid hz
      clear hz
      generalize pvI s = v at *
      generalize pbI s = bad at *
      go_enter Tryd.func22, Tryd.ntmps22
      go_wp2_with fail
      refine (C1.out _).mono ?_
      rintro e w1 ⟨rfl, rfl⟩
      go_wp2_with fail
      refine (C2.out _).mono ?_
      rintro e w1 ⟨rfl, rfl⟩
      go_wp2_with fail
      refine C3.out.mono ?_
      rintro e w2 ⟨er, rfl, her, hb⟩
      have HB := Lib.hid hb
      clear hb
      cases bad with
      | true =>
        obtain ⟨t1, p1, rfl⟩ := (show ∃ t p, er = .iface t p from her)
        obtain rfl := HZ.out rfl
        go_wp2_with fail
        refine (CN.out _ _).mono ?_
        rintro e w3 ⟨⟨t2, p2, rfl⟩, hb3⟩
        have HB3 := Lib.hid (Below.after HB.out hb3)
        clear hb3
        go_wp2_with fail
        go_ret2
        exact ⟨_, rfl, ⟨_, _, rfl⟩, HB3.out⟩
      | false =>
        obtain rfl : er = .nilIface := her
        go_wp2_with fail
        go_ret2
        exact ⟨_, rfl, rfl, HB.out⟩
  have HU := Lib.hid E1
  clear E1 C1 C2 C3 CN hE hs hn0 hn1 hcf
  generalize svI s = v at *
  generalize sbI s = bad at *
  go_enter Tryd.func14, Tryd.ntmps14
  go_wp2_with fail
  refine HU.out.mono ?_
  rintro e w1 ⟨er, rfl, her, hb⟩
  have HB := Lib.hid (And.intro her hb)
  clear her hb
  go_wp2_with fail
  go_ret2
  exact ⟨_, rfl, HB.out.1, HB.out.2⟩
set_option maxRecDepth 100000 in
theorem impl_int (vk vi vn vf vs vl vm x : Value) (y : Int) (bad : Bool) (hv : ∀ W, Calls Tryd.prog 15 #[.agg #[vk, vi, vn, vf, vs, vl, vm]] W fun e w' => e = .returned x ∧ Below W.heap.size W w')
    (he : ∀ W, ErrsAt W → Calls Tryd.prog 14 #[x] W (EndV (.int .i64 y) bad W)) (w : World) (hE : ErrsAt w) :
    Calls Tryd.prog 7 #[.agg #[vk, vi, vn, vf, vs, vl, vm]] w fun e w' => e = .returned (.tuple #[.int .i64 y, .bool (!bad)]) ∧ Below w.heap.size w w' := by
  have hn1 : ∀ t v w, Sem.run Tryd.prog (binOp BinOp.eql 37 (.iface t v) Value.nilIface) w = .ok (.bool false) w := fun _ _ _ => by kernel_rfl
  have hn0 : ∀ w, Sem.run Tryd.prog (binOp BinOp.eql 37 Value.nilIface Value.nilIface) w = .ok (.bool true) w := fun _ => by kernel_rfl
  have HV := Lib.hid hv
  have HU := Lib.hid he
  have HE := Lib.hid hE
  clear hv he hE
  go_enter Tryd.func7, Tryd.ntmps7
  go_wp2_with fail
  refine (HV.out _).mono ?_
  rintro e w1 ⟨rfl, hb1⟩
  have HB1 := Lib.hid (Below.after ((Below.refl _ _).alloc (Nat.le_refl _) _) hb1)
  have HE1 := Lib.hid (HE.out.later HB1.out.block)
  clear hb1
  go_wp2_with fail
  refine (HU.out _ HE1.out).mono ?_
  rintro e w2 ⟨er, rfl, her, hb⟩
  have HB := Lib.hid (Below.after HB1.out hb)
  clear hb
  cases bad with
  | true =>
    obtain ⟨t1, p1, rfl⟩ := (show ∃ t p, er = .iface t p from her)
    go_wp2_with fail
    go_quiet (fail)
    go_wp2_with fail
    go_ret2
    exact ⟨rfl, Below.drewN' HB.out⟩
  | false =>
    obtain rfl : er = .nilIface := her
    go_wp2_with fail
    go_quiet (fail)
    go_wp2_with fail
    go_ret2
    exact ⟨rfl, Below.drewN' HB.out⟩
set_option maxRecDepth 100000 in
theorem parse_int64 (s : ByteArray) (hs : s.size ≤ 2147483646) (w : World) (hE : ErrsAt w) : Calls Tryd.prog 41 #[.string s] w (EndV (.int .i64 (pvI s)) (pbI s) w) := by
  have hn1 : ∀ t v w, Sem.run Tryd.prog (binOp BinOp.neq 37 (.iface t v) Value.nilIface) w = .ok (.bool true) w := fun _ _ _ => by kernel_rfl
  have hn0 : ∀ w, Sem.run Tryd.prog (binOp BinOp.neq 37 Value.nilIface Value.nilIface) w = .ok (.bool false) w := fun _ => by kernel_rfl
  have C := Lib.hid (trimD_any s hs w)
  have hz := trimD_size s hs
  have C2 := Lib.hid (pubI_any 0 9223372036854775808 18446744073709551615 ⟨rfl, rfl, rfl⟩ (trimD s) hz w hE)
  have h1 : pbI s = true → pvI s = 0 := fun h => by unfold pvI; exact if_pos h
  have h2 : pbI s = false → pvI s = iv 9223372036854775808 18446744073709551615 (trimD s) := fun h => by unfold pvI; exact if_neg (by rw [show ib _ _ _ = false from h]; decide)
  generalize pvI s = y at h1 h2 ⊢
  unfold pbI at h1 h2 ⊢
  clear hE hs hz
  generalize trimD s = t at *
  generalize iv 9223372036854775808 18446744073709551615 t = v at *
  generalize ib 9223372036854775808 18446744073709551615 t = bad at *
  have H1 := Lib.hid h1
  have H2 := Lib.hid h2
  clear h1 h2
  go_enter Tryd.func41, Tryd.ntmps41
  go_wp2_with fail
  refine C.out.mono ?_
  rintro e w1 ⟨rfl, rfl⟩
  go_wp2_with fail
  refine C2.out.mono ?_
  rintro e w2 ⟨er, rfl, her, hb⟩
  have HB := Lib.hid hb
  clear hb
  cases bad with
  | true =>
    obtain ⟨t1, p1, rfl⟩ := (show ∃ t p, er = .iface t p from her)
    obtain rfl : y = 0 := H1.out rfl
    go_wp2_with fail
    go_ret2
    exact ⟨_, rfl, ⟨_, _, rfl⟩, HB.out⟩
  | false =>
    obtain rfl : er = .nilIface := her
    obtain rfl : y = v := H2.out rfl
    go_wp2_with fail
    go_ret2
    exact ⟨_, rfl, rfl, HB.out⟩
set_option maxRecDepth 100000 in
theorem e_int64 (x : Value) (y : Int) (hu : ∀ W, Calls Tryd.prog 53 #[x] W fun e w' => e = .returned (.tuple #[.int .i64 y, .bool true]) ∧ w' = W) (w : World) : Calls Tryd.prog 16 #[x] w (EndV (.int .i64 y) false w) := by
  have E1 : ∀ f W, Calls Tryd.prog 40 #[x, f] W fun e w' => e = .returned (.tuple #[.int .i64 y, .nilIface]) ∧ w' = W := by
    intro f W
    have HU := Lib.hid hu
    clear hu
    go_enter Tryd.func40, Tryd.ntmps40
    go_wp2_with fail
    refine (HU.out _).mono ?_
    rintro e w1 ⟨rfl, rfl⟩
    go_wp2_with fail
    exact bodyPost_ret (v := .tuple #[.int .i64 y, .nilIface]) (by simp [results, Tryd.results40, go_sem]) rfl ⟨rfl, rfl⟩
  have HU := Lib.hid E1
  clear hu E1
  go_enter Tryd.func16, Tryd.ntmps16
  go_wp2_with fail
  refine (HU.out _ _).mono ?_
  rintro e w1 ⟨rfl, rfl⟩
  go_wp2_with fail
  exact bodyPost_ret (v := .tuple #[.int .i64 y, .nilIface]) (by simp [results, Tryd.results16, go_sem]) rfl ⟨_, rfl, rfl, Below.refl _ _⟩
set_option maxRecDepth 100000 in
theorem s_int64 (s : ByteArray) (hs : s.size ≤ 2147483646) (w : World) (hE : ErrsAt w) : Calls Tryd.prog 16 #[.iface 9 (.string s)] w (EndV (.int .i64 (svI s)) (sbI s) w) := by
  have hn1 : ∀ t v w, Sem.run Tryd.prog (binOp BinOp.neq 37 (.iface t v) Value.nilIface) w = .ok (.bool true) w := fun _ _ _ => by kernel_rfl
  have hn0 : ∀ w, Sem.run Tryd.prog (binOp BinOp.neq 37 Value.nilIface Value.nilIface) w = .ok (.bool false) w := fun _ => by kernel_rfl
  have ta : ∀ v w, (Instr.typeAssert (.iface 9 v) 20 9 true).run Tryd.prog w = .ok (.tuple #[v, .bool true]) w := fun _ _ => by kernel_rfl
  have C1 := Lib.hid (fun W => num_int64_string s W)
  have C2 := Lib.hid (fun W => indirect_string (.string s) W)
  have C3 := Lib.hid (parse_int64 s hs w hE)
  have CN := Lib.hid (fun t W => errNew_any t W)
  have hcf : ∀ w, (callFunc 41 #[]).run Tryd.prog w = .ok (.enter 41 #[]) w := fun w => by simp [go_sem]
  have E1 : Calls Tryd.prog 40 #[.iface 9 (.string s), .func (.func 41) #[] #[]] w (EndV (.int .i64 (svI s)) (sbI s) w) := by
    clear hE hs
    cases h0 : s.toList == [] with
    | true =>
      have e1 : svI s = 0 := by rw [svI, if_pos h0]
      have e2 : sbI s = false := by rw [sbI, if_pos h0]
      rw [e1, e2]
      clear e1 e2
      go_enter Tryd.func40, Tryd.ntmps40
      go_wp2_with fail
      refine (C1.out _).mono ?_
      rintro e w1 ⟨rfl, rfl⟩
      go_wp2_with fail
      refine (C2.out _).mono ?_
      rintro e w1 ⟨rfl, rfl⟩
      go_wp2_with fail
      go_ret2
      exact ⟨_, rfl, rfl, Below.refl _ _⟩
    | false =>
      have e1 : svI s = pvI s := by rw [svI, if_neg (by rw [h0]; decide)]
      have e2 : sbI s = pbI s := by rw [sbI, if_neg (by rw [h0]; decide)]
      rw [e1, e2]
      clear e1 e2
      have hz : pbI s = true → pvI s = 0 := fun h => by unfold pvI; exact if_pos h
      have HZ := Lib.hid hz
      clear hz
      generalize pvI s = v at *
      generalize pbI s = bad at *
      go_enter Tryd.func40, Tryd.ntmps40
      go_wp2_with fail
      refine (C1.out _).mono ?_
      rintro e w1 ⟨rfl, rfl⟩
      go_wp2_with fail
      refine (C2.out _).mono ?_
      rintro e w1 ⟨rfl, rfl⟩
      go_wp2_with fail
      refine C3.out.mono ?_
      rintro e w2 ⟨er, rfl, her, hb⟩
      have HB := Lib.hid hb
      clear hb
      cases bad with
      | true =>
        obtain ⟨t1, p1, rfl⟩ := (show ∃ t p, er = .iface t p from her)
        obtain rfl := HZ.out rfl
        go_wp2_with fail
        refine (CN.out _ _).mono ?_
        rintro e w3 ⟨⟨t2, p2, rfl⟩, hb3⟩
        have HB3 := Lib.hid (Below.after HB.out hb3)
        clear hb3
        go_wp2_with fail
        go_ret2
        exact ⟨_, rfl, ⟨_, _, rfl⟩, HB3.out⟩
      | false =>
        obtain rfl : er = .nilIface := her
        go_wp2_with fail
        go_ret2
        exact ⟨_, rfl, rfl, HB.out⟩
  have HU := Lib.hid E1
  clear E1 C1 C2 C3 CN hE hs hn0 hn1 hcf
  generalize svI s = v at *
  generalize sbI s = bad at *
  go_enter Tryd.func16, Tryd.ntmps16
  go_wp2_with fail
  refine HU.out.mono ?_
  rintro e w1 ⟨er, rfl, her, hb⟩
  have HB := Lib.hid (And.intro her hb)
  clear her hb
  go_wp2_with fail
  go_ret2
  exact ⟨_, rfl, HB.out.1, HB.out.2⟩
set_option maxRecDepth 100000 in
theorem impl_int64 (vk vi vn vf vs vl vm x : Value) (y : Int) (bad : Bool) (hv : ∀ W, Calls Tryd.prog 15 #[.agg #[vk, vi, vn, vf, vs, vl, vm]] W fun e w' => e = .returned x ∧ Below W.heap.size W w')
    (he : ∀ W, ErrsAt W → Calls Tryd.prog 16 #[x] W (EndV (.int .i64 y) bad W)) (w : World) (hE : ErrsAt w) :
    Calls Tryd.prog 8 #[.agg #[vk, vi, vn, vf, vs, vl, vm]] w fun e w' => e = .returned (.tuple #[.int .i64 y, .bool (!bad)]) ∧ Below w.heap.size w w' := by
  have hn1 : ∀ t v w, Sem.run Tryd.prog (binOp BinOp.eql 37 (.iface t v) Value.nilIface) w = .ok (.bool false) w := fun _ _ _ => by kernel_rfl
  have hn0 : ∀ w, Sem.run Tryd.prog (binOp BinOp.eql 37 Value.nilIface Value.nilIface) w = .ok (.bool true) w := fun _ => by kernel_rfl
  have HV := Lib.hid hv
  have HU := Lib.hid he
  have HE := Lib.hid hE
  clear hv he hE
  go_enter Tryd.func8, Tryd.ntmps8
  go_wp2_with fail
  refine (HV.out _).mono ?_
  rintro e w1 ⟨rfl, hb1⟩
  have HB1 := Lib.hid (Below.after ((Below.refl _ _).alloc (Nat.le_refl _) _) hb1)
  have HE1 := Lib.hid (HE.out.later HB1.out.block)
  clear hb1
  go_wp2_with fail
  refine (HU.out _ HE1.out).mono ?_
  rintro e w2 ⟨er, rfl, her, hb⟩
  have HB := Lib.hid (Below.after HB1.out hb)
  clear hb
  cases bad with
  | true =>
    obtain ⟨t1, p1, rfl⟩ := (show ∃ t p, er = .iface t p from her)
    go_wp2_with fail
    go_quiet (fail)
    go_wp2_with fail
    go_ret2
    exact ⟨rfl, Below.drewN' HB.out⟩
  | false =>
    obtain rfl : er = .nilIface := her
    go_wp2_with fail
    go_quiet (fail)
    go_wp2_with fail
    go_ret2
    exact ⟨rfl, Below.drewN' HB.out⟩
set_option maxRecDepth 100000 in
theorem parse_uint (s : ByteArray) (hs : s.size ≤ 2147483646) (w : World) (hE : ErrsAt w) : Calls Tryd.prog 43 #[.string s] w (EndV (.int .u64 (pvU s)) (pbU s) w) := by
  have hn1 : ∀ t v w, Sem.run Tryd.prog (binOp BinOp.neq 37 (.iface t v) Value.nilIface) w = .ok (.bool true) w := fun _ _ _ => by kernel_rfl
  have hn0 : ∀ w, Sem.run Tryd.prog (binOp BinOp.neq 37 Value.nilIface Value.nilIface) w = .ok (.bool false) w := fun _ => by kernel_rfl
  have C := Lib.hid (trimD_any s hs w)
  have hz := trimD_size s hs
  have h1 : pbU s = true → pvU s = 0 := fun h => by unfold pvU; exact if_pos h
  have h2 : pbU s = false → pvU s = (valE 18446744073709551615 (pu0 18446744073709551615 (trimP (trimD s)).data.toList) : Nat) := fun h => by unfold pvU; exact if_neg (by rw [show badE _ = false from h]; decide)
  generalize pvU s = y at h1 h2 ⊢
  unfold pbU at h1 h2 ⊢
  clear hs
  generalize trimD s = d at *
  have CP := Lib.hid (trimP_any d hz w)
  have C2 := Lib.hid (fun W (hE : ErrsAt W) => pubU0_any (trimP d) (Nat.le_trans (trimL_size d _ _) hz) W hE)
  have HE := Lib.hid hE
  clear hE hz
  generalize trimP d = t at *
  generalize badE (pu0 18446744073709551615 t.data.toList) = bad at *
  obtain ⟨v, hv⟩ : ∃ v : Int, v = (valE 18446744073709551615 (pu0 18446744073709551615 t.data.toList) : Nat) := ⟨_, rfl⟩
  rw [← hv] at C2 h2
  clear hv
  have H1 := Lib.hid h1
  have H2 := Lib.hid h2
  clear h1 h2
  go_enter Tryd.func43, Tryd.ntmps43
  go_wp2_with fail
  refine C.out.mono ?_
  rintro e w1 ⟨rfl, rfl⟩
  go_wp2_with fail
  refine CP.out.mono ?_
  rintro e w1 ⟨rfl, hb1⟩
  have HB1 := Lib.hid hb1
  have HE1 := Lib.hid (HE.out.later hb1.block)
  clear hb1
  go_wp2_with fail
  refine (C2.out _ HE1.out).mono ?_
  rintro e w2 ⟨er, rfl, her, hb⟩
  have HB := Lib.hid (Below.after HB1.out hb)
  clear hb
  cases bad with
  | true =>
    obtain ⟨t1, p1, rfl⟩ := (show ∃ t p, er = .iface t p from her)
    obtain rfl : y = 0 := H1.out rfl
    go_wp2_with fail
    go_ret2
    exact ⟨_, rfl, ⟨_, _, rfl⟩, HB.out⟩
  | false =>
    obtain rfl : er = .nilIface := her
    obtain rfl : y = v := H2.out rfl
    go_wp2_with fail
    go_ret2
    exact ⟨_, rfl, rfl, HB.out⟩
set_option maxRecDepth 100000 in
theorem e_uint (x : Value) (y : Int) (hu : ∀ W, Calls Tryd.prog 54 #[x] W fun e w' => e = .returned (.tuple #[.int .u64 y, .bool true, .bool true]) ∧ w' = W) (w : World) : Calls Tryd.prog 17 #[x] w (EndV (.int .u64 y) false w) := by
  have E1 : ∀ f W, Calls Tryd.prog 42 #[x, f] W fun e w' => e = .returned (.tuple #[.int .u64 y, .nilIface]) ∧ w' = W := by
    intro f W
    have HU := Lib.hid hu
    clear hu
    go_enter Tryd.func42, Tryd.ntmps42
    go_wp2_with fail
    refine (HU.out _).mono ?_
    rintro e w1 ⟨rfl, rfl⟩
    go_wp2_with fail
    exact bodyPost_ret (v := .tuple #[.int .u64 y, .nilIface]) (by simp [results, Tryd.results42, go_sem]) rfl ⟨rfl, rfl⟩
  have HU := Lib.hid E1
  clear hu E1
  go_enter Tryd.func17, Tryd.ntmps17
  go_wp2_with fail
  refine (HU.out _ _).mono ?_
  rintro e w1 ⟨rfl, rfl⟩
  go_wp2_with fail
  exact bodyPost_ret (v := .tuple #[.int .u64 y, .nilIface]) (by simp [results, Tryd.results17, go_sem]) rfl ⟨_, rfl, rfl, Below.refl _ _⟩
set_option maxRecDepth 100000 in
theorem n_uint (x : Value) (hu : ∀ W, Calls Tryd.prog 54 #[x] W fun e w' => e = .returned (.tuple #[.int .u64 0, .bool false, .bool false]) ∧ w' = W) (hi : ∀ W, Calls Tryd.prog 48 #[x] W fun e w' => e = .returned (.tuple #[x, .bool false]) ∧ w' = W) (w : World) : Calls Tryd.prog 17 #[x] w (EndV (.int .u64 0) true w) := by
  have E1 : ∀ f W, Calls Tryd.prog 42 #[x, f] W (EndV (.int .u64 0) true W) := by
    intro f W
    have HU := Lib.hid hu
    have HI := Lib.hid hi
    clear hu hi
    go_enter Tryd.func42, Tryd.ntmps42
    go_wp2_with fail
    refine (HU.out _).mono ?_
    rintro e w1 ⟨rfl, rfl⟩
    go_wp2_with fail
    refine (HI.out _).mono ?_
    rintro e w1 ⟨rfl, rfl⟩
    go_wp2_with fail
    go_ret2
    exact ⟨_, rfl, ⟨_, _, rfl⟩, Below.refl _ _⟩
  have HU := Lib.hid E1
  clear hu hi E1
  go_enter Tryd.func17, Tryd.ntmps17
  go_wp2_with fail
  refine (HU.out _ _).mono ?_
  rintro e w1 ⟨er, rfl, ⟨t, p, rfl⟩, hb⟩
  have HB := Lib.hid hb
  clear hb
  go_wp2_with fail
  go_ret2
  exact ⟨_, rfl, ⟨_, _, rfl⟩, HB.out⟩
set_option maxRecDepth 100000 in
theorem s_uint (s : ByteArray) (hs : s.size ≤ 2147483646) (w : World) (hE : ErrsAt w) : Calls Tryd.prog 17 #[.iface 9 (.string s)] w (EndV (.int .u64 (svU s)) (sbU s) w) := by
  have hn1 : ∀ t v w, Sem.run Tryd.prog (binOp BinOp.neq 37 (.iface t v) Value.nilIface) w = .ok (.bool true) w := fun _ _ _ => by kernel_rfl
  have hn0 : ∀ w, Sem.run Tryd.prog (binOp BinOp.neq 37 Value.nilIface Value.nilIface) w = .ok (.bool false) w := fun _ => by kernel_rfl
  have ta : ∀ v w, (Instr.typeAssert (.iface 9 v) 20 9 true).run Tryd.prog w = .ok (.tuple #[v, .bool true]) w := fun _ _ => by kernel_rfl
  have C1 := Lib.hid (fun W => num_uint_string s W)
  have C2 := Lib.hid (fun W => indirect_string (.string s) W)
  have C3 := Lib.hid (parse_uint s hs w hE)
  have CN := Lib.hid (fun t W => errNew_any t W)
  have hcf : ∀ w, (callFunc 43 #[]).run Tryd.prog w = .ok (.enter 43 #[]) w := fun w => by simp [go_sem]
  have E1 : Calls Tryd.prog 42 #[.iface 9 (.string s), .func (.func 43) #[] #[]] w (EndV (.int .u64 (svU s)) (sbU s) w) := by
    clear hE hs
    cases h0 : s.toList == [] with
    | true =>
      have e1 : svU s = 0 := by rw [svU, if_pos h0]
      have e2 : sbU s = false := by rw [sbU, if_pos h0]
      rw [e1, e2]
      clear e1 e2
      go_enter Tryd.func42, Tryd.ntmps42
      go_wp2_with fail
      refine (C1.out _).mono ?_
      rintro e w1 ⟨rfl, rfl⟩
      go_wp2_with fail
      refine (C2.out _).mono ?_
      rintro e w1 ⟨rfl, rfl⟩
      go_wp2_with fail
      go_ret2
      exact ⟨_, rfl, rfl, Below.refl _ _⟩
    | false =>
      have e1 : svU s = pvU s := by rw [svU, if_neg (by rw [h0]; decide)]
      have e2 : sbU s = pbU s := by rw [sbU, if_neg (by rw [h0]; decide)]
      rw [e1, e2]
      clear e1 e2
      have hz : pbU s = true → pvU s = 0 := fun h => by unfold pvU; exact if_pos h
      have HZ := Lib.hid hz
      clear hz
      generalize pvU s = v at *
      generalize pbU s = bad at *
      go_enter Tryd.func42, Tryd.ntmps42
      go_wp2_with fail
      refine (C1.out _).mono ?_
      rintro e w1 ⟨rfl, rfl⟩
      go_wp2_with fail
      refine (C2.out _).mono ?_
      rintro e w1 ⟨rfl, rfl⟩
      go_wp2_with fail
      refine C3.out.mono ?_
      rintro e w2 ⟨er, rfl, her, hb⟩
      have HB := Lib.hid hb
      clear hb
      cases bad with
      | true =>
        obtain ⟨t1, p1, rfl⟩ := (show ∃ t p, er = .iface t p from her)
        obtain rfl := HZ.out rfl
        go_wp2_with fail
        refine (CN.out _ _).mono ?_
        rintro e w3 ⟨⟨t2, p2, rfl⟩, hb3⟩
        have HB3 := Lib.hid (Below.after HB.out hb3)
        clear hb3
        go_wp2_with fail
        go_ret2
        exact ⟨_, rfl, ⟨_, _, rfl⟩, HB3.out⟩
      | false =>
        obtain rfl : er = .nilIface := her
        go_wp2_with fail
        go_ret2
        exact ⟨_, rfl, rfl, HB.out⟩
  have HU := Lib.hid E1
  clear E1 C1 C2 C3 CN hE hs hn0 hn1 hcf
  generalize svU s = v at *
  generalize sbU s = bad at *
  go_enter Tryd.func17, Tryd.ntmps17
  go_wp2_with fail
  refine HU.out.mono ?_
  rintro e w1 ⟨er, rfl, her, hb⟩
  have HB := Lib.hid (And.intro her hb)
  clear her hb
  go_wp2_with fail
  go_ret2
  exact ⟨_, rfl, HB.out.1, HB.out.2⟩
set_option maxRecDepth 100000 in
theorem impl_uint (vk vi vn vf vs vl vm x : Value) (y : Int) (bad : Bool) (hv : ∀ W, Calls Tryd.prog 15 #[.agg #[vk, vi, vn, vf, vs, vl, vm]] W fun e w' => e = .returned x ∧ Below W.heap.size W w')
    (he : ∀ W, ErrsAt W → Calls Tryd.prog 17 #[x] W (EndV (.int .u64 y) bad W)) (w : World) (hE : ErrsAt w) :
    Calls Tryd.prog 9 #[.agg #[vk, vi, vn, vf, vs, vl, vm]] w fun e w' => e = .returned (.tuple #[.int .u64 y, .bool (!bad)]) ∧ Below w.heap.size w w' := by
  have hn1 : ∀ t v w, Sem.run Tryd.prog (binOp BinOp.eql 37 (.iface t v) Value.nilIface) w = .ok (.bool false) w := fun _ _ _ => by kernel_rfl
  have hn0 : ∀ w, Sem.run Tryd.prog (binOp BinOp.eql 37 Value.nilIface Value.nilIface) w = .ok (.bool true) w := fun _ => by kernel_rfl
  have HV := Lib.hid hv
  have HU := Lib.hid he
  have HE := Lib.hid hE
  clear hv he hE
  go_enter Tryd.func9, Tryd.ntmps9
  go_wp2_with fail
  refine (HV.out _).mono ?_
  rintro e w1 ⟨rfl, hb1⟩
  have HB1 := Lib.hid (Below.after ((Below.refl _ _).alloc (Nat.le_refl _) _) hb1)
  have HE1 := Lib.hid (HE.out.later HB1.out.block)
  clear hb1
  go_wp2_with fail
  refine (HU.out _ HE1.out).mono ?_
  rintro e w2 ⟨er, rfl, her, hb⟩
  have HB := Lib.hid (Below.after HB1.out hb)
  clear hb
  cases bad with
  | true =>
    obtain ⟨t1, p1, rfl⟩ := (show ∃ t p, er = .iface t p from her)
    go_wp2_with fail
    go_quiet (fail)
    go_wp2_with fail
    go_ret2
    exact ⟨rfl, Below.drewN' HB.out⟩
  | false =>
    obtain rfl : er = .nilIface := her
    go_wp2_with fail
    go_quiet (fail)
    go_wp2_with fail
    go_ret2
    exact ⟨rfl, Below.drewN' HB.out⟩
set_option maxRecDepth 100000 in
theorem parse_uint64 (s : ByteArray) (hs : s.size ≤ 2147483646) (w : World) (hE : ErrsAt w) : Calls Tryd.prog 45 #[.string s] w (EndV (.int .u64 (pvU s)) (pbU s) w) := by
  have hn1 : ∀ t v w, Sem.run Tryd.prog (binOp BinOp.neq 37 (.iface t v) Value.nilIface) w = .ok (.bool true) w := fun _ _ _ => by kernel_rfl
  have hn0 : ∀ w, Sem.run Tryd.prog (binOp BinOp.neq 37 Value.nilIface Value.nilIface) w = .ok (.bool false) w := fun _ => by kernel_rfl
  have C := Lib.hid (trimD_any s hs w)
  have hz := trimD_size s hs
  have h1 : pbU s = true → pvU s = 0 := fun h => by unfold pvU; exact if_pos h
  have h2 : pbU s = false → pvU s = (valE 18446744073709551615 (pu0 18446744073709551615 (trimP (trimD s)).data.toList) : Nat) := fun h => by unfold pvU; exact if_neg (by rw [show badE _ = false from h]; decide)
  generalize pvU s = y at h1 h2 ⊢
  unfold pbU at h1 h2 ⊢
  clear hs
  generalize trimD s = d at *
  have CP := Lib.hid (trimP_any d hz w)
  have C2 := Lib.hid (fun W (hE : ErrsAt W) => pubU0_any (trimP d) (Nat.le_trans (trimL_size d _ _) hz) W hE)
  have HE := Lib.hid hE
  clear hE hz
  generalize trimP d = t at *
  generalize badE (pu0 18446744073709551615 t.data.toList) = bad at *
  obtain ⟨v, hv⟩ : ∃ v : Int, v = (valE 18446744073709551615 (pu0 18446744073709551615 t.data.toList) : Nat) := ⟨_, rfl⟩
  rw [← hv] at C2 h2
  clear hv
  have H1 := Lib.hid h1
  have H2 := Lib.hid h2
  clear h1 h2
  go_enter Tryd.func45, Tryd.ntmps45
  go_wp2_with fail
  refine C.out.mono ?_
  rintro e w1 ⟨rfl, rfl⟩
  go_wp2_with fail
  refine CP.out.mono ?_
  rintro e w1 ⟨rfl, hb1⟩
  have HB1 := Lib.hid hb1
  have HE1 := Lib.hid (HE.out.later hb1.block)
  clear hb1
  go_wp2_with fail
  refine (C2.out _ HE1.out).mono ?_
  rintro e w2 ⟨er, rfl, her, hb⟩
  have HB := Lib.hid (Below.after HB1.out hb)
  clear hb
  cases bad with
  | true =>
    obtain ⟨t1, p1, rfl⟩ := (show ∃ t p, er = .iface t p from her)
    obtain rfl : y = 0 := H1.out rfl
    go_wp2_with fail
    go_ret2
    exact ⟨_, rfl, ⟨_, _, rfl⟩, HB.out⟩
  | false =>
    obtain rfl : er = .nilIface := her
    obtain rfl : y = v := H2.out rfl
    go_wp2_with fail
    go_ret2
    exact ⟨_, rfl, rfl, HB.out⟩
set_option maxRecDepth 100000 in
theorem e_uint64 (x : Value) (y : Int) (hu : ∀ W, Calls Tryd.prog 57 #[x] W fun e w' => e = .returned (.tuple #[.int .u64 y, .bool true, .bool true]) ∧ w' = W) (w : World) : Calls Tryd.prog 18 #[x] w (EndV (.int .u64 y) false w) := by
  have E1 : ∀ f W, Calls Tryd.prog 44 #[x, f] W fun e w' => e = .returned (.tuple #[.int .u64 y, .nilIface]) ∧ w' = W := by
    intro f W
    have HU := Lib.hid hu
    clear hu
    go_enter Tryd.func44, Tryd.ntmps44
    go_wp2_with fail
    refine (HU.out _).mono ?_
    rintro e w1 ⟨rfl, rfl⟩
    go_wp2_with fail
    exact bodyPost_ret (v := .tuple #[.int .u64 y, .nilIface]) (by simp [results, Tryd.results44, go_sem]) rfl ⟨rfl, rfl⟩
  have HU := Lib.hid E1
  clear hu E1
  go_enter Tryd.func18, Tryd.ntmps18
  go_wp2_with fail
  refine (HU.out _ _).mono ?_
  rintro e w1 ⟨rfl, rfl⟩
  go_wp2_with fail
  exact bodyPost_ret (v := .tuple #[.int .u64 y, .nilIface]) (by simp [results, Tryd.results18, go_sem]) rfl ⟨_, rfl, rfl, Below.refl _ _⟩
set_option maxRecDepth 100000 in
theorem n_uint64 (x : Value) (hu : ∀ W, Calls Tryd.prog 57 #[x] W fun e w' => e = .returned (.tuple #[.int .u64 0, .bool false, .bool false]) ∧ w' = W) (hi : ∀ W, Calls Tryd.prog 48 #[x] W fun e w' => e = .returned (.tuple #[x, .bool false]) ∧ w' = W) (w : World) : Calls Tryd.prog 18 #[x] w (EndV (.int .u64 0) true w) := by
  have E1 : ∀ f W, Calls Tryd.prog 44 #[x, f] W (EndV (.int .u64 0) true W) := by
    intro f W
    have HU := Lib.hid hu
    have HI := Lib.hid hi
    clear hu hi
    go_enter Tryd.func44, Tryd.ntmps44
    go_wp2_with fail
    refine (HU.out _).mono ?_
    rintro e w1 ⟨rfl, rfl⟩
    go_wp2_with fail
    refine (HI.out _).mono ?_
    rintro e w1 ⟨rfl, rfl⟩
    go_wp2_with fail
    go_ret2
    exact ⟨_, rfl, ⟨_, _, rfl⟩, Below.refl _ _⟩
  have HU := Lib.hid E1
  clear hu hi E1
  go_enter Tryd.func18, Tryd.ntmps18
  go_wp2_with fail
  refine (HU.out _ _).mono ?_
  rintro e w1 ⟨er, rfl, ⟨t, p, rfl⟩, hb⟩
  have HB := Lib.hid hb
  clear hb
  go_wp2_with fail
  go_ret2
  exact ⟨_, rfl, ⟨_, _, rfl⟩, HB.out⟩
set_option maxRecDepth 100000 in
theorem s_uint64 (s : ByteArray) (hs : s.size ≤ 2147483646) (w : World) (hE : ErrsAt w) : Calls Tryd.prog 18 #[.iface 9 (.string s)] w (EndV (.int .u64 (svU s)) (sbU s) w) := by
  have hn1 : ∀ t v w, Sem.run Tryd.prog (binOp BinOp.neq 37 (.iface t v) Value.nilIface) w = .ok (.bool true) w := fun _ _ _ => by kernel_rfl
  have hn0 : ∀ w, Sem.run Tryd.prog (binOp BinOp.neq 37 Value.nilIface Value.nilIface) w = .ok (.bool false) w := fun _ => by kernel_rfl
  have ta : ∀ v w, (Instr.typeAssert (.iface 9 v) 20 9 true).run Tryd.prog w = .ok (.tuple #[v, .bool true]) w := fun _ _ => by kernel_rfl
  have C1 := Lib.hid (fun W => num_uint64_string s W)
  have C2 := Lib.hid (fun W => indirect_string (.string s) W)
  have C3 := Lib.hid (parse_uint64 s hs w hE)
  have CN := Lib.hid (fun t W => errNew_any t W)
  have hcf : ∀ w, (callFunc 45 #[]).run Tryd.prog w = .ok (.enter 45 #[]) w := fun w => by simp [go_sem]
  have E1 : Calls Tryd.prog 44 #[.iface 9 (.string s), .func (.func 45) #[] #[]] w (EndV (.int .u64 (svU s)) (sbU s) w) := by
    clear hE hs
    cases h0 : s.toList == [] with
    | true =>
      have e1 : svU s = 0 := by rw [svU, if_pos h0]
      have e2 : sbU s = false := by rw [sbU, if_pos h0]
      rw [e1, e2]
      clear e1 e2
      go_enter Tryd.func44, Tryd.ntmps44
      go_wp2_with fail
      refine (C1.out _).mono ?_
      rintro e w1 ⟨rfl, rfl⟩
      go_wp2_with fail
      refine (C2.out _).mono ?_
      rintro e w1 ⟨rfl, rfl⟩
      go_wp2_with fail
      go_ret2
      exact ⟨_, rfl, rfl, Below.refl _ _⟩
    | false =>
      have e1 : svU s = pvU s := by rw [svU, if_neg (by rw [h0]; decide)]
      have e2 : sbU s = pbU s := by rw [sbU, if_neg (by rw [h0]; decide)]
      rw [e1, e2]
      clear e1 e2
      have hz : pbU s = true → pvU s = 0 := fun h => by unfold pvU; exact if_pos h
      have HZ := Lib.hid hz
      clear hz
      generalize pvU s = v at *
      generalize pbU s = bad at *
      go_enter Tryd.func44, Tryd.ntmps44
      go_wp2_with fail
      refine (C1.out _).mono ?_
      rintro e w1 ⟨rfl, rfl⟩
      go_wp2_with fail
      refine (C2.out _).mono ?_
      rintro e w1 ⟨rfl, rfl⟩
      go_wp2_with fail
      refine C3.out.mono ?_
      rintro e w2 ⟨er, rfl, her, hb⟩
      have HB := Lib.hid hb
      clear hb
      cases bad with
      | true =>
        obtain ⟨t1, p1, rfl⟩ := (show ∃ t p, er = .iface t p from her)
        obtain rfl := HZ.out rfl
        go_wp2_with fail
        refine (CN.out _ _).mono ?_
        rintro e w3 ⟨⟨t2, p2, rfl⟩, hb3⟩
        have HB3 := Lib.hid (Below.after HB.out hb3)
        clear hb3
        go_wp2_with fail
        go_ret2
        exact ⟨_, rfl, ⟨_, _, rfl⟩, HB3.out⟩
      | false =>
        obtain rfl : er = .nilIface := her
        go_wp2_with fail
        go_ret2
        exact ⟨_, rfl, rfl, HB.out⟩
  have HU := Lib.hid E1
  clear E1 C1 C2 C3 CN hE hs hn0 hn1 hcf
  generalize svU s = v at *
  generalize sbU s = bad at *
  go_enter Tryd.func18, Tryd.ntmps18
  go_wp2_with fail
  refine HU.out.mono ?_
  rintro e w1 ⟨er, rfl, her, hb⟩
  have HB := Lib.hid (And.intro her hb)
  clear her hb
  go_wp2_with fail
  go_ret2
  exact ⟨_, rfl, HB.out.1, HB.out.2⟩
set_option maxRecDepth 100000 in
theorem impl_uint64 (vk vi vn vf vs vl vm x : Value) (y : Int) (bad : Bool) (hv : ∀ W, Calls Tryd.prog 15 #[.agg #[vk, vi, vn, vf, vs, vl, vm]] W fun e w' => e = .returned x ∧ Below W.heap.size W w')
    (he : ∀ W, ErrsAt W → Calls Tryd.prog 18 #[x] W (EndV (.int .u64 y) bad W)) (w : World) (hE : ErrsAt w) :
    Calls Tryd.prog 10 #[.agg #[vk, vi, vn, vf, vs, vl, vm]] w fun e w' => e = .returned (.tuple #[.int .u64 y, .bool (!bad)]) ∧ Below w.heap.size w w' := by
  have hn1 : ∀ t v w, Sem.run Tryd.prog (binOp BinOp.eql 37 (.iface t v) Value.nilIface) w = .ok (.bool false) w := fun _ _ _ => by kernel_rfl
  have hn0 : ∀ w, Sem.run Tryd.prog (binOp BinOp.eql 37 Value.nilIface Value.nilIface) w = .ok (.bool true) w := fun _ => by kernel_rfl
  have HV := Lib.hid hv
  have HU := Lib.hid he
  have HE := Lib.hid hE
  clear hv he hE
  go_enter Tryd.func10, Tryd.ntmps10
  go_wp2_with fail
  refine (HV.out _).mono ?_
  rintro e w1 ⟨rfl, hb1⟩
  have HB1 := Lib.hid (Below.after ((Below.refl _ _).alloc (Nat.le_refl _) _) hb1)
  have HE1 := Lib.hid (HE.out.later HB1.out.block)
  clear hb1
  go_wp2_with fail
  refine (HU.out _ HE1.out).mono ?_
  rintro e w2 ⟨er, rfl, her, hb⟩
  have HB := Lib.hid (Below.after HB1.out hb)
  clear hb
  cases bad with
  | true =>
    obtain ⟨t1, p1, rfl⟩ := (show ∃ t p, er = .iface t p from her)
    go_wp2_with fail
    go_quiet (fail)
    go_wp2_with fail
    go_ret2
    exact ⟨rfl, Below.drewN' HB.out⟩
  | false =>
    obtain rfl : er = .nilIface := her
    go_wp2_with fail
    go_quiet (fail)
    go_wp2_with fail
    go_ret2
    exact ⟨rfl, Below.drewN' HB.out⟩
end Go.Proofs.YtfeijmoncadkiaaDoor
