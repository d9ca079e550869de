/- FnCastMust: Must answers the value, and panics just if there is an error. (Printed by gen_wide.py.) -/
import Derived.Test.YtfeijmoncadkiaaDoorCastX
import Derived.Test.YtfeijmoncadkiaaDoorLaidE
import Derived.Test.YtfeijmoncadkiaaDoorGuardM
namespace Go.Proofs.YtfeijmoncadkiaaDoor
open Go.RowKit Go.ChangeShapes Go.WideShapes
set_option linter.unusedVariables false
set_option linter.unusedSimpArgs false

/-- A pointer to a variable of one block. -/
abbrev ptr (b : Nat) : Value := .pointer (some ⟨b, 0, none⟩)
set_option maxRecDepth 100000 in
theorem must1_ok (a : Array Value) (x : Value) (y z : Int) (q : Bool) (hP : PlainTo a x y z false q) (A N : Nat) (w : World) (hE : ErrsAt w) (ha : (Tryd.prog.info? 27).map (·.size) = some a.size) (hA : w.heap[A]? = some (.cells a 27 (0, 0))) (hN : w.heap[N]? = some (.cells #[.int .i64 0] 3 (0, 0))) :
    Calls Tryd.prog 20 #[ptr A, ptr N] w fun e w' => e = .returned (.tuple #[]) ∧ ∃ w1, Below w.heap.size w w1 ∧ w' = w1.setCell ⟨N, 0, none⟩ (.int .i64 y) := by
  have HV := Lib.hid hP.val
  have HU := Lib.hid hP.toI
  have HE := Lib.hid (fun W (h : Below w.heap.size w W) => hE.later h.block)
  have HM := Lib.hid (fun W => must_ok y W)
  have HA := Lib.hid hA
  have HN := Lib.hid hN
  have HZ := Lib.hid ha
  clear hP hE hA hN ha
  unfold ptr
  go_enter Tryd.func20, Tryd.ntmps20
  go_wp2_with (refine wpList_load_row (by rfl) 27 (.tmp 0) (by rfl) A (by rfl) _ _ _ _ HA.out Tryd.underlying27 (by rfl) HZ.out ?_)
  refine (HV.out _).mono ?_
  rintro e w1 ⟨rfl, hb1⟩
  have HB1 := Lib.hid hb1
  clear hb1
  go_wp2_with fail
  refine (HU.out _ (HE.out _ HB1.out)).mono ?_
  rintro e w2 ⟨er, rfl, her, hb2⟩
  have HB2 := Lib.hid (Below.after HB1.out hb2)
  clear hb2
  obtain rfl : er = .nilIface := her
  go_wp2_with fail
  refine (HM.out _).mono ?_
  rintro e w3 ⟨rfl, rfl⟩
  have hc := (HB2.out.block N (lt_of_block HN.out)).trans HN.out
  have q1 := cell_of_one hc
  have q2 := free_of_one hc
  clear hc
  go_wp2_with fail
  go_end0
  exact ⟨rfl, _, HB2.out, rfl⟩
set_option maxRecDepth 100000 in
theorem must1_bad (a : Array Value) (x : Value) (y z : Int) (q : Bool) (hP : PlainTo a x y z true q) (A N : Nat) (w : World) (hE : ErrsAt w) (ha : (Tryd.prog.info? 27).map (·.size) = some a.size) (hA : w.heap[A]? = some (.cells a 27 (0, 0))) :
    Calls Tryd.prog 20 #[ptr A, ptr N] w fun e w' => (∃ u pv, e = .panicked [{ v := .iface u pv, recovered := false }]) ∧ Below w.heap.size w w' := by
  have HV := Lib.hid hP.val
  have HU := Lib.hid hP.toI
  have HE := Lib.hid (fun W (h : Below w.heap.size w W) => hE.later h.block)
  have HM := Lib.hid (fun x t p W => must_bad x t p W)
  have HA := Lib.hid hA
  have HZ := Lib.hid ha
  clear hP hE hA ha
  unfold ptr
  go_enter Tryd.func20, Tryd.ntmps20
  go_wp2_with (refine wpList_load_row (by rfl) 27 (.tmp 0) (by rfl) A (by rfl) _ _ _ _ HA.out Tryd.underlying27 (by rfl) HZ.out ?_)
  refine (HV.out _).mono ?_
  rintro e w1 ⟨rfl, hb1⟩
  have HB1 := Lib.hid hb1
  clear hb1
  go_wp2_with fail
  refine (HU.out _ (HE.out _ HB1.out)).mono ?_
  rintro e w2 ⟨er, rfl, her, hb2⟩
  have HB2 := Lib.hid (Below.after HB1.out hb2)
  clear hb2
  obtain ⟨t1, p1, rfl⟩ := (show ∃ t p, er = .iface t p from her)
  go_wp2_with fail
  refine (HM.out _ _ _ _).mono ?_
  rintro e w3 ⟨⟨u, pv, rfl⟩, rfl⟩
  go_wp2_with fail
  exact ⟨rfl, ⟨_, _, rfl⟩, HB2.out⟩
set_option maxRecDepth 100000 in
theorem mustInt_any (a : Array Value) (x : Value) (y z : Int) (p q : Bool) (hP : PlainTo a x y z p q) (w : World) (hE : ErrsAt w) (ha : (Tryd.prog.info? 27).map (·.size) = some a.size) :
    Calls Tryd.prog 12 #[.agg a] w fun e w' => (∃ v, e = .returned (.tuple #[.int .i64 v, .bool p]) ∧ (p = false → v = y)) ∧ Below w.heap.size w w' := by
  have hmf : ∀ (fn : Fn) (first cap : Array Value) (w : World), (Instr.makeFunc fn first cap).run Tryd.prog w = .ok (.func fn first cap) w := fun _ _ _ _ => rfl
  have hsz : ((w.alloc (.cells a 27)).alloc (.cells #[.int .i64 0] 3)).heap.size = w.heap.size + 2 := two_size _ _ _
  have hbe : Below w.heap.size w ((w.alloc (.cells a 27)).alloc (.cells #[.int .i64 0] 3)) := two_below _ _ _
  have hat : ((w.alloc (.cells a 27)).alloc (.cells #[.int .i64 0] 3)).heap[w.heap.size]? = some (.cells a 27 (0, 0)) := heap_past' (by show w.heap.size < (w.heap.push _).size; simp) (heap_alloc_new _ _)
  have hnt : ((w.alloc (.cells a 27)).alloc (.cells #[.int .i64 0] 3)).heap[w.heap.size + 1]? = some (.cells #[.int .i64 0] 3 (0, 0)) := heap_alloc2_new _ _ _
  have hE2 := hE.later hbe.block
  obtain ⟨w2, hw2⟩ : ∃ w2, w2 = (w.alloc (.cells a 27)).alloc (.cells #[.int .i64 0] 3) := ⟨_, rfl⟩
  rw [← hw2] at hsz hbe hat hnt hE2
  have hE3 : ErrsAt (w2.alloc (.cells #[.bool false] 4)) := hE2.later ((Below.refl w2.heap.size w2).alloc (Nat.le_refl _) _).block
  have hat3 : (w2.alloc (.cells #[.bool false] 4)).heap[w.heap.size]? = some (.cells a 27 (0, 0)) := heap_past' (by omega) hat
  have hnt3 : (w2.alloc (.cells #[.bool false] 4)).heap[w.heap.size + 1]? = some (.cells #[.int .i64 0] 3 (0, 0)) := heap_past' (by omega) hnt
  have hbt3 : (w2.alloc (.cells #[.bool false] 4)).heap[w2.heap.size]? = some (.cells #[.bool false] 4 (0, 0)) := heap_alloc_new _ _
  have hz3 : (w2.alloc (.cells #[.bool false] 4)).heap.size = w.heap.size + 3 := by show (w2.heap.push _).size = _; simp; omega
  have hb3 : Below w.heap.size w (w2.alloc (.cells #[.bool false] 4)) := hbe.alloc (by omega) _
  cases p with
  | false =>
    have C := must1_ok a x y z q hP w.heap.size (w.heap.size + 1) _ hE3 ha hat3 hnt3
    have G := guarded_ok 20 #[ptr w.heap.size, ptr (w.heap.size + 1)] w2 (fun w' => w'.heap[w.heap.size + 1]? = some (.cells #[.int .i64 y] 3 (0, 0)) ∧ w'.heap[w2.heap.size]? = some (.cells #[.bool false] 4 (0, 0)) ∧ Below w.heap.size w w') w2.heap.size rfl (fun w => by simp [go_sem])
      (C.mono (by
        rintro e w' ⟨rfl, w1, hb, rfl⟩
        have hn1 := (hb.block (w.heap.size + 1) (by omega)).trans hnt3
        have hf1 := (hb.block w2.heap.size (by omega)).trans hbt3
        exact ⟨rfl, by simpa using heap_set hn1 0 (.int .i64 y), heap_ne' (by show w2.heap.size ≠ w.heap.size + 1; omega) hf1, (hb3.trans (hb.mono (by omega))).setCell (by show w.heap.size ≤ w.heap.size + 1; omega) _⟩))
      (fun w' h => h.2.1)
    have HG := Lib.hid G
    have HW2 := Lib.hid hw2
    clear C G hP hE ha hsz hbe hat hnt hE2 hw2 hE3 hat3 hnt3 hbt3 hz3 hb3
    unfold ptr at HG
    go_enter Tryd.func12, Tryd.ntmps12
    go_wp2_with fail
    rw [← HW2.out]
    refine HG.out.mono ?_
    rintro e w4 ⟨rfl, h1, -, h2⟩
    have HB := Lib.hid h2
    have q1 := cell_of_one h1
    clear h1 h2
    go_wp2_with fail
    go_ret2
    exact ⟨⟨_, rfl, fun _ => rfl⟩, HB.out⟩
  | true =>
    have C := must1_bad a x y z q hP w.heap.size (w.heap.size + 1) _ hE3 ha hat3
    have G := guarded_bad 20 #[ptr w.heap.size, ptr (w.heap.size + 1)] w2 (fun w' => w'.heap[w2.heap.size]? = some (.cells #[.bool false] 4 (0, 0)) ∧ Below w.heap.size w w') w2.heap.size rfl (fun w => by simp [go_sem])
      (C.mono (by
        rintro e w' ⟨hp, hb⟩
        exact ⟨hp, (hb.block w2.heap.size (by omega)).trans hbt3, hb3.trans (hb.mono (by omega))⟩))
      (fun w' h => h.1)
    have G2 : Calls Tryd.prog 19 #[.func (.func 20) #[] #[ptr w.heap.size, ptr (w.heap.size + 1)]] w2 (fun e w' => e = .returned (.bool true) ∧ Below w.heap.size w w') := G.mono (by
      intro e w' h
      obtain ⟨he, w1, ⟨-, hb⟩, hw⟩ := h
      rw [hw]
      exact ⟨he, hb.setCell (by show w.heap.size ≤ w2.heap.size; omega) _⟩)
    have HG := Lib.hid G2
    have HW2 := Lib.hid hw2
    clear C G G2 hP hE ha hsz hbe hat hnt hE2 hw2 hE3 hat3 hnt3 hbt3 hz3 hb3
    unfold ptr at HG
    go_enter Tryd.func12, Tryd.ntmps12
    go_wp2_with fail
    rw [← HW2.out]
    refine HG.out.mono ?_
    rintro e w4 ⟨rfl, h2⟩
    have HB := Lib.hid h2
    clear h2
    go_wp2_with fail
    go_ret2
    exact ⟨⟨_, rfl, fun h => by cases h⟩, HB.out⟩
set_option maxRecDepth 100000 in
theorem fnCastMust_core (k i u : Int) (b : Nat) (s : ByteArray) (x y : Option Addr) (n c m d : Nat) (hk : -9223372036854775808 ≤ k ∧ k < 9223372036854775808) (hi : -9223372036854775808 ≤ i ∧ i < 9223372036854775808) (hu : 0 ≤ u ∧ u < 18446744073709551616) (w : World) (hE : ErrsAt w) :
    Calls Tryd.prog 4 #[.agg #[.int .i64 k, .int .i64 i, .int .u64 u, .float .f64 b, .string s, .slice x n c, .slice y m d]] w fun e w' => e = .returned (.bool true) ∧ Below w.heap.size w w' := by
  have C1 := Lib.hid (fun W => fits1_any k i u b s x y n c m d W)
  have C2 := Lib.hid (fun W (hs : s.size ≤ 2147483647) => castPlain_any k i u b s (.slice x n c) (.slice y m d) hk hs W)
  have C3 := Lib.hid (fun k' b' (h1 : 0 ≤ k') (h2 : k' ≤ 14) hb => plain_any k' i u b' (s.extract 0 (min s.size 400)) (.slice none 0 0) (.slice none 0 0) ⟨h1, h2⟩ hi hu hb (by rw [ByteArray.size_extract]; omega))
  have HE := Lib.hid (fun W (h : Below w.heap.size w W) => hE.later h.block)
  clear hk hi hu hE
  generalize s.extract 0 (min s.size 400) = t at *
  have HA : Hid (∀ o w1, Below (w.alloc o).heap.size (w.alloc o) w1 → w1.heap[w.heap.size]? = some o ∧ Below w.heap.size w w1) := Lib.hid fun o w1 h => by
    have hz : (w.alloc o).heap.size = w.heap.size + 1 := by show (w.heap.push o).size = _; simp
    exact ⟨(h.block w.heap.size (by omega)).trans (heap_alloc_new w o), ((Below.refl _ _).alloc (Nat.le_refl _) _).trans (h.mono (by omega))⟩
  go_enter Tryd.func4, Tryd.ntmps4
  go_wp2_with fail
  refine (C1.out _).mono ?_
  rintro e w1 ⟨⟨f, rfl, hf⟩, hb1⟩
  have HF := Lib.hid hf
  have HB1 := Lib.hid (HA.out _ _ hb1)
  clear hb1 hf
  cases f with
  | false =>
    go_wp2_with fail
    go_ret
    exact ⟨rfl, HB1.out.2⟩
  | true =>
  go_wp2_with (refine wpList_load_row (by rfl) 27 (.tmp 1) (by rfl) w.heap.size (by rfl) _ _ _ _ HB1.out.1 Tryd.underlying27 (by rfl) (by kernel_rfl) ?_)
  refine (C2.out _ (HF.out (by simp))).mono ?_
  rintro e w2 ⟨⟨k', b', h1, h2, h3, rfl⟩, hb2⟩
  obtain ⟨x, y, z, p, q, hP⟩ := C3.out k' b' h1 h2 h3
  have HP := Lib.hid hP
  have HB2 := Lib.hid (And.intro ((hb2.block _ (lt_of_block HB1.out.1)).trans HB1.out.1) (HB1.out.2.trans (hb2.mono HB1.out.2.size)))
  clear h1 h2 h3 hb2 hP
  obtain ⟨w3, hW2⟩ : ∃ W2, W2 = w2.setRow w.heap.size #[.int .i64 k', .int .i64 i, .int .u64 u, .float .f64 b', .string t, .slice none 0 0, .slice none 0 0] := ⟨_, rfl⟩
  have HB3 : Hid (w3.heap[w.heap.size]? = some (.cells #[.int .i64 k', .int .i64 i, .int .u64 u, .float .f64 b', .string t, .slice none 0 0, .slice none 0 0] 27 (0, 0)) ∧ Below w.heap.size w w3) := Lib.hid (by
    rw [hW2]
    exact ⟨setRow_heap _ _ _ _ _ _ HB2.out.1, Below.setRow HB2.out.2 (Nat.le_refl _) _⟩)
  have HW2 := Lib.hid hW2
  clear hW2
  go_wp2_with (first | ((refine wpList_store_row (by rfl) 27 (.tmp 1) (.tmp 11) (by rfl) w.heap.size #[.int .i64 k', .int .i64 i, .int .u64 u, .float .f64 b', .string t, .slice none 0 0, .slice none 0 0] (by rfl) (by rfl) _ _ HB2.out.1 (by kernel_rfl) (by rfl) (by simp [Value.oneCell']) ?_); rw [← HW2.out]) | (refine wpList_load_row (by rfl) 27 (.tmp 1) (by rfl) w.heap.size (by rfl) _ _ _ _ HB3.out.1 Tryd.underlying27 (by rfl) (by kernel_rfl) ?_))
  refine (impl_int _ _ _ _ _ _ _ _ y p HP.out.val HP.out.toI _ (HE.out _ HB3.out.2)).mono ?_
  rintro e w4 ⟨rfl, hb⟩
  have HB4 := Lib.hid (And.intro ((hb.block _ (lt_of_block HB3.out.1)).trans HB3.out.1) (HB3.out.2.trans (hb.mono HB3.out.2.size)))
  clear hb
  go_wp2_with (refine wpList_load_row (by rfl) 27 (.tmp 1) (by rfl) w.heap.size (by rfl) _ _ _ _ HB4.out.1 Tryd.underlying27 (by rfl) (by kernel_rfl) ?_)
  refine (mustInt_any _ x y z p q HP.out _ (HE.out _ HB4.out.2) (by kernel_rfl)).mono ?_
  rintro e w5 ⟨⟨v, rfl, hv⟩, hb⟩
  have HB5 := Lib.hid (HB4.out.2.trans (hb.mono HB4.out.2.size))
  have HV := Lib.hid hv
  clear hb hv
  cases p with
  | true =>
    go_wp2_with fail
    go_ret
    exact ⟨rfl, HB5.out⟩
  | false =>
    obtain rfl : v = y := HV.out (by simp)
    have hyy : (v == v) = true := by simp
    go_wp2_with fail
    go_ret
    exact ⟨rfl, HB5.out⟩
set_option maxRecDepth 1000000 in
/-- What the listed variables give. -/
theorem fnCastMust_errs {W : World} (hm : laidMet Tryd.prog Rows.fnCastMustRow.laid W) : ErrsAt W := by
  have h4 := laid_reads hm (List.mem_of_getElem? (i := 4) (show Rows.fnCastMustRow.laid[4]? = some _ from rfl))
  have h3 := laid_reads hm (List.mem_of_getElem? (i := 3) (show Rows.fnCastMustRow.laid[3]? = some _ from rfl))
  exact ⟨iface_of_reads h4 (by kernel_rfl) (by kernel_rfl) Tryd.underlying37, iface_of_reads h3 (by kernel_rfl) (by kernel_rfl) Tryd.underlying37⟩
set_option maxRecDepth 1000000 in
theorem fnCastMust_walk {H : Type} (enc : TypeId × Value → H) (W : World) (hL : laidMetH Tryd.prog Rows.fnCastMustRow.laid W) {sp : Nat → Bool} {held : Bool} {b0 : Nat} (v : Value) (d : DataW H) (p : List MemPlace) (hv : Value.okWide Tryd.prog W .any b0 27 v) (h : DataW.Trod enc Tryd.prog W 0 sp held 27 v d p) :
    Calls Tryd.prog 4 #[v] W fun e W' => e = .returned (.bool true) ∧ Below W.heap.size W W' := by
  have hE : ErrsAt W := fnCastMust_errs hL
  obtain ⟨k, i, u, b, s, x, y, n, c, m, e, rfl, hk, hi, hu⟩ := open_any hv h
  exact fnCastMust_core k i u b s x y n c m e hk hi hu W hE
end Go.Proofs.YtfeijmoncadkiaaDoor
