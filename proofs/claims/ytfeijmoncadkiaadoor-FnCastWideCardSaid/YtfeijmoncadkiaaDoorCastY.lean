/- FnCastWide: int and int64, uint and uint64, are cast alike. (Printed by gen_wide.py.) -/
import Derived.Test.YtfeijmoncadkiaaDoorCastX
import Derived.Test.YtfeijmoncadkiaaDoorLaidE
namespace Go.Proofs.YtfeijmoncadkiaaDoor
open Go.RowKit Go.ChangeShapes Go.WideShapes
set_option linter.unusedVariables false
set_option linter.unusedSimpArgs false

set_option maxRecDepth 100000 in
theorem fnCastWide_core (k i u : Int) (b : Nat) (s : ByteArray) (x y : Option Addr) (n c m d : Nat) (hk : -9223372036854775808 ≤ k ∧ k < 9223372036854775808) (hi : -9223372036854775808 ≤ i ∧ i < 9223372036854775808) (hu : 0 ≤ u ∧ u < 18446744073709551616) (w : World) (hE : ErrsAt w) :
    Calls Tryd.prog 3 #[.agg #[.int .i64 k, .int .i64 i, .int .u64 u, .float .f64 b, .string s, .slice x n c, .slice y m d]] w fun e w' => e = .returned (.bool true) ∧ Below w.heap.size w w' := by
  have C1 := Lib.hid (fun W => fits1_any k i u b s x y n c m d W)
  have C2 := Lib.hid (fun W (hs : s.size ≤ 2147483647) => castPlain_any k i u b s (.slice x n c) (.slice y m d) hk hs W)
  have C3 := Lib.hid (fun k' b' (h1 : 0 ≤ k') (h2 : k' ≤ 14) hb => plain_any k' i u b' (s.extract 0 (min s.size 400)) (.slice none 0 0) (.slice none 0 0) ⟨h1, h2⟩ hi hu hb (by rw [ByteArray.size_extract]; omega))
  have HE := Lib.hid (fun W (h : Below w.heap.size w W) => hE.later h.block)
  clear hk hi hu hE
  generalize s.extract 0 (min s.size 400) = t at *
  have HA : Hid (∀ o w1, Below (w.alloc o).heap.size (w.alloc o) w1 → w1.heap[w.heap.size]? = some o ∧ Below w.heap.size w w1) := Lib.hid fun o w1 h => by
    have hz : (w.alloc o).heap.size = w.heap.size + 1 := by show (w.heap.push o).size = _; simp
    exact ⟨(h.block w.heap.size (by omega)).trans (heap_alloc_new w o), ((Below.refl _ _).alloc (Nat.le_refl _) _).trans (h.mono (by omega))⟩
  go_enter Tryd.func3, Tryd.ntmps3
  go_wp2_with fail
  refine (C1.out _).mono ?_
  rintro e w1 ⟨⟨f, rfl, hf⟩, hb1⟩
  have HF := Lib.hid hf
  have HB1 := Lib.hid (HA.out _ _ hb1)
  clear hb1 hf
  cases f with
  | false =>
    go_wp2_with fail
    go_ret
    exact ⟨rfl, HB1.out.2⟩
  | true =>
  go_wp2_with (refine wpList_load_row (by rfl) 27 (.tmp 1) (by rfl) w.heap.size (by rfl) _ _ _ _ HB1.out.1 Tryd.underlying27 (by rfl) (by kernel_rfl) ?_)
  refine (C2.out _ (HF.out (by simp))).mono ?_
  rintro e w2 ⟨⟨k', b', h1, h2, h3, rfl⟩, hb2⟩
  obtain ⟨x, y, z, p, q, hP⟩ := C3.out k' b' h1 h2 h3
  have HP := Lib.hid hP
  have HB2 := Lib.hid (And.intro ((hb2.block _ (lt_of_block HB1.out.1)).trans HB1.out.1) (HB1.out.2.trans (hb2.mono HB1.out.2.size)))
  clear h1 h2 h3 hb2 hP
  obtain ⟨w3, hW2⟩ : ∃ W2, W2 = w2.setRow w.heap.size #[.int .i64 k', .int .i64 i, .int .u64 u, .float .f64 b', .string t, .slice none 0 0, .slice none 0 0] := ⟨_, rfl⟩
  have HB3 : Hid (w3.heap[w.heap.size]? = some (.cells #[.int .i64 k', .int .i64 i, .int .u64 u, .float .f64 b', .string t, .slice none 0 0, .slice none 0 0] 27 (0, 0)) ∧ Below w.heap.size w w3) := Lib.hid (by
    rw [hW2]
    exact ⟨setRow_heap _ _ _ _ _ _ HB2.out.1, Below.setRow HB2.out.2 (Nat.le_refl _) _⟩)
  have HW2 := Lib.hid hW2
  clear hW2
  go_wp2_with (first | ((refine wpList_store_row (by rfl) 27 (.tmp 1) (.tmp 15) (by rfl) w.heap.size #[.int .i64 k', .int .i64 i, .int .u64 u, .float .f64 b', .string t, .slice none 0 0, .slice none 0 0] (by rfl) (by rfl) _ _ HB2.out.1 (by kernel_rfl) (by rfl) (by simp [Value.oneCell']) ?_); rw [← HW2.out]) | (refine wpList_load_row (by rfl) 27 (.tmp 1) (by rfl) w.heap.size (by rfl) _ _ _ _ HB3.out.1 Tryd.underlying27 (by rfl) (by kernel_rfl) ?_))
  refine (impl_int _ _ _ _ _ _ _ _ y p HP.out.val HP.out.toI _ (HE.out _ HB3.out.2)).mono ?_
  rintro e w4 ⟨rfl, hb⟩
  have HB4 := Lib.hid (And.intro ((hb.block _ (lt_of_block HB3.out.1)).trans HB3.out.1) (HB3.out.2.trans (hb.mono HB3.out.2.size)))
  clear hb
  go_wp2_with (refine wpList_load_row (by rfl) 27 (.tmp 1) (by rfl) w.heap.size (by rfl) _ _ _ _ HB4.out.1 Tryd.underlying27 (by rfl) (by kernel_rfl) ?_)
  refine (impl_int64 _ _ _ _ _ _ _ _ y p HP.out.val HP.out.toI64 _ (HE.out _ HB4.out.2)).mono ?_
  rintro e w5 ⟨rfl, hb⟩
  have HB5 := Lib.hid (And.intro ((hb.block _ (lt_of_block HB4.out.1)).trans HB4.out.1) (HB4.out.2.trans (hb.mono HB4.out.2.size)))
  clear hb
  go_wp2_with (refine wpList_load_row (by rfl) 27 (.tmp 1) (by rfl) w.heap.size (by rfl) _ _ _ _ HB5.out.1 Tryd.underlying27 (by rfl) (by kernel_rfl) ?_)
  refine (impl_uint _ _ _ _ _ _ _ _ z q HP.out.val HP.out.toU _ (HE.out _ HB5.out.2)).mono ?_
  rintro e w6 ⟨rfl, hb⟩
  have HB6 := Lib.hid (And.intro ((hb.block _ (lt_of_block HB5.out.1)).trans HB5.out.1) (HB5.out.2.trans (hb.mono HB5.out.2.size)))
  clear hb
  go_wp2_with (refine wpList_load_row (by rfl) 27 (.tmp 1) (by rfl) w.heap.size (by rfl) _ _ _ _ HB6.out.1 Tryd.underlying27 (by rfl) (by kernel_rfl) ?_)
  refine (impl_uint64 _ _ _ _ _ _ _ _ z q HP.out.val HP.out.toU64 _ (HE.out _ HB6.out.2)).mono ?_
  rintro e w7 ⟨rfl, hb⟩
  have HB7 := Lib.hid (And.intro ((hb.block _ (lt_of_block HB6.out.1)).trans HB6.out.1) (HB6.out.2.trans (hb.mono HB6.out.2.size)))
  clear hb
  have CL := Lib.hid (fun W hE => lives_any W hE)
  have hyy : (y == y) = true := by simp
  have hzz : (z == z) = true := by simp
  have hpp : ((!p) == (!p)) = true := by simp
  have hqq : ((!q) == (!q)) = true := by simp
  go_wp2_with fail
  refine (CL.out _ (HE.out _ HB7.out.2)).mono ?_
  rintro e w8 ⟨rfl, hb⟩
  have HB8 := Lib.hid (HB7.out.2.trans (hb.mono HB7.out.2.size))
  clear hb
  go_wp2_with fail
  go_ret
  exact ⟨rfl, HB8.out⟩
set_option maxRecDepth 1000000 in
/-- What the listed variables give. -/
theorem fnCastWide_errs {W : World} (hm : laidMet Tryd.prog Rows.fnCastWideRow.laid W) : ErrsAt W := by
  have h4 := laid_reads hm (List.mem_of_getElem? (i := 4) (show Rows.fnCastWideRow.laid[4]? = some _ from rfl))
  have h3 := laid_reads hm (List.mem_of_getElem? (i := 3) (show Rows.fnCastWideRow.laid[3]? = some _ from rfl))
  exact ⟨iface_of_reads h4 (by kernel_rfl) (by kernel_rfl) Tryd.underlying37, iface_of_reads h3 (by kernel_rfl) (by kernel_rfl) Tryd.underlying37⟩
set_option maxRecDepth 1000000 in
theorem fnCastWide_walk {H : Type} (enc : TypeId × Value → H) (W : World) (hL : laidMetH Tryd.prog Rows.fnCastWideRow.laid W) {sp : Nat → Bool} {held : Bool} {b0 : Nat} (v : Value) (d : DataW H) (p : List MemPlace) (hv : Value.okWide Tryd.prog W .any b0 27 v) (h : DataW.Trod enc Tryd.prog W 0 sp held 27 v d p) :
    Calls Tryd.prog 3 #[v] W fun e W' => e = .returned (.bool true) ∧ Below W.heap.size W W' := by
  have hE : ErrsAt W := fnCastWide_errs hL
  obtain ⟨k, i, u, b, s, x, y, n, c, m, e, rfl, hk, hi, hu⟩ := open_any hv h
  exact fnCastWide_core k i u b s x y n c m e hk hi hu W hE
end Go.Proofs.YtfeijmoncadkiaaDoor
