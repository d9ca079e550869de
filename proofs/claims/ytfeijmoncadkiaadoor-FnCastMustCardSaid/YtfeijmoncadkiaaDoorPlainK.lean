/- Every plain value is cast to int as to int64, to uint as to uint64. (Printed by gen_k.py.) -/
import Derived.Test.YtfeijmoncadkiaaDoorCastE
import Derived.Test.YtfeijmoncadkiaaDoorFloatP
namespace Go.Proofs.YtfeijmoncadkiaaDoor
open Go.RowKit
set_option linter.unusedVariables false
set_option linter.unusedSimpArgs false

/-- What the value of a plain kind is, and what it is cast to: y as int and int64, z as uint and uint64; p, q: that is an error. -/
structure PlainTo (a : Array Value) (x : Value) (y z : Int) (p q : Bool) : Prop where
  val : ∀ W, Calls Tryd.prog 15 #[.agg a] W fun e w' => e = .returned x ∧ Below W.heap.size W w'
  toI : ∀ W, ErrsAt W → Calls Tryd.prog 14 #[x] W (EndV (.int .i64 y) p W)
  toI64 : ∀ W, ErrsAt W → Calls Tryd.prog 16 #[x] W (EndV (.int .i64 y) p W)
  toU : ∀ W, ErrsAt W → Calls Tryd.prog 17 #[x] W (EndV (.int .u64 z) q W)
  toU64 : ∀ W, ErrsAt W → Calls Tryd.prog 18 #[x] W (EndV (.int .u64 z) q W)

theorem vi {f : FloatKind} {b : Nat} {n : Int} (h : (f.decode b).toInt .zero = some n) (h1 : -4611686018427387904 < n) (h2 : n < 4611686018427387904) : floatToIntVal f b .i64 = some n := by
  have e1 : IntKind.i64.min = -9223372036854775808 := by first | rfl | decide
  have e2 : IntKind.i64.max = 9223372036854775807 := by first | rfl | decide
  exact val_of h (by rw [e1]; omega) (by rw [e2]; omega)
theorem vu {f : FloatKind} {b : Nat} {n : Int} (h : (f.decode b).toInt .zero = some n) (h1 : 0 ≤ n) (h2 : n < 4611686018427387904) : floatToIntVal f b .u64 = some n := by
  have e1 : IntKind.u64.min = 0 := by first | rfl | decide
  have e2 : IntKind.u64.max = 18446744073709551615 := by first | rfl | decide
  exact val_of h (by rw [e1]; omega) (by rw [e2]; omega)
section
variable (i u : Int) (b : Nat) (s : ByteArray) (vl vm : Value)
theorem plain_nil  : ∃ x y z p q, PlainTo #[.int .i64 0, .int .i64 i, .int .u64 u, .float .f64 b, .string s, vl, vm] x y z p q := by
  exact ⟨_, 0, 0, false, false, ⟨fun W => value_nil i u b s vl vm W, fun W hE => e_int _ _ (fun W => num_int_nil W) W, fun W hE => e_int64 _ _ (fun W => num_int64_nil W) W, fun W hE => e_uint _ _ (fun W => num_uint_nil W) W, fun W hE => e_uint64 _ _ (fun W => num_uint64_nil W) W⟩⟩
theorem plain_bool  : ∃ x y z p q, PlainTo #[.int .i64 1, .int .i64 i, .int .u64 u, .float .f64 b, .string s, vl, vm] x y z p q := by
  exact ⟨_, _, _, false, false, ⟨fun W => value_bool i u b s vl vm W, fun W hE => e_int _ _ (fun W => num_int_bool (i != 0) W) W, fun W hE => e_int64 _ _ (fun W => num_int64_bool (i != 0) W) W, fun W hE => e_uint _ _ (fun W => num_uint_bool (i != 0) W) W, fun W hE => e_uint64 _ _ (fun W => num_uint64_bool (i != 0) W) W⟩⟩
theorem plain_int (hi : -9223372036854775808 ≤ i ∧ i < 9223372036854775808) : ∃ x y z p q, PlainTo #[.int .i64 2, .int .i64 i, .int .u64 u, .float .f64 b, .string s, vl, vm] x y z p q := by
  have hn : -9223372036854775808 ≤ i ∧ i < 9223372036854775808 := by omega
  by_cases h0 : 0 ≤ i
  · exact ⟨_, i, i, false, false, ⟨fun W => value_int i u b s vl vm hi W, fun W hE => e_int _ _ (fun W => num_int_int i hn W) W, fun W hE => e_int64 _ _ (fun W => num_int64_int i hn W) W, fun W hE => e_uint _ _ (fun W => num_uint_int i hn h0 W) W, fun W hE => e_uint64 _ _ (fun W => num_uint64_int i hn h0 W) W⟩⟩
  · have h0 : i < 0 := by omega
    exact ⟨_, i, 0, false, true, ⟨fun W => value_int i u b s vl vm hi W, fun W hE => e_int _ _ (fun W => num_int_int i hn W) W, fun W hE => e_int64 _ _ (fun W => num_int64_int i hn W) W, fun W hE => n_uint _ (fun W => num_uint_int_no i hn h0 W) (fun W => indirect_int _ W) W, fun W hE => n_uint64 _ (fun W => num_uint64_int_no i hn h0 W) (fun W => indirect_int _ W) W⟩⟩
theorem plain_int8 (hi : -9223372036854775808 ≤ i ∧ i < 9223372036854775808) : ∃ x y z p q, PlainTo #[.int .i64 3, .int .i64 i, .int .u64 u, .float .f64 b, .string s, vl, vm] x y z p q := by
  have hn : -128 ≤ ((i + 128) % 256 - 128) ∧ ((i + 128) % 256 - 128) < 128 := by omega
  by_cases h0 : 0 ≤ ((i + 128) % 256 - 128)
  · exact ⟨_, ((i + 128) % 256 - 128), ((i + 128) % 256 - 128), false, false, ⟨fun W => value_int8 i u b s vl vm hi W, fun W hE => e_int _ _ (fun W => num_int_int8 ((i + 128) % 256 - 128) hn W) W, fun W hE => e_int64 _ _ (fun W => num_int64_int8 ((i + 128) % 256 - 128) hn W) W, fun W hE => e_uint _ _ (fun W => num_uint_int8 ((i + 128) % 256 - 128) hn h0 W) W, fun W hE => e_uint64 _ _ (fun W => num_uint64_int8 ((i + 128) % 256 - 128) hn h0 W) W⟩⟩
  · have h0 : ((i + 128) % 256 - 128) < 0 := by omega
    exact ⟨_, ((i + 128) % 256 - 128), 0, false, true, ⟨fun W => value_int8 i u b s vl vm hi W, fun W hE => e_int _ _ (fun W => num_int_int8 ((i + 128) % 256 - 128) hn W) W, fun W hE => e_int64 _ _ (fun W => num_int64_int8 ((i + 128) % 256 - 128) hn W) W, fun W hE => n_uint _ (fun W => num_uint_int8_no ((i + 128) % 256 - 128) hn h0 W) (fun W => indirect_int8 _ W) W, fun W hE => n_uint64 _ (fun W => num_uint64_int8_no ((i + 128) % 256 - 128) hn h0 W) (fun W => indirect_int8 _ W) W⟩⟩
theorem plain_int16 (hi : -9223372036854775808 ≤ i ∧ i < 9223372036854775808) : ∃ x y z p q, PlainTo #[.int .i64 4, .int .i64 i, .int .u64 u, .float .f64 b, .string s, vl, vm] x y z p q := by
  have hn : -32768 ≤ ((i + 32768) % 65536 - 32768) ∧ ((i + 32768) % 65536 - 32768) < 32768 := by omega
  by_cases h0 : 0 ≤ ((i + 32768) % 65536 - 32768)
  · exact ⟨_, ((i + 32768) % 65536 - 32768), ((i + 32768) % 65536 - 32768), false, false, ⟨fun W => value_int16 i u b s vl vm hi W, fun W hE => e_int _ _ (fun W => num_int_int16 ((i + 32768) % 65536 - 32768) hn W) W, fun W hE => e_int64 _ _ (fun W => num_int64_int16 ((i + 32768) % 65536 - 32768) hn W) W, fun W hE => e_uint _ _ (fun W => num_uint_int16 ((i + 32768) % 65536 - 32768) hn h0 W) W, fun W hE => e_uint64 _ _ (fun W => num_uint64_int16 ((i + 32768) % 65536 - 32768) hn h0 W) W⟩⟩
  · have h0 : ((i + 32768) % 65536 - 32768) < 0 := by omega
    exact ⟨_, ((i + 32768) % 65536 - 32768), 0, false, true, ⟨fun W => value_int16 i u b s vl vm hi W, fun W hE => e_int _ _ (fun W => num_int_int16 ((i + 32768) % 65536 - 32768) hn W) W, fun W hE => e_int64 _ _ (fun W => num_int64_int16 ((i + 32768) % 65536 - 32768) hn W) W, fun W hE => n_uint _ (fun W => num_uint_int16_no ((i + 32768) % 65536 - 32768) hn h0 W) (fun W => indirect_int16 _ W) W, fun W hE => n_uint64 _ (fun W => num_uint64_int16_no ((i + 32768) % 65536 - 32768) hn h0 W) (fun W => indirect_int16 _ W) W⟩⟩
theorem plain_int32 (hi : -9223372036854775808 ≤ i ∧ i < 9223372036854775808) : ∃ x y z p q, PlainTo #[.int .i64 5, .int .i64 i, .int .u64 u, .float .f64 b, .string s, vl, vm] x y z p q := by
  have hn : -2147483648 ≤ ((i + 2147483648) % 4294967296 - 2147483648) ∧ ((i + 2147483648) % 4294967296 - 2147483648) < 2147483648 := by omega
  by_cases h0 : 0 ≤ ((i + 2147483648) % 4294967296 - 2147483648)
  · exact ⟨_, ((i + 2147483648) % 4294967296 - 2147483648), ((i + 2147483648) % 4294967296 - 2147483648), false, false, ⟨fun W => value_int32 i u b s vl vm hi W, fun W hE => e_int _ _ (fun W => num_int_int32 ((i + 2147483648) % 4294967296 - 2147483648) hn W) W, fun W hE => e_int64 _ _ (fun W => num_int64_int32 ((i + 2147483648) % 4294967296 - 2147483648) hn W) W, fun W hE => e_uint _ _ (fun W => num_uint_int32 ((i + 2147483648) % 4294967296 - 2147483648) hn h0 W) W, fun W hE => e_uint64 _ _ (fun W => num_uint64_int32 ((i + 2147483648) % 4294967296 - 2147483648) hn h0 W) W⟩⟩
  · have h0 : ((i + 2147483648) % 4294967296 - 2147483648) < 0 := by omega
    exact ⟨_, ((i + 2147483648) % 4294967296 - 2147483648), 0, false, true, ⟨fun W => value_int32 i u b s vl vm hi W, fun W hE => e_int _ _ (fun W => num_int_int32 ((i + 2147483648) % 4294967296 - 2147483648) hn W) W, fun W hE => e_int64 _ _ (fun W => num_int64_int32 ((i + 2147483648) % 4294967296 - 2147483648) hn W) W, fun W hE => n_uint _ (fun W => num_uint_int32_no ((i + 2147483648) % 4294967296 - 2147483648) hn h0 W) (fun W => indirect_int32 _ W) W, fun W hE => n_uint64 _ (fun W => num_uint64_int32_no ((i + 2147483648) % 4294967296 - 2147483648) hn h0 W) (fun W => indirect_int32 _ W) W⟩⟩
theorem plain_int64 (hi : -9223372036854775808 ≤ i ∧ i < 9223372036854775808) : ∃ x y z p q, PlainTo #[.int .i64 6, .int .i64 i, .int .u64 u, .float .f64 b, .string s, vl, vm] x y z p q := by
  have hn : -9223372036854775808 ≤ i ∧ i < 9223372036854775808 := by omega
  by_cases h0 : 0 ≤ i
  · exact ⟨_, i, i, false, false, ⟨fun W => value_int64 i u b s vl vm hi W, fun W hE => e_int _ _ (fun W => num_int_int64 i hn W) W, fun W hE => e_int64 _ _ (fun W => num_int64_int64 i hn W) W, fun W hE => e_uint _ _ (fun W => num_uint_int64 i hn h0 W) W, fun W hE => e_uint64 _ _ (fun W => num_uint64_int64 i hn h0 W) W⟩⟩
  · have h0 : i < 0 := by omega
    exact ⟨_, i, 0, false, true, ⟨fun W => value_int64 i u b s vl vm hi W, fun W hE => e_int _ _ (fun W => num_int_int64 i hn W) W, fun W hE => e_int64 _ _ (fun W => num_int64_int64 i hn W) W, fun W hE => n_uint _ (fun W => num_uint_int64_no i hn h0 W) (fun W => indirect_int64 _ W) W, fun W hE => n_uint64 _ (fun W => num_uint64_int64_no i hn h0 W) (fun W => indirect_int64 _ W) W⟩⟩
theorem plain_uint (hu : 0 ≤ u ∧ u < 18446744073709551616) : ∃ x y z p q, PlainTo #[.int .i64 7, .int .i64 i, .int .u64 u, .float .f64 b, .string s, vl, vm] x y z p q := by
  have hn : 0 ≤ u ∧ u < 18446744073709551616 := by omega
  exact ⟨_, _, _, false, false, ⟨fun W => value_uint i u b s vl vm hu W, fun W hE => e_int _ _ (fun W => num_int_uint u hn W) W, fun W hE => e_int64 _ _ (fun W => num_int64_uint u hn W) W, fun W hE => e_uint _ _ (fun W => num_uint_uint u hn W) W, fun W hE => e_uint64 _ _ (fun W => num_uint64_uint u hn W) W⟩⟩
theorem plain_uint8 (hu : 0 ≤ u ∧ u < 18446744073709551616) : ∃ x y z p q, PlainTo #[.int .i64 8, .int .i64 i, .int .u64 u, .float .f64 b, .string s, vl, vm] x y z p q := by
  have hn : 0 ≤ (u % 256) ∧ (u % 256) < 256 := by omega
  exact ⟨_, _, _, false, false, ⟨fun W => value_uint8 i u b s vl vm hu W, fun W hE => e_int _ _ (fun W => num_int_uint8 (u % 256) hn W) W, fun W hE => e_int64 _ _ (fun W => num_int64_uint8 (u % 256) hn W) W, fun W hE => e_uint _ _ (fun W => num_uint_uint8 (u % 256) hn W) W, fun W hE => e_uint64 _ _ (fun W => num_uint64_uint8 (u % 256) hn W) W⟩⟩
theorem plain_uint16 (hu : 0 ≤ u ∧ u < 18446744073709551616) : ∃ x y z p q, PlainTo #[.int .i64 9, .int .i64 i, .int .u64 u, .float .f64 b, .string s, vl, vm] x y z p q := by
  have hn : 0 ≤ (u % 65536) ∧ (u % 65536) < 65536 := by omega
  exact ⟨_, _, _, false, false, ⟨fun W => value_uint16 i u b s vl vm hu W, fun W hE => e_int _ _ (fun W => num_int_uint16 (u % 65536) hn W) W, fun W hE => e_int64 _ _ (fun W => num_int64_uint16 (u % 65536) hn W) W, fun W hE => e_uint _ _ (fun W => num_uint_uint16 (u % 65536) hn W) W, fun W hE => e_uint64 _ _ (fun W => num_uint64_uint16 (u % 65536) hn W) W⟩⟩
theorem plain_uint32 (hu : 0 ≤ u ∧ u < 18446744073709551616) : ∃ x y z p q, PlainTo #[.int .i64 10, .int .i64 i, .int .u64 u, .float .f64 b, .string s, vl, vm] x y z p q := by
  have hn : 0 ≤ (u % 4294967296) ∧ (u % 4294967296) < 4294967296 := by omega
  exact ⟨_, _, _, false, false, ⟨fun W => value_uint32 i u b s vl vm hu W, fun W hE => e_int _ _ (fun W => num_int_uint32 (u % 4294967296) hn W) W, fun W hE => e_int64 _ _ (fun W => num_int64_uint32 (u % 4294967296) hn W) W, fun W hE => e_uint _ _ (fun W => num_uint_uint32 (u % 4294967296) hn W) W, fun W hE => e_uint64 _ _ (fun W => num_uint64_uint32 (u % 4294967296) hn W) W⟩⟩
theorem plain_uint64 (hu : 0 ≤ u ∧ u < 18446744073709551616) : ∃ x y z p q, PlainTo #[.int .i64 11, .int .i64 i, .int .u64 u, .float .f64 b, .string s, vl, vm] x y z p q := by
  have hn : 0 ≤ u ∧ u < 18446744073709551616 := by omega
  exact ⟨_, _, _, false, false, ⟨fun W => value_uint64 i u b s vl vm hu W, fun W hE => e_int _ _ (fun W => num_int_uint64 u hn W) W, fun W hE => e_int64 _ _ (fun W => num_int64_uint64 u hn W) W, fun W hE => e_uint _ _ (fun W => num_uint_uint64 u hn W) W, fun W hE => e_uint64 _ _ (fun W => num_uint64_uint64 u hn W) W⟩⟩
theorem plain_float64 (hb : b = 0 ∨ (FloatKind.f64.format.order b 14105274032924393472 = some .gt ∧ FloatKind.f64.format.order b 4881901996069617664 = some .lt)) : ∃ x y z p q, PlainTo #[.int .i64 13, .int .i64 i, .int .u64 u, .float .f64 b, .string s, vl, vm] x y z p q := by
  obtain ⟨⟨n, hn, h1, h2, h3⟩, -⟩ := ways hb
  have ei := vi hn h1 h2
  cases h0 : FloatKind.f64.format.order b 0 == some .lt with
  | false =>
    have eu := vu hn (h3 h0) h2
    exact ⟨_, n, n, false, false, ⟨fun W => value_float64 i u b s vl vm W, fun W hE => e_int _ _ (fun W => num_int_float64 b n ei W) W, fun W hE => e_int64 _ _ (fun W => num_int64_float64 b n ei W) W, fun W hE => e_uint _ _ (fun W => num_uint_float64 b n eu h0 W) W, fun W hE => e_uint64 _ _ (fun W => num_uint64_float64 b n eu h0 W) W⟩⟩
  | true =>
    exact ⟨_, n, 0, false, true, ⟨fun W => value_float64 i u b s vl vm W, fun W hE => e_int _ _ (fun W => num_int_float64 b n ei W) W, fun W hE => e_int64 _ _ (fun W => num_int64_float64 b n ei W) W, fun W hE => n_uint _ (fun W => num_uint_float64_no b h0 W) (fun W => indirect_float64 _ W) W, fun W hE => n_uint64 _ (fun W => num_uint64_float64_no b h0 W) (fun W => indirect_float64 _ W) W⟩⟩
theorem plain_float32 (hb : b = 0 ∨ (FloatKind.f64.format.order b 14105274032924393472 = some .gt ∧ FloatKind.f64.format.order b 4881901996069617664 = some .lt)) : ∃ x y z p q, PlainTo #[.int .i64 12, .int .i64 i, .int .u64 u, .float .f64 b, .string s, vl, vm] x y z p q := by
  obtain ⟨-, c, hc, n, hn, h1, h2, h3⟩ := ways hb
  have ei := vi hn h1 h2
  cases h0 : FloatKind.f32.format.order c 0 == some .lt with
  | false =>
    have eu := vu hn (h3 h0) h2
    exact ⟨_, n, n, false, false, ⟨fun W => value_float32 i u b s vl vm c hc W, fun W hE => e_int _ _ (fun W => num_int_float32 c n ei W) W, fun W hE => e_int64 _ _ (fun W => num_int64_float32 c n ei W) W, fun W hE => e_uint _ _ (fun W => num_uint_float32 c n eu h0 W) W, fun W hE => e_uint64 _ _ (fun W => num_uint64_float32 c n eu h0 W) W⟩⟩
  | true =>
    exact ⟨_, n, 0, false, true, ⟨fun W => value_float32 i u b s vl vm c hc W, fun W hE => e_int _ _ (fun W => num_int_float32 c n ei W) W, fun W hE => e_int64 _ _ (fun W => num_int64_float32 c n ei W) W, fun W hE => n_uint _ (fun W => num_uint_float32_no c h0 W) (fun W => indirect_float32 _ W) W, fun W hE => n_uint64 _ (fun W => num_uint64_float32_no c h0 W) (fun W => indirect_float32 _ W) W⟩⟩
theorem plain_string (hs : s.size ≤ 2147483646) : ∃ x y z p q, PlainTo #[.int .i64 14, .int .i64 i, .int .u64 u, .float .f64 b, .string s, vl, vm] x y z p q := by
  exact ⟨_, _, _, _, _, ⟨fun W => value_string i u b s vl vm W, fun W hE => s_int s hs W hE, fun W hE => s_int64 s hs W hE, fun W hE => s_uint s hs W hE, fun W hE => s_uint64 s hs W hE⟩⟩
end
/-- Every plain kind. -/
theorem plain_any (k i u : Int) (b : Nat) (s : ByteArray) (vl vm : Value) (hk : 0 ≤ k ∧ k ≤ 14) (hi : -9223372036854775808 ≤ i ∧ i < 9223372036854775808) (hu : 0 ≤ u ∧ u < 18446744073709551616) (hb : b = 0 ∨ (FloatKind.f64.format.order b 14105274032924393472 = some .gt ∧ FloatKind.f64.format.order b 4881901996069617664 = some .lt)) (hs : s.size ≤ 2147483646) :
    ∃ x y z p q, PlainTo #[.int .i64 k, .int .i64 i, .int .u64 u, .float .f64 b, .string s, vl, vm] x y z p q := by
  obtain rfl | rfl | rfl | rfl | rfl | rfl | rfl | rfl | rfl | rfl | rfl | rfl | rfl | rfl | rfl : k = 0 ∨ k = 1 ∨ k = 2 ∨ k = 3 ∨ k = 4 ∨ k = 5 ∨ k = 6 ∨ k = 7 ∨ k = 8 ∨ k = 9 ∨ k = 10 ∨ k = 11 ∨ k = 12 ∨ k = 13 ∨ k = 14 := by omega
  · exact plain_nil i u b s vl vm 
  · exact plain_bool i u b s vl vm 
  · exact plain_int i u b s vl vm hi
  · exact plain_int8 i u b s vl vm hi
  · exact plain_int16 i u b s vl vm hi
  · exact plain_int32 i u b s vl vm hi
  · exact plain_int64 i u b s vl vm hi
  · exact plain_uint i u b s vl vm hu
  · exact plain_uint8 i u b s vl vm hu
  · exact plain_uint16 i u b s vl vm hu
  · exact plain_uint32 i u b s vl vm hu
  · exact plain_uint64 i u b s vl vm hu
  · exact plain_float32 i u b s vl vm hb
  · exact plain_float64 i u b s vl vm hb
  · exact plain_string i u b s vl vm hs
end Go.Proofs.YtfeijmoncadkiaaDoor
