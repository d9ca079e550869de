/- The reference's Numeral: a number's digits. -/
import Derived.Test.YthodlepbmnbflaaDoorH
import Derived.Test.YthodlepbmnbflaaDoorFmtU
import Derived.Lib.ConvBytes
namespace Go.Proofs.YthodlepbmnbflaaDoor
open Go.RowKit
set_option linter.unusedVariables false
set_option linter.unusedSimpArgs false

theorem numS_len {u : Nat} (h : u < 18446744073709551616) : (numS u).size ≤ 20 := by
  have e : (numS u).size = (Lib.decDigits u).length := by simp [numS, ByteArray.size]
  rw [e, Lib.decDigits_length]
  by_cases h0 : u = 0
  · subst h0; rw [← Lib.decDigits_length, Lib.decDigits_one (by omega)]; decide
  · have := Lib.numDigits_eq u (by omega) h
    split at this <;> omega
/-- One byte, as it lies, is made to a text. -/
theorem one_text (w : World) (B : Nat) (c : UInt8) (h : w.heap[B]? = some (.cells #[.int .u8 (c.toNat : Nat)] 5 (0, 0))) : (convert 75 9 (.slice (some ⟨B, 0, none⟩) 1 1)).run Tryd.prog w = .ok (.string ⟨[c].toArray⟩) w :=
  run_convert_bytes_back (P := Tryd.prog) w 75 9 5 ⟨B, 0, none⟩ 1 [c] Tryd.underlying75 Tryd.underlying5 Tryd.underlying9 (fun j hj => by
    have : j = 0 := by simpa using hj
    subst this
    exact cell_of h 0 _ rfl)
theorem byte_of (n : Nat) (h : n < 10) : (UInt8.ofNat (48 + n)).toNat = 48 + n := by simp; omega

structure NI (w0 : World) (m : Int) (q r : Nat) (a : ByteArray) (L : Nat → Bool) (f : Nat → Value) (w : World) : Prop where
  bel : Below w0.heap.size w0 w
  v0 : L 0 = true → f 10 = .int .u64 m
  v1 : L 1 = true → f 11 = .int .u64 (q : Nat)
  v2 : L 2 = true → f 12 = .string a
  v3 : L 3 = true → f 13 = .int .u64 m
  v4 : L 4 = true → f 14 = .int .u64 (r : Nat)
  v5 : L 5 = true → f 15 = .int .u64 (48 + r : Nat)
  v6 : L 6 = true → f 16 = .int .u8 (48 + r : Nat)
  v7 : L 7 = true → ∃ B, f 17 = .slice (some ⟨B, 0, none⟩) 1 1 ∧ w.heap[B]? = some (.cells #[.int .u8 (48 + r : Nat)] 5 (0, 0))
  v8 : L 8 = true → f 18 = .string ⟨[UInt8.ofNat (48 + r)].toArray⟩
  v9 : L 9 = true → f 19 = .string (a ++ ⟨[UInt8.ofNat (48 + r)].toArray⟩)
  va : L 10 = true → f 2 = .string (a ++ ⟨[UInt8.ofNat (48 + r)].toArray⟩)

/-- A further value, in a later world. -/
theorem NI.put {w0 w w' : World} {m : Int} {q r : Nat} {a : ByteArray} {L : Nat → Bool} {f : Nat → Value} (h : NI w0 m q r a L f w) (hb : Below w.heap.size w w') (i d : Nat) (v : Value) (hi : (i, d) ∈ [(0, 10), (1, 11), (2, 12), (3, 13), (4, 14), (5, 15), (6, 16), (7, 17), (8, 18), (9, 19), (10, 2)])
    (hv : NI w0 m q r a (fun k => k == i) (fun _ => v) w') : NI w0 m q r a (fun k => k == i || L k) (upd f d v) w' := by
  simp only [List.mem_cons, Prod.mk.injEq, List.not_mem_nil, or_false] at hi
  have hb7 : L 7 = true → ∃ B, f 17 = .slice (some ⟨B, 0, none⟩) 1 1 ∧ w'.heap[B]? = some (.cells #[.int .u8 (48 + r : Nat)] 5 (0, 0)) := fun hl => by
    obtain ⟨B, e, hB⟩ := h.v7 hl
    exact ⟨B, e, (hb.block B (lt_of_block hB)).trans hB⟩
  obtain ⟨rfl, rfl⟩ | ⟨rfl, rfl⟩ | ⟨rfl, rfl⟩ | ⟨rfl, rfl⟩ | ⟨rfl, rfl⟩ | ⟨rfl, rfl⟩ | ⟨rfl, rfl⟩ | ⟨rfl, rfl⟩ | ⟨rfl, rfl⟩ | ⟨rfl, rfl⟩ | ⟨rfl, rfl⟩ := hi
  all_goals constructor
  all_goals first
    | exact Below.after h.bel hb
    | (intro _; rw [upd_same]; first | exact hv.v0 rfl | exact hv.v1 rfl | exact hv.v2 rfl | exact hv.v3 rfl | exact hv.v4 rfl | exact hv.v5 rfl | exact hv.v6 rfl | exact hv.v7 rfl | exact hv.v8 rfl | exact hv.v9 rfl | exact hv.va rfl)
    | (intro hl; rw [or_ne (by decide)] at hl; rw [upd_ne _ _ (by decide)]; first | exact h.v0 hl | exact h.v1 hl | exact h.v2 hl | exact h.v3 hl | exact h.v4 hl | exact h.v5 hl | exact h.v6 hl | exact hb7 hl | exact h.v8 hl | exact h.v9 hl | exact h.va hl)

theorem run_assignN {P : Program} {ρ : Operand → Value} {d : Option Tmp} {ty : TypeId} {pos : String} {af : Array Edge} {g : Option (Nat × Bool)} {x : Operand} {w : World} {v : Value} (h : ρ x = v) :
    (execOp ρ ⟨d, .assign x, ty, pos, af, g⟩).run P w = .ok (.value v) w := by
  subst h; rfl
theorem run_quo {ρ : Operand → Value} {d : Option Tmp} {ty : TypeId} {pos : String} {af : Array Edge} {g : Option (Nat × Bool)} {x : Tmp} {w : World} {m : Int} {q r : Nat} (hm : m = (q * 10 + r : Nat)) (hr : r < 10) (hn : q * 10 + r < 18446744073709551616) (h : ρ (.tmp x) = .int .u64 m) (hc : ρ (.const (.int .u64 10)) = .int .u64 10) :
    (execOp ρ ⟨d, .binOp .quo 22 (.tmp x) (.const (.int .u64 10)) 22, ty, pos, af, g⟩).run Tryd.prog w = .ok (.value (.int .u64 (q : Nat))) w := by
  have m0 : 0 ≤ m := by omega
  have m1 : m ≤ 18446744073709551615 := by omega
  have e : m / 10 = (q : Nat) := by omega
  rw [← e]
  clear hm hn e
  go_simp
  rw [Int.tdiv_eq_ediv_of_nonneg m0, IntKind.wrap_u64]
  omega
theorem run_rem {ρ : Operand → Value} {d : Option Tmp} {ty : TypeId} {pos : String} {af : Array Edge} {g : Option (Nat × Bool)} {x : Tmp} {w : World} {m : Int} {q r : Nat} (hm : m = (q * 10 + r : Nat)) (hr : r < 10) (hn : q * 10 + r < 18446744073709551616) (h : ρ (.tmp x) = .int .u64 m) (hc : ρ (.const (.int .u64 10)) = .int .u64 10) :
    (execOp ρ ⟨d, .binOp .rem 22 (.tmp x) (.const (.int .u64 10)) 22, ty, pos, af, g⟩).run Tryd.prog w = .ok (.value (.int .u64 (r : Nat))) w := by
  have m0 : 0 ≤ m := by omega
  have m1 : m ≤ 18446744073709551615 := by omega
  have e : m % 10 = (r : Nat) := by omega
  rw [← e]
  clear hm hn e
  go_simp
  exact Int.tmod_eq_emod_of_nonneg m0
theorem run_add48 {ρ : Operand → Value} {d : Option Tmp} {ty : TypeId} {pos : String} {af : Array Edge} {g : Option (Nat × Bool)} {x : Tmp} {w : World} {r : Nat} (hr : r < 10) (h : ρ (.tmp x) = .int .u64 (r : Nat)) (hc : ρ (.const (.int .u64 48)) = .int .u64 48) :
    (execOp ρ ⟨d, .binOp .add 22 (.const (.int .u64 48)) (.tmp x) 22, ty, pos, af, g⟩).run Tryd.prog w = .ok (.value (.int .u64 (48 + r : Nat))) w := by
  have e : ((48 + r : Nat) : Int) = 48 + (r : Int) := by omega
  have hr' : (r : Int) < 10 := by omega
  rw [e]
  clear e
  go_simp
  rw [IntKind.wrap_u64]
  omega
theorem run_convB {ρ : Operand → Value} {d : Option Tmp} {ty : TypeId} {pos : String} {af : Array Edge} {g : Option (Nat × Bool)} {x : Tmp} {w : World} {r : Nat} (hr : r < 10) (h : ρ (.tmp x) = .int .u64 (48 + r : Nat)) :
    (execOp ρ ⟨d, .convert 22 5 (.tmp x), ty, pos, af, g⟩).run Tryd.prog w = .ok (.value (.int .u8 (48 + r : Nat))) w := by
  obtain ⟨m, hm⟩ : ∃ m : Int, m = (48 + r : Nat) := ⟨_, rfl⟩
  rw [← hm] at h ⊢
  have m0 : 0 ≤ m := by omega
  have m1 : m ≤ 255 := by omega
  clear hm hr
  go_simp
  try (simp only [IntKind.wrap, IntKind.bits, IntKind.signed]; first | omega | (simp; omega))
theorem run_bytes1 {ρ : Operand → Value} {d : Option Tmp} {ty : TypeId} {pos : String} {af : Array Edge} {g : Option (Nat × Bool)} {x : Tmp} {w : World} {r : Nat} (h : ρ (.tmp x) = .int .u8 (48 + r : Nat)) :
    (execOp ρ ⟨d, .buildSlice 75 1 #[(0, .tmp x)], ty, pos, af, g⟩).run Tryd.prog w = .ok (.value (.slice (some ⟨w.heap.size, 0, none⟩) 1 1)) (w.alloc (.cells #[.int .u8 (48 + r : Nat)] 5)) := by
  generalize ((48 + r : Nat) : Int) = m at *
  go_simp
theorem run_text1 {ρ : Operand → Value} {d : Option Tmp} {ty : TypeId} {pos : String} {af : Array Edge} {g : Option (Nat × Bool)} {x : Tmp} {w : World} {r B : Nat} (hr : r < 10) (h : ρ (.tmp x) = .slice (some ⟨B, 0, none⟩) 1 1) (hB : w.heap[B]? = some (.cells #[.int .u8 (48 + r : Nat)] 5 (0, 0))) :
    (execOp ρ ⟨d, .convert 75 9 (.tmp x), ty, pos, af, g⟩).run Tryd.prog w = .ok (.value (.string ⟨[UInt8.ofNat (48 + r)].toArray⟩)) w := by
  have e := one_text w B (UInt8.ofNat (48 + r)) (by rw [byte_of r hr]; exact hB)
  clear hB
  simp only [execOp, h, Sem.run_bind, e, Result.andThen_ok, Sem.run_pure]
theorem run_cat {ρ : Operand → Value} {d : Option Tmp} {ty : TypeId} {pos : String} {af : Array Edge} {g : Option (Nat × Bool)} {x y : Tmp} {w : World} {a b : ByteArray} (h : ρ (.tmp x) = .string a) (h' : ρ (.tmp y) = .string b) (hs : (a ++ b).size ≤ 1000) :
    (execOp ρ ⟨d, .binOp .add 9 (.tmp x) (.tmp y) 9, ty, pos, af, g⟩).run Tryd.prog w = .ok (.value (.string (a ++ b))) w := by
  have hs2 : a.size + b.size ≤ 9223372036854775807 := by
    rw [ByteArray.size_append] at hs
    omega
  clear hs
  go_simp

set_option maxRecDepth 100000 in
set_option maxHeartbeats 3200000 in
theorem numeral_any (n : Nat) : n < 18446744073709551616 → ∀ w : World, Calls Tryd.prog 12 #[.int .u64 (n : Nat)] w fun e w' => e = .returned (.string (numS n)) ∧ Below w.heap.size w w' := by
  induction n using Nat.strongRecOn with
  | ind n ih =>
    intro hn w
    by_cases h10 : n < 10
    · have e : numS n = ⟨[UInt8.ofNat (48 + n)].toArray⟩ := by rw [numS, Lib.decDigits_one h10]
      have hcv := one_text (w.alloc (.cells #[.int .u8 (48 + n : Nat)] 5)) w.heap.size (UInt8.ofNat (48 + n)) (by rw [byte_of n h10]; exact heap_at _ _ _ rfl)
      rw [show ((48 + n : Nat) : Int) = 48 + (n : Int) by omega] at hcv
      obtain ⟨m, hm⟩ : ∃ m : Int, m = (n : Nat) := ⟨_, rfl⟩
      rw [← hm] at hcv ⊢
      rw [← e] at hcv
      generalize numS n = tx at *
      have m0 : 0 ≤ m := by omega
      have m1 : m < 10 := by omega
      clear e hm ih hn h10
      go_enter Tryd.func12, Tryd.ntmps12
      go_wp2
      go_ret
      exact ⟨rfl, (Below.refl _ _).alloc (Nat.le_refl _) _⟩
    · obtain ⟨q, hq⟩ : ∃ q, q = n / 10 := ⟨_, rfl⟩
      obtain ⟨r, hr⟩ : ∃ r, r = n % 10 := ⟨_, rfl⟩
      have en : n = q * 10 + r := by omega
      have hr10 : r < 10 := by omega
      have hC := fun W => ih q (by omega) (by omega) W
      have HN : Hid (numS (q * 10 + r) = numS q ++ ⟨[UInt8.ofNat (48 + r)].toArray⟩) := Lib.hid (by
        have e1 : (q * 10 + r) / 10 = q := by omega
        have e2 : (q * 10 + r) % 10 = r := by omega
        rw [numS, Lib.decDigits, dif_neg (by omega), e1, e2, numS]
        apply ByteArray.ext
        simp)
      have HSZ : Hid ((numS q ++ ⟨[UInt8.ofNat (48 + r)].toArray⟩ : ByteArray).size ≤ 1000) := Lib.hid (by
        rw [← HN.out]
        have := numS_len (u := q * 10 + r) (by omega)
        omega)
      have hlt : q * 10 + r < 18446744073709551616 := by omega
      have HL := Lib.hid hlt
      have HC := Lib.hid hC
      obtain ⟨m, hm⟩ : ∃ m : Int, m = (n : Nat) := ⟨_, rfl⟩
      rw [← hm]
      have hM : Hid (m = (q * 10 + r : Nat)) := Lib.hid (by rw [hm, en])
      have HF : Hid (numS n = numS q ++ ⟨[UInt8.ofNat (48 + r)].toArray⟩) := Lib.hid (by rw [en]; exact HN.out)
      have m0 : 10 ≤ m := by omega
      have m1 : m ≤ 18446744073709551615 := by omega
      clear ih hq hr hC h10 hn hlt hm en HN
      go_enter Tryd.func12, Tryd.ntmps12
      go_upto_region 3 with fail
      refine wp_region_og [10, 11, 12, 13, 14, 15, 16, 17, 18, 19, 2] (NI w m q r (numS q)) (by kernel_rfl) (by kernel_rfl) ⟨(Below.refl _ _).drew, fun h => Bool.noConfusion h, fun h => Bool.noConfusion h, fun h => Bool.noConfusion h, fun h => Bool.noConfusion h, fun h => Bool.noConfusion h, fun h => Bool.noConfusion h, fun h => Bool.noConfusion h, fun h => Bool.noConfusion h, fun h => Bool.noConfusion h, fun h => Bool.noConfusion h, fun h => Bool.noConfusion h⟩ ?_ ?_
      · intro i o ho L f wz hl hp hI
        have hi : i < 11 := (Array.getElem?_eq_some_iff.1 ho).1
        obtain rfl | rfl | rfl | rfl | rfl | rfl | rfl | rfl | rfl | rfl | rfl : i = 0 ∨ i = 1 ∨ i = 2 ∨ i = 3 ∨ i = 4 ∨ i = 5 ∨ i = 6 ∨ i = 7 ∨ i = 8 ∨ i = 9 ∨ i = 10 := by omega
        all_goals obtain rfl := Option.some.inj ho
        · exact og_op rfl rfl (og_value (run_move ((over_eval_out _ _ _ (by decide)).trans rfl)) ⟨_, over_put _ _ _ (by decide) _, hI.put (Below.refl _ _) 0 10 _ (by decide) ⟨hI.bel, fun _ => rfl, fun h => absurd h (by simp), fun h => absurd h (by simp), fun h => absurd h (by simp), fun h => absurd h (by simp), fun h => absurd h (by simp), fun h => absurd h (by simp), fun h => absurd h (by simp), fun h => absurd h (by simp), fun h => absurd h (by simp), fun h => absurd h (by simp)⟩⟩)
        · have e1 := hI.v0 (hp ⟨0, .data⟩ (by simp) rfl)
          exact og_op rfl rfl (og_value (run_quo hM.out hr10 HL.out ((over_eval _ _ _ (by decide) (by show 10 < 20; omega)).trans e1) rfl) ⟨_, over_put _ _ _ (by decide) _, hI.put (Below.refl _ _) 1 11 _ (by decide) ⟨hI.bel, fun h => absurd h (by simp), fun _ => rfl, fun h => absurd h (by simp), fun h => absurd h (by simp), fun h => absurd h (by simp), fun h => absurd h (by simp), fun h => absurd h (by simp), fun h => absurd h (by simp), fun h => absurd h (by simp), fun h => absurd h (by simp), fun h => absurd h (by simp)⟩⟩)
        · have e1 := hI.v1 (hp ⟨1, .data⟩ (by simp) rfl)
          refine og_op rfl rfl (og_call (run_call1 ((over_eval _ _ _ (by decide) (by show 11 < 20; omega)).trans e1) rfl (fun args => by simp [go_sem])) ?_)
          refine (HC.out wz).mono ?_
          rintro e w' ⟨rfl, hbc⟩
          exact ⟨_, rfl, ⟨_, over_put _ _ _ (by decide) _, hI.put hbc 2 12 _ (by decide) ⟨(Below.after hI.bel hbc), fun h => absurd h (by simp), fun h => absurd h (by simp), fun _ => rfl, fun h => absurd h (by simp), fun h => absurd h (by simp), fun h => absurd h (by simp), fun h => absurd h (by simp), fun h => absurd h (by simp), fun h => absurd h (by simp), fun h => absurd h (by simp), fun h => absurd h (by simp)⟩⟩⟩
        · exact og_op rfl rfl (og_value (run_move ((over_eval_out _ _ _ (by decide)).trans rfl)) ⟨_, over_put _ _ _ (by decide) _, hI.put (Below.refl _ _) 3 13 _ (by decide) ⟨hI.bel, fun h => absurd h (by simp), fun h => absurd h (by simp), fun h => absurd h (by simp), fun _ => rfl, fun h => absurd h (by simp), fun h => absurd h (by simp), fun h => absurd h (by simp), fun h => absurd h (by simp), fun h => absurd h (by simp), fun h => absurd h (by simp), fun h => absurd h (by simp)⟩⟩)
        · have e1 := hI.v3 (hp ⟨3, .data⟩ (by simp) rfl)
          exact og_op rfl rfl (og_value (run_rem hM.out hr10 HL.out ((over_eval _ _ _ (by decide) (by show 13 < 20; omega)).trans e1) rfl) ⟨_, over_put _ _ _ (by decide) _, hI.put (Below.refl _ _) 4 14 _ (by decide) ⟨hI.bel, fun h => absurd h (by simp), fun h => absurd h (by simp), fun h => absurd h (by simp), fun h => absurd h (by simp), fun _ => rfl, fun h => absurd h (by simp), fun h => absurd h (by simp), fun h => absurd h (by simp), fun h => absurd h (by simp), fun h => absurd h (by simp), fun h => absurd h (by simp)⟩⟩)
        · have e1 := hI.v4 (hp ⟨4, .data⟩ (by simp) rfl)
          exact og_op rfl rfl (og_value (run_add48 hr10 ((over_eval _ _ _ (by decide) (by show 14 < 20; omega)).trans e1) rfl) ⟨_, over_put _ _ _ (by decide) _, hI.put (Below.refl _ _) 5 15 _ (by decide) ⟨hI.bel, fun h => absurd h (by simp), fun h => absurd h (by simp), fun h => absurd h (by simp), fun h => absurd h (by simp), fun h => absurd h (by simp), fun _ => rfl, fun h => absurd h (by simp), fun h => absurd h (by simp), fun h => absurd h (by simp), fun h => absurd h (by simp), fun h => absurd h (by simp)⟩⟩)
        · have e1 := hI.v5 (hp ⟨5, .data⟩ (by simp) rfl)
          exact og_op rfl rfl (og_value (run_convB hr10 ((over_eval _ _ _ (by decide) (by show 15 < 20; omega)).trans e1)) ⟨_, over_put _ _ _ (by decide) _, hI.put (Below.refl _ _) 6 16 _ (by decide) ⟨hI.bel, fun h => absurd h (by simp), fun h => absurd h (by simp), fun h => absurd h (by simp), fun h => absurd h (by simp), fun h => absurd h (by simp), fun h => absurd h (by simp), fun _ => rfl, fun h => absurd h (by simp), fun h => absurd h (by simp), fun h => absurd h (by simp), fun h => absurd h (by simp)⟩⟩)
        · have e1 := hI.v6 (hp ⟨6, .data⟩ (by simp) rfl)
          exact og_op rfl rfl (og_value (run_bytes1 ((over_eval _ _ _ (by decide) (by show 16 < 20; omega)).trans e1)) ⟨_, over_put _ _ _ (by decide) _, hI.put ((Below.refl _ _).alloc (Nat.le_refl _) _) 7 17 _ (by decide) ⟨(Below.after hI.bel ((Below.refl _ _).alloc (Nat.le_refl _) _)), fun h => absurd h (by simp), fun h => absurd h (by simp), fun h => absurd h (by simp), fun h => absurd h (by simp), fun h => absurd h (by simp), fun h => absurd h (by simp), fun h => absurd h (by simp), fun _ => ⟨_, rfl, heap_at _ _ _ rfl⟩, fun h => absurd h (by simp), fun h => absurd h (by simp), fun h => absurd h (by simp)⟩⟩)
        · obtain ⟨B, e1, hB⟩ := hI.v7 (hp ⟨7, .data⟩ (by simp) rfl)
          exact og_op rfl rfl (og_value (run_text1 hr10 ((over_eval _ _ _ (by decide) (by show 17 < 20; omega)).trans e1) hB) ⟨_, over_put _ _ _ (by decide) _, hI.put (Below.refl _ _) 8 18 _ (by decide) ⟨hI.bel, fun h => absurd h (by simp), fun h => absurd h (by simp), fun h => absurd h (by simp), fun h => absurd h (by simp), fun h => absurd h (by simp), fun h => absurd h (by simp), fun h => absurd h (by simp), fun h => absurd h (by simp), fun _ => rfl, fun h => absurd h (by simp), fun h => absurd h (by simp)⟩⟩)
        · have e1 := hI.v2 (hp ⟨2, .data⟩ (by simp) rfl)
          have e2 := hI.v8 (hp ⟨8, .data⟩ (by simp) rfl)
          exact og_op rfl rfl (og_value (run_cat ((over_eval _ _ _ (by decide) (by show 12 < 20; omega)).trans e1) ((over_eval _ _ _ (by decide) (by show 18 < 20; omega)).trans e2) HSZ.out) ⟨_, over_put _ _ _ (by decide) _, hI.put (Below.refl _ _) 9 19 _ (by decide) ⟨hI.bel, fun h => absurd h (by simp), fun h => absurd h (by simp), fun h => absurd h (by simp), fun h => absurd h (by simp), fun h => absurd h (by simp), fun h => absurd h (by simp), fun h => absurd h (by simp), fun h => absurd h (by simp), fun h => absurd h (by simp), fun _ => rfl, fun h => absurd h (by simp)⟩⟩)
        · have e1 := hI.v9 (hp ⟨9, .data⟩ (by simp) rfl)
          exact og_op rfl rfl (og_value (run_assignN ((over_eval _ _ _ (by decide) (by show 19 < 20; omega)).trans e1)) ⟨_, over_put _ _ _ (by decide) _, hI.put (Below.refl _ _) 10 2 _ (by decide) ⟨hI.bel, fun h => absurd h (by simp), fun h => absurd h (by simp), fun h => absurd h (by simp), fun h => absurd h (by simp), fun h => absurd h (by simp), fun h => absurd h (by simp), fun h => absurd h (by simp), fun h => absurd h (by simp), fun h => absurd h (by simp), fun h => absurd h (by simp), fun _ => rfl⟩⟩)
      · intro L f wz hl hI
        have e1 := hI.va (hl 10 (by show 10 < 11; omega))
        have HB := Lib.hid hI.bel
        rw [← HF.out] at e1
        clear hI hl
        simp only [over, ovl, List.contains, List.elem, Nat.reduceBEq, Bool.false_eq_true, if_false, if_true, Nat.reduceAdd]
        generalize f 2 = v2 at *
        subst e1
        go_wp2_with fail
        go_ret
        exact ⟨rfl, HB.out⟩
end Go.Proofs.YthodlepbmnbflaaDoor
