/- The laws' helpers over plain values: castPlain, castLives, zzFits1; a value as it is read. -/
import Derived.Test.YtfeijmoncadkiaaDoorCastW
import Derived.Test.YtfeijmoncadkiaaDoorPlainK
import Derived.Deep.Fields
import Derived.OpenShut
import Derived.ChangeSame
namespace Go.Proofs.YtfeijmoncadkiaaDoor
open Go.RowKit Go.ChangeShapes Go.WideShapes Go.Deep
set_option linter.unusedVariables false
set_option linter.unusedSimpArgs false

theorem two_size (w : World) (a b : Obj) : ((w.alloc a).alloc b).heap.size = w.heap.size + 2 := by
  show ((w.heap.push a).push b).size = _
  simp
theorem two_below (w : World) (a b : Obj) : Below w.heap.size w ((w.alloc a).alloc b) :=
  ((Below.refl _ _).alloc (Nat.le_refl _) _).alloc (by show w.heap.size ≤ (w.heap.push a).size; simp) _
theorem two_row {w w1 : World} {a : Obj} {c : Array Value} {t : TypeId} (h : Below ((w.alloc a).alloc (.cells c t)).heap.size ((w.alloc a).alloc (.cells c t)) w1) : w1.heap[w.heap.size + 1]? = some (.cells c t (0, 0)) ∧ Below w.heap.size w w1 := by
  have hz := two_size w a (.cells c t)
  exact ⟨(h.block (w.heap.size + 1) (by omega)).trans (heap_alloc2_new w _ _), (two_below w _ _).trans (h.mono (by omega))⟩
theorem Below.setRow {B : Nat} {a w : World} (h : Below B a w) {g : Nat} (hg : B ≤ g) (c : Array Value) : Below B a (w.setRow g c) :=
  h.trans ⟨rfl, rfl, rfl, by show w.heap.size ≤ (w.heap.modify g _).size; rw [Array.size_modify]; exact Nat.le_refl _, fun b hb => by
    show (w.heap.modify g _)[b]? = _
    rw [Array.getElem?_modify, if_neg (by omega)]⟩
set_option maxRecDepth 100000 in
theorem castPlain_any (k i u : Int) (b : Nat) (s : ByteArray) (vl vm : Value) (hk : -9223372036854775808 ≤ k ∧ k < 9223372036854775808) (hs : s.size ≤ 2147483647) (w : World) :
    Calls Tryd.prog 6 #[.agg #[.int .i64 k, .int .i64 i, .int .u64 u, .float .f64 b, .string s, vl, vm]] w fun e w' =>
      (∃ (k' : Int) (b' : Nat), 0 ≤ k' ∧ k' ≤ 14 ∧ (b' = 0 ∨ (FloatKind.f64.format.order b' 14105274032924393472 = some .gt ∧ FloatKind.f64.format.order b' 4881901996069617664 = some .lt)) ∧
        e = .returned (.agg #[.int .i64 k', .int .i64 i, .int .u64 u, .float .f64 b', .string (s.extract 0 (min s.size 400)), .slice none 0 0, .slice none 0 0])) ∧ Below w.heap.size w w' := by
  have C := Lib.hid (fun W => within_any k i u b s vl vm hk hs W)
  clear hk hs
  generalize s.extract 0 (min s.size 400) = t at *
  go_enter Tryd.func6, Tryd.ntmps6
  go_wp2_with fail
  refine (C.out _).mono ?_
  rintro e w1 ⟨⟨k', b', h1, h2, h3, rfl⟩, hb1⟩
  have HH := Lib.hid (And.intro h1 (And.intro h2 h3))
  clear h1 h2 h3
  have HC := Lib.hid (two_row hb1)
  clear hb1
  go_wp2_with (refine wpList_store_row (by rfl) 27 (.tmp 2) (.tmp 4) (by rfl) (w.heap.size + 1) #[.int .i64 k', .int .i64 i, .int .u64 u, .float .f64 b', .string t, .slice none 0 0, .slice none 0 0] (by rfl) (by rfl) _ _ HC.out.1 (by kernel_rfl) (by rfl) (by simp [Value.oneCell']) ?_)
  refine bodyPost_ret (results_cell_row rfl _ _ (w.heap.size + 1) _ _ (0, 0) _ rfl (setRow_heap _ _ _ _ _ _ HC.out.1) Tryd.underlying27 rfl (by kernel_rfl)) rfl ⟨⟨k', b', HH.out.1, HH.out.2.1, HH.out.2.2, rfl⟩, Below.setRow HC.out.2 (by omega) _⟩

set_option maxRecDepth 100000 in
theorem lives_any (w : World) (hE : ErrsAt w) : Calls Tryd.prog 11 #[] w fun e w' => e = .returned (.bool true) ∧ Below w.heap.size w w' := by
  have C := Lib.hid (fun W hE => impl_int (.int .i64 2) (.int .i64 7) (.int .u64 0) (.float .f64 0) (.string ⟨#[]⟩) (.slice none 0 0) (.slice none 0 0) _ 7 false (fun W => value_int 7 0 0 ⟨#[]⟩ (.slice none 0 0) (.slice none 0 0) (by omega) W) (fun W _ => e_int _ _ (fun W => num_int_int 7 (by omega) W) W) W hE)
  have HE := Lib.hid hE
  clear hE
  go_enter Tryd.func11, Tryd.ntmps11
  go_wp2_with fail
  refine (C.out _ HE.out).mono ?_
  rintro e w1 ⟨rfl, hb1⟩
  have HB := Lib.hid hb1
  clear hb1
  go_wp2_with fail
  go_ret
  exact ⟨rfl, HB.out⟩
set_option maxRecDepth 100000 in
theorem fits1_any (k i u : Int) (b : Nat) (s : ByteArray) (x y : Option Addr) (n c m d : Nat) (w : World) :
    Calls Tryd.prog 5 #[.agg #[.int .i64 k, .int .i64 i, .int .u64 u, .float .f64 b, .string s, .slice x n c, .slice y m d]] w fun e w' =>
      (∃ t, e = .returned (.bool t) ∧ (t = true → s.size ≤ 2147483647)) ∧ Below w.heap.size w w' := by
  have HB : Hid (∀ o : Obj, Below w.heap.size w (w.alloc o)) := Lib.hid fun o => (Below.refl _ _).alloc (Nat.le_refl _) _
  by_cases h1 : s.size ≤ 2147483647
  case neg =>
    go_enter Tryd.func5, Tryd.ntmps5
    go_wp2_with fail
    go_ret
    exact ⟨⟨_, rfl, fun h => by cases h⟩, HB.out _⟩
  by_cases h2 : n ≤ 2147483647
  case neg =>
    go_enter Tryd.func5, Tryd.ntmps5
    go_wp2_with fail
    go_ret
    exact ⟨⟨_, rfl, fun h => by cases h⟩, HB.out _⟩
  by_cases h3 : m ≤ 2147483647
  case neg =>
    go_enter Tryd.func5, Tryd.ntmps5
    go_wp2_with fail
    go_ret
    exact ⟨⟨_, rfl, fun h => by cases h⟩, HB.out _⟩
  have H1 := Lib.hid h1
  go_enter Tryd.func5, Tryd.ntmps5
  go_wp2_with fail
  go_ret
  exact ⟨⟨_, rfl, fun _ => H1.out⟩, HB.out _⟩

/-- A value as it is read. -/
theorem honeA : ∃ f0 f1 f2 f3 f4 f5 f6 : Field, Tryd.prog.underlying 27 = some (.struct #[f0, f1, f2, f3, f4, f5, f6]) ∧ oneCellFields Tryd.prog #[f0, f1, f2, f3, f4, f5, f6] = true ∧ f0.type = 3 ∧ f1.type = 2 ∧ f2.type = 22 ∧ f3.type = 23 ∧ f4.type = 9 ∧ f5.type = 24 ∧ f6.type = 25 :=
  ⟨_, _, _, _, _, _, _, Tryd.underlying27, by kernel_rfl, rfl, rfl, rfl, rfl, rfl, rfl, rfl⟩
section
variable {H : Type} {enc : TypeId × Value → H} {W : World} {sp : Nat → Bool} {held : Bool}
theorem trod_float {t : TypeId} {k : FloatKind} {fuel : Nat} {cs : List Value} {x : DataW H × List MemPlace} (ht : Tryd.prog.underlying t = some (.float k)) (h : DataW.trod enc Tryd.prog W 0 sp held fuel t cs = some x) : ∃ b, cs = [.float k b] := by
  cases fuel with
  | zero => simp [DataW.trod] at h
  | succ n =>
    unfold DataW.trod at h
    rw [ht] at h
    split at h <;> simp_all
set_option maxRecDepth 1000000 in
theorem open_any {b0 : Nat} {v : Value} {d : DataW H} {p : List MemPlace} (hv : Value.okWide Tryd.prog W .any b0 27 v) (h : DataW.Trod enc Tryd.prog W 0 sp held 27 v d p) :
    ∃ (k i u : Int) (b : Nat) (s : ByteArray) (x y : Option Addr) (n c m e : Nat), v = .agg #[.int .i64 k, .int .i64 i, .int .u64 u, .float .f64 b, .string s, .slice x n c, .slice y m e] ∧
      (-9223372036854775808 ≤ k ∧ k < 9223372036854775808) ∧ (-9223372036854775808 ≤ i ∧ i < 9223372036854775808) ∧ (0 ≤ u ∧ u < 18446744073709551616) := by
  obtain ⟨cs, rfl, hsz⟩ := okWide_struct Tryd.underlying27 hv
  obtain ⟨fuel, hf⟩ := h
  obtain ⟨f0, f1, f2, f3, f4, f5, f6, ht, hone, e0, e1, e2, e3, e4, e5, e6⟩ := honeA
  obtain ⟨xs, n, -, -, hlen, hxl, hf⟩ := DataW.trod_struct ht hf
  have h7 : Tryd.prog.cellsOf 27 = 7 := by kernel_rfl
  rw [h7] at hlen hsz
  obtain ⟨cs⟩ := cs
  simp only [Value.cells] at hlen hf
  match cs, hlen with
  | [c0, c1, c2, c3, c4, c5, c6], _ =>
    match xs, hxl with
    | [y0, y1, y2, y3, y4, y5, y6], _ =>
      have g : ∀ i f, #[f0, f1, f2, f3, f4, f5, f6][i]? = some f → _ := fun i f hi => hone_of hone i f hi
      obtain ⟨o0, k0⟩ := hone_of hone 0 f0 rfl
      obtain ⟨o1, k1⟩ := hone_of hone 1 f1 rfl
      obtain ⟨o2, k2⟩ := hone_of hone 2 f2 rfl
      obtain ⟨o3, k3⟩ := hone_of hone 3 f3 rfl
      obtain ⟨o4, k4⟩ := hone_of hone 4 f4 rfl
      obtain ⟨o5, k5⟩ := hone_of hone 5 f5 rfl
      obtain ⟨o6, k6⟩ := hone_of hone 6 f6 rfl
      have q0 : DataW.trod enc Tryd.prog W 0 sp held n f0.type [c0] = some y0 := by simpa [o0, k0] using hf 0 f0 rfl
      have q1 : DataW.trod enc Tryd.prog W 0 sp held n f1.type [c1] = some y1 := by simpa [o1, k1] using hf 1 f1 rfl
      have q2 : DataW.trod enc Tryd.prog W 0 sp held n f2.type [c2] = some y2 := by simpa [o2, k2] using hf 2 f2 rfl
      have q3 : DataW.trod enc Tryd.prog W 0 sp held n f3.type [c3] = some y3 := by simpa [o3, k3] using hf 3 f3 rfl
      have q4 : DataW.trod enc Tryd.prog W 0 sp held n f4.type [c4] = some y4 := by simpa [o4, k4] using hf 4 f4 rfl
      have q5 : DataW.trod enc Tryd.prog W 0 sp held n f5.type [c5] = some y5 := by simpa [o5, k5] using hf 5 f5 rfl
      have q6 : DataW.trod enc Tryd.prog W 0 sp held n f6.type [c6] = some y6 := by simpa [o6, k6] using hf 6 f6 rfl
      rw [e0] at q0
      rw [e1] at q1
      rw [e2] at q2
      rw [e3] at q3
      rw [e4] at q4
      rw [e5] at q5
      rw [e6] at q6
      obtain ⟨k, r0, -, w0⟩ := DataW.trod_int Tryd.underlying3 q0
      obtain ⟨i, r1, -, w1⟩ := DataW.trod_int Tryd.underlying2 q1
      obtain ⟨u, r2, -, w2⟩ := DataW.trod_int Tryd.underlying22 q2
      obtain ⟨b, r3⟩ := trod_float Tryd.underlying23 q3
      obtain ⟨s, r4, -, -⟩ := DataW.trod_string Tryd.underlying9 q4
      have sl : ∀ {t e : TypeId} {c : Value} {y : DataW H × List MemPlace}, Tryd.prog.underlying t = some (.slice e) → DataW.trod enc Tryd.prog W 0 sp held n t [c] = some y → ∃ x n m, c = .slice x n m := fun ht h => by
        rcases DataW.trod_slice ht h with ⟨r, -⟩ | ⟨a, len, cap, -, -, -, -, r, -⟩
        · cases r; exact ⟨_, _, _, rfl⟩
        · cases r; exact ⟨_, _, _, rfl⟩
      obtain ⟨x, n1, c1', r5⟩ := sl Tryd.underlying24 q5
      obtain ⟨y, m1, d1', r6⟩ := sl Tryd.underlying25 q6
      cases r0; cases r1; cases r2; cases r3; cases r4; subst r5 r6
      have e8 : IntKind.i64.min = -9223372036854775808 := by first | rfl | decide
      have e9 : IntKind.i64.max = 9223372036854775807 := by first | rfl | decide
      have ea : IntKind.u64.min = 0 := by first | rfl | decide
      have eb : IntKind.u64.max = 18446744073709551615 := by first | rfl | decide
      refine ⟨k, i, u, b, s, x, y, n1, c1', m1, d1', rfl, ?_, ?_, ?_⟩
      · simp only [Lit.wf, Bool.and_eq_true, decide_eq_true_eq, e8, e9] at w0
        omega
      · simp only [Lit.wf, Bool.and_eq_true, decide_eq_true_eq, e8, e9] at w1
        omega
      · simp only [Lit.wf, Bool.and_eq_true, decide_eq_true_eq, ea, eb] at w2
        omega
end
end Go.Proofs.YtfeijmoncadkiaaDoor
