/- Steps as arguments, as they are read; whether they are of the size that the laws speak of. -/
import Derived.Test.YtlnnmionbflolaaDoorOpenT
import Derived.Test.YtlnnmionbflolaaDoorSteps
import Derived.Deep.Strs
import Derived.Deep.Fields
import Derived.OpenShut
import Derived.ChangeSame
namespace Go.Proofs.YtlnnmionbflolaaDoor
open Go.RowKit Go.ChangeShapes Go.WideShapes Go.Deep
set_option linter.unusedVariables false
set_option linter.unusedSimpArgs false

variable {H : Type} {enc : TypeId × Value → H} {W : World} {sp : Nat → Bool} {held : Bool}

theorem hone3 : ∃ f0 f1 f2 : Field, Tryd.prog.underlying 57 = some (.struct #[f0, f1, f2]) ∧ oneCellFields Tryd.prog #[f0, f1, f2] = true ∧ f0.type = 3 ∧ f1.type = 9 ∧ f2.type = 51 :=
  ⟨_, _, _, Tryd.underlying57, by kernel_rfl, rfl, rfl, rfl⟩

set_option maxRecDepth 1000000 in
/-- A struct of three fields, a cell each. -/
theorem three_of_trod {t : TypeId} {f0 f1 f2 : Field} {fuel : Nat} {cs : List Value} {x : DataW H × List MemPlace} (ht : Tryd.prog.underlying t = some (.struct #[f0, f1, f2])) (hone : oneCellFields Tryd.prog #[f0, f1, f2] = true) (hc : Tryd.prog.cellsOf t = 3)
    (h : DataW.trod enc Tryd.prog W 0 sp held fuel t cs = some x) :
    ∃ c0 c1 c2 y0 y1 y2 n, cs = [c0, c1, c2] ∧ DataW.trod enc Tryd.prog W 0 sp held n f0.type [c0] = some y0 ∧ DataW.trod enc Tryd.prog W 0 sp held n f1.type [c1] = some y1 ∧ DataW.trod enc Tryd.prog W 0 sp held n f2.type [c2] = some y2 := by
  obtain ⟨xs, n, -, -, hlen, hxl, hf⟩ := DataW.trod_struct ht h
  rw [hc] at hlen
  match cs, hlen with
  | [c0, c1, c2], _ =>
    match xs, hxl with
    | [y0, y1, y2], _ =>
      obtain ⟨o0, k0⟩ := hone_of hone 0 f0 rfl
      obtain ⟨o1, k1⟩ := hone_of hone 1 f1 rfl
      obtain ⟨o2, k2⟩ := hone_of hone 2 f2 rfl
      exact ⟨c0, c1, c2, y0, y1, y2, n, rfl, by simpa [o0, k0] using hf 0 f0 rfl, by simpa [o1, k1] using hf 1 f1 rfl, by simpa [o2, k2] using hf 2 f2 rfl⟩

set_option maxRecDepth 1000000 in
theorem step_of_trod {fuel : Nat} {cs : List Value} {x : DataW H × List MemPlace} (h : DataW.trod enc Tryd.prog W 0 sp held fuel 57 cs = some x) :
    ∃ (f : StepD) (a : Option Addr) (n c : Nat), cs = [.int .i64 f.d, .string f.s, .slice a n c] ∧ Strs W (.slice a n c) f.l ∧ f.l.length ≤ maxLen := by
  obtain ⟨f0, f1, f2, ht, hone, e0, e1, e2⟩ := hone3
  obtain ⟨c0, c1, c2, y0, y1, y2, n, rfl, h0, h1, h2⟩ := three_of_trod ht hone (by kernel_rfl) h
  rw [e0] at h0
  rw [e1] at h1
  rw [e2] at h2
  obtain ⟨n0, q0, -, -⟩ := DataW.trod_int Tryd.underlying3 h0
  obtain ⟨s1, q1, -, -⟩ := DataW.trod_string Tryd.underlying9 h1
  obtain ⟨v, l, q2, k1, k2, k3⟩ := strs_of_trod h2
  cases q0; cases q1; cases q2
  obtain ⟨a, c, rfl⟩ := k1.len
  exact ⟨⟨n0, s1, l⟩, a, _, c, rfl, k1, k2⟩

set_option maxRecDepth 1000000 in
theorem steps_of_trod {fuel : Nat} {cs : List Value} {x : DataW H × List MemPlace} (h : DataW.trod enc Tryd.prog W 0 sp held fuel 23 cs = some x) :
    ∃ v fs, cs = [v] ∧ Steps W v fs ∧ fs.length ≤ maxLen ∧ ∀ f ∈ fs, f.l.length ≤ maxLen := by
  rcases open_slice Tryd.underlying23 h with ⟨rfl, -⟩ | ⟨a, len, cap, m, n, D, Pl, rfl, hb, hl, hm, hmm, -, hx⟩
  · exact ⟨_, [], rfl, ⟨none, 0, rfl, fun i hi => by simp at hi⟩, Nat.zero_le _, by simp⟩
  · have hlm : len ≤ m := by rw [hmm]; split <;> omega
    have hc : Tryd.prog.cellsOf 57 = 3 := by kernel_rfl
    rw [hc] at hx
    have each : ∀ i, i < len → ∃ q : StepD × (Option Addr × Nat × Nat), (∀ j v, [Value.int .i64 q.1.d, .string q.1.s, .slice q.2.1 q.2.2.1 q.2.2.2][j]? = some v → W.cell? (a.add (i * 3 + j)) = some v) ∧ Strs W (.slice q.2.1 q.2.2.1 q.2.2.2) q.1.l ∧ q.1.l.length ≤ maxLen := fun i hi => by
      obtain ⟨cs', h1, h2⟩ := hx i (by omega)
      obtain ⟨f, b, bn, bc, rfl, h3, h4⟩ := step_of_trod h2
      obtain ⟨_, hcl, hat⟩ := World.cells?_some h1
      refine ⟨(f, b, bn, bc), fun j v hj => ?_, h3, h4⟩
      have hj3 : j < 3 := (List.getElem?_eq_some_iff.1 hj).1
      rw [← Go.Deep.add_add, hat j hj3, hj]
    obtain ⟨Q, hQ⟩ := choose_lt each
    refine ⟨_, (List.range len).map fun i => (Q i).1, rfl, ⟨some a, cap, by simp, fun i hi => ?_⟩, by simp; omega, fun f hf => ?_⟩
    · have hi' : i < len := by simpa using hi
      obtain ⟨b, off, cs, ty, fz, rfl, hbk, hcs⟩ := slice_block (w := W) (a := a) (n := len * 3) (V := fun k => ([Value.int .i64 (Q (k / 3)).1.d, .string (Q (k / 3)).1.s, .slice (Q (k / 3)).2.1 (Q (k / 3)).2.2.1 (Q (k / 3)).2.2.2][k % 3]?).getD .nilIface) (by omega) (fun k hk => by
        have h1 : k / 3 < len := by omega
        have h2 : k / 3 * 3 + k % 3 = k := by omega
        have h3 : k % 3 < 3 := Nat.mod_lt _ (by omega)
        have := (hQ (k / 3) h1).1 (k % 3) _ (List.getElem?_eq_getElem (by simpa using h3))
        rw [h2] at this
        rw [this, List.getElem?_eq_getElem (by simpa using h3)]
        rfl)
      refine ⟨b, off, rfl, ?_⟩
      rw [List.getElem_map, List.getElem_range]
      have g0 := hcs (i * 3) (by omega)
      rw [show i * 3 / 3 = i by omega, show i * 3 % 3 = 0 by omega] at g0
      have g1 := hcs (i * 3 + 1) (by omega)
      rw [show (i * 3 + 1) / 3 = i by omega, show (i * 3 + 1) % 3 = 1 by omega] at g1
      have g2 := hcs (i * 3 + 2) (by omega)
      rw [show (i * 3 + 2) / 3 = i by omega, show (i * 3 + 2) % 3 = 2 by omega] at g2
      simp only [← Nat.add_assoc] at g1 g2
      exact ⟨by simpa [World.cell?, hbk] using g0, by simpa [World.cell?, hbk] using g1, _, _, _, by simpa [World.cell?, hbk] using g2, (hQ i hi').2.1⟩
    · obtain ⟨i, hi, rfl⟩ := List.mem_map.1 hf
      exact (hQ i (List.mem_range.1 hi)).2.2

set_option maxRecDepth 1000000 in
theorem open_steps {b0 : Nat} {v : Value} {d : DataW H} {p : List MemPlace} (hv : Value.okWide Tryd.prog W .any b0 23 v) (h : DataW.Trod enc Tryd.prog W 0 sp held 23 v d p) :
    ∃ l, Steps W v l ∧ l.length ≤ maxLen ∧ ∀ x ∈ l, x.l.length ≤ maxLen := by
  obtain ⟨a, n, c, rfl⟩ := okWide_slice Tryd.underlying23 hv
  obtain ⟨fuel, hf⟩ := h
  obtain ⟨v, l, e, h1, h2, h3⟩ := steps_of_trod hf
  have : v = .slice a n c := by simpa [Value.cells] using e.symm
  subst this
  exact ⟨l, h1, h2, h3⟩

/-- Steps of a size that a law speaks of. -/
def SmallX (x : StepD) : Prop := x.s.size ≤ 2147483647 ∧ SmallL x.l
def SmallS (l : List StepD) : Prop := l.length ≤ 2147483647 ∧ ∀ x ∈ l, SmallX x

theorem fits8_any (x : StepD) (ta : Option Addr) (tn tc : Nat) (w : World) (hv : Strs w (.slice ta tn tc) x.l) (hl : x.l.length ≤ 9223372036854775807) :
    Calls Tryd.prog 21 #[.agg #[.int .i64 x.d, .string x.s, .slice ta tn tc]] w fun e w' => Tells (SmallX x) e ∧ Below w.heap.size w w' := by
  have C := Lib.hid (fun W (h : Below w.heap.size w W) => fits2_any (.slice ta tn tc) x.l W (hv.later h.block) hl)
  unfold SmallX
  obtain ⟨d, s, l⟩ := x
  simp only at *
  clear hv
  go_enter Tryd.func21, Tryd.ntmps21
  by_cases h1 : (2147483647 : Int) < (s.size : Int)
  · have d1 : decide ((2147483647 : Int) < (s.size : Int)) = true := decide_eq_true h1
    go_wp2_with fail
    go_ret
    exact ⟨Tells.no rfl, by (repeat (first | (with_reducible exact Below.refl _ _) | (with_reducible assumption) | ((with_reducible refine Below.alloc ?_ ?_ _); rotate_left; focus ((try simp only [World.size_alloc, size_setCell, World.heap_drewN]); (try omega); done)) | ((with_reducible refine Below.setCell ?_ ?_ _); rotate_left; focus ((try simp only [World.size_alloc, size_setCell, World.heap_drewN]); (try omega); done)) | (with_reducible refine Below.drewN' ?_) | (with_reducible refine Below.drew ?_)))⟩
  · have d1 : decide ((2147483647 : Int) < (s.size : Int)) = false := decide_eq_false h1
    have C1 := Lib.hid (C.out (w.alloc (.cells #[.int .i64 d, .string s, .slice ta tn tc] 57)) (by (repeat (first | (with_reducible exact Below.refl _ _) | (with_reducible assumption) | ((with_reducible refine Below.alloc ?_ ?_ _); rotate_left; focus ((try simp only [World.size_alloc, size_setCell, World.heap_drewN]); (try omega); done)) | ((with_reducible refine Below.setCell ?_ ?_ _); rotate_left; focus ((try simp only [World.size_alloc, size_setCell, World.heap_drewN]); (try omega); done)) | (with_reducible refine Below.drewN' ?_) | (with_reducible refine Below.drew ?_)))))
    go_wp2_with fail
    refine C1.out.mono ?_
    rintro e w2 ⟨⟨b, rfl, hb⟩, rfl⟩
    cases b with
    | false =>
      go_wp2_with fail
      go_ret
      exact ⟨Tells.no rfl, by (repeat (first | (with_reducible exact Below.refl _ _) | (with_reducible assumption) | ((with_reducible refine Below.alloc ?_ ?_ _); rotate_left; focus ((try simp only [World.size_alloc, size_setCell, World.heap_drewN]); (try omega); done)) | ((with_reducible refine Below.setCell ?_ ?_ _); rotate_left; focus ((try simp only [World.size_alloc, size_setCell, World.heap_drewN]); (try omega); done)) | (with_reducible refine Below.drewN' ?_) | (with_reducible refine Below.drew ?_)))⟩
    | true =>
      have HB := Lib.hid (hb rfl)
      clear hb
      go_wp2_with fail
      go_ret
      exact ⟨Tells.yes rfl ⟨by omega, HB.out⟩, by (repeat (first | (with_reducible exact Below.refl _ _) | (with_reducible assumption) | ((with_reducible refine Below.alloc ?_ ?_ _); rotate_left; focus ((try simp only [World.size_alloc, size_setCell, World.heap_drewN]); (try omega); done)) | ((with_reducible refine Below.setCell ?_ ?_ _); rotate_left; focus ((try simp only [World.size_alloc, size_setCell, World.heap_drewN]); (try omega); done)) | (with_reducible refine Below.drewN' ?_) | (with_reducible refine Below.drew ?_)))⟩

theorem fits7_any (v : Value) (l : List StepD) (w : World) (hv : Steps w v l) (hl : l.length ≤ 9223372036854775807) (hx : ∀ x ∈ l, x.l.length ≤ 9223372036854775807) :
    Calls Tryd.prog 5 #[v] w fun e w' => Tells (SmallS l) e ∧ Below w.heap.size w w' := by
  obtain ⟨a, cap, rfl⟩ := hv.len
  have HS := Lib.hid (fun W (h : Below w.heap.size w W) => hv.later h)
  have HX := Lib.hid hx
  clear hv hx
  go_enter Tryd.func5, Tryd.ntmps5
  by_cases h0 : (2147483647 : Int) < (l.length : Int)
  · have d0 : decide ((2147483647 : Int) < (l.length : Int)) = true := decide_eq_true h0
    go_wp2_with fail
    go_ret
    exact ⟨Tells.no rfl, Below.refl _ _⟩
  · have d0 : decide ((2147483647 : Int) < (l.length : Int)) = false := decide_eq_false h0
    go_wp2_with fail
    go_loopw [10] (fun i wr => ∃ k : Nat, k ≤ l.length ∧ i = .int .i64 k ∧ (∀ j (h : j < l.length), j < k → SmallX l[j]) ∧ Below w.heap.size w wr) (fun i _ => l.length - (intOf i).toNat)
    case atStart => exact ⟨0, Nat.zero_le _, rfl, fun j _ h => by omega, Below.refl _ _⟩
    case round =>
      obtain ⟨k, hk, rfl, hh, hbr⟩ := hrel
      have HH := Lib.hid hh
      have HBR := Lib.hid hbr
      clear hh
      by_cases hlt : k < l.length
      · obtain ⟨sb, so, rfl, hst⟩ := (HS.out wr hbr).at k hlt
        obtain ⟨s0, s1, ta, tn, tc, s2, s3⟩ := hst
        have slt := lt_of_cell s0
        have hxl := HX.out l[k] (List.getElem_mem hlt)
        have HN : Hid (SmallX l[k] → ∀ j (h : j < l.length), j < k + 1 → SmallX l[j]) := Lib.hid (fun hx j h hj => by
          by_cases e : j = k
          · subst e; exact hx
          · exact HH.out j h (by omega))
        clear hbr
        generalize l[k] = x at *
        have C := Lib.hid (fits8_any x ta tn tc (wr.alloc (.cells #[.int .i64 x.d, .string x.s, .slice ta tn tc] 57)) (s3.alloc _) hxl)
        have HB0 : Hid (Below wr.heap.size wr (wr.alloc (.cells #[.int .i64 x.d, .string x.s, .slice ta tn tc] 57))) := Lib.hid (by (repeat (first | (with_reducible exact Below.refl _ _) | (with_reducible assumption) | ((with_reducible refine Below.alloc ?_ ?_ _); rotate_left; focus ((try simp only [World.size_alloc, size_setCell, World.heap_drewN]); (try omega); done)) | ((with_reducible refine Below.setCell ?_ ?_ _); rotate_left; focus ((try simp only [World.size_alloc, size_setCell, World.heap_drewN]); (try omega); done)) | (with_reducible refine Below.drewN' ?_) | (with_reducible refine Below.drew ?_))))
        obtain ⟨xd, xs, xl⟩ := x
        simp only at *
        clear s3 hxl
        go_wp2_with fail
        refine C.out.mono ?_
        rintro e w2 ⟨⟨b, rfl, hb⟩, hb2⟩
        have HB2 : Hid (Below w.heap.size w w2) := Lib.hid (Below.after HBR.out (Below.after HB0.out hb2))
        clear hb2 C
        cases b with
        | false =>
          go_wp2_with fail
          go_ret
          exact ⟨Tells.no rfl, HB2.out⟩
        | true =>
          have HB := Lib.hid (HN.out (hb rfl))
          clear hb HN
          go_wp2_with fail
          go_roundw
          case rel => first | exact ⟨k + 1, by omega, by go_num, HB.out, HB2.out⟩ | ((repeat apply Exists.intro); exact ⟨⟨k + 1, by omega, by go_num, HB.out, HB2.out⟩, rfl⟩)
          case measure => simp [intOf]; omega
      · go_wp2_with fail
        go_ret
        refine ⟨Tells.yes rfl ⟨by omega, fun s hs => ?_⟩, HBR.out⟩
        obtain ⟨j, hj, rfl⟩ := List.mem_iff_getElem.1 hs
        exact HH.out j hj (by omega)

/-- How many steps are told of. -/
theorem told29_any (v : Value) (l : List StepD) (w : World) (hv : Steps w v l) (hl : l.length ≤ 2147483647) :
    Calls Tryd.prog 7 #[v] w fun e w' => e = .returned (.int .i64 ((l.filter toldG).length : Nat)) ∧ Below w.heap.size w w' := by
  obtain ⟨a, cap, rfl⟩ := hv.len
  have HS := Lib.hid (fun W (h : Below w.heap.size w W) => hv.later h)
  clear hv
  go_enter Tryd.func7, Tryd.ntmps7
  go_wp2_with fail
  go_loopw [3, 8] (fun n i wr => ∃ k : Nat, k ≤ l.length ∧ i = .int .i64 k ∧ (∃ c : Nat, n = .int .i64 c ∧ c = ((l.take k).filter toldG).length) ∧ Below w.heap.size w wr) (fun _ i _ => l.length - (intOf i).toNat)
  case atStart => exact ⟨0, Nat.zero_le _, rfl, ⟨0, rfl, rfl⟩, Below.refl _ _⟩
  case round =>
    obtain ⟨k, hk, rfl, ⟨c, rfl, hc⟩, hbr⟩ := hrel
    have hck : c ≤ k := by rw [hc]; exact Nat.le_trans (List.length_filter_le _ _) (by simp; omega)
    have HC := Lib.hid hc
    have HBR := Lib.hid hbr
    clear hc
    by_cases hlt : k < l.length
    · obtain ⟨sb, so, rfl, hst⟩ := (HS.out wr hbr).at k hlt
      obtain ⟨s0, s1, ta, tn, tc, s2, -⟩ := hst
      have slt := lt_of_cell s0
      have HN : Hid (((l.take (k + 1)).filter toldG).length = c + (if toldG l[k] then 1 else 0)) := Lib.hid (by
        rw [HC.out, List.take_succ_eq_append_getElem hlt, List.filter_append, List.length_append]
        by_cases h : toldG l[k] = true <;> simp [h])
      have hbr2 : Below wr.heap.size wr (wr.alloc (.cells #[.int .i64 l[k].d, .string l[k].s, .slice ta tn tc] 57)) := by (repeat (first | (with_reducible exact Below.refl _ _) | (with_reducible assumption) | ((with_reducible refine Below.alloc ?_ ?_ _); rotate_left; focus ((try simp only [World.size_alloc, size_setCell, World.heap_drewN]); (try omega); done)) | ((with_reducible refine Below.setCell ?_ ?_ _); rotate_left; focus ((try simp only [World.size_alloc, size_setCell, World.heap_drewN]); (try omega); done)) | (with_reducible refine Below.drewN' ?_) | (with_reducible refine Below.drew ?_)))
      have HB2 : Hid (Below w.heap.size w (wr.alloc (.cells #[.int .i64 l[k].d, .string l[k].s, .slice ta tn tc] 57))) := Lib.hid (Below.after hbr hbr2)
      clear hbr hbr2 HC
      generalize l[k] = x at *
      obtain ⟨xd, xs, xl⟩ := x
      unfold toldG at HN
      simp only at *
      by_cases h1 : (0 : Int) ≤ xd
      · have d1 : decide ((0 : Int) ≤ xd) = true := decide_eq_true h1
        by_cases h2 : xd ≤ (2 : Int)
        · have d2 : decide (xd ≤ (2 : Int)) = true := decide_eq_true h2
          have HN2 : Hid (c + 1 = ((l.take (k + 1)).filter toldG).length) := Lib.hid (by rw [show (fun x : StepD => decide (0 ≤ x.d ∧ x.d ≤ 2)) = toldG from rfl] at HN; rw [HN.out, if_pos (decide_eq_true ⟨h1, h2⟩)])
          clear HN
          go_wp2_with fail
          go_roundw
          case rel => first | exact ⟨k + 1, by omega, by go_num, ⟨c + 1, by go_num, HN2.out⟩, HB2.out⟩ | ((repeat apply Exists.intro); exact ⟨⟨k + 1, by omega, by go_num, ⟨c + 1, by go_num, HN2.out⟩, HB2.out⟩, rfl⟩)
          case measure => simp [intOf]; omega
        · have d2 : decide (xd ≤ (2 : Int)) = false := decide_eq_false h2
          have HN2 : Hid (c = ((l.take (k + 1)).filter toldG).length) := Lib.hid (by rw [show (fun x : StepD => decide (0 ≤ x.d ∧ x.d ≤ 2)) = toldG from rfl] at HN; rw [HN.out, if_neg (by simp; omega)]; rfl)
          clear HN
          go_wp2_with fail
          go_roundw
          case rel => first | exact ⟨k + 1, by omega, by go_num, ⟨c, rfl, HN2.out⟩, HB2.out⟩ | ((repeat apply Exists.intro); exact ⟨⟨k + 1, by omega, by go_num, ⟨c, rfl, HN2.out⟩, HB2.out⟩, rfl⟩)
          case measure => simp [intOf]; omega
      · have d1 : decide ((0 : Int) ≤ xd) = false := decide_eq_false h1
        have HN2 : Hid (c = ((l.take (k + 1)).filter toldG).length) := Lib.hid (by rw [show (fun x : StepD => decide (0 ≤ x.d ∧ x.d ≤ 2)) = toldG from rfl] at HN; rw [HN.out, if_neg (by simp; omega)]; rfl)
        clear HN
        go_wp2_with fail
        go_roundw
        case rel => first | exact ⟨k + 1, by omega, by go_num, ⟨c, rfl, HN2.out⟩, HB2.out⟩ | ((repeat apply Exists.intro); exact ⟨⟨k + 1, by omega, by go_num, ⟨c, rfl, HN2.out⟩, HB2.out⟩, rfl⟩)
        case measure => simp [intOf]; omega
    · have ek : k = l.length := by omega
      have HF : Hid (c = (l.filter toldG).length) := Lib.hid (by rw [HC.out, ek, List.take_length])
      clear ek HC
      go_wp2_with fail
      go_ret
      have hf := HF.out
      subst hf
      exact ⟨rfl, HBR.out⟩
end Go.Proofs.YtlnnmionbflolaaDoor
