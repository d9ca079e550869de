/- What impl.BoolValue tells: a row of what is said behind each text. -/
import Derived.Test.YtkhjffjdchkobaaDoorBools
namespace Go.Proofs.YtkhjffjdchkobaaDoor
open Go.RowKit
set_option linter.unusedVariables false
set_option linter.unusedSimpArgs false

/-- What is said behind a text. -/
def sB (s : ByteArray) : List Value := [.bool (pb s).isNone, .bool ((pb s).getD false), .string (tB ((pb s).getD false))]
def flatB (l : List ByteArray) : List Value := l.flatMap sB
theorem flatB_take (l : List ByteArray) (k : Nat) (h : k < l.length) : flatB (l.take (k + 1)) = flatB (l.take k) ++ sB l[k] := by
  rw [flatB, List.take_succ_eq_append_getElem h, List.flatMap_append]
  simp [flatB]

def bN : SayN := ⟨[(0, 24), (1, 25), (2, 26), (3, 27), (4, 28), (5, 29), (6, 30), (7, 31), (8, 32)], 9, 33, 10, 34, 11, 7, 0⟩
theorem bN_wf : bN.Wf := ⟨by decide, by decide⟩
def bD : List Nat := [24, 25, 26, 27, 28, 29, 30, 31, 32, 33, 34, 7]
theorem infoB : (Tryd.prog.info? 27).map (fun i => (i.zero, i.size, i.bytes)) = some (some (.agg #[.bool false, .bool false, .string ⟨#[]⟩]), 3, 24) := by kernel_rfl

theorem run_nilCheck {ρ : Operand → Value} {d : Option Tmp} {ty : TypeId} {pos : String} {af : Array Edge} {g : Option (Nat × Bool)} {x : Tmp} {w : World} {a : Addr} (h : ρ (.tmp x) = .pointer (some a)) :
    (execOp ρ ⟨d, .nilCheck (.tmp x), ty, pos, af, g⟩).run Tryd.prog w = .ok (.value (.pointer (some a))) w := by
  go_simp
theorem run_loadBool {ρ : Operand → Value} {d : Option Tmp} {ty : TypeId} {pos : String} {af : Array Edge} {g : Option (Nat × Bool)} {x : Tmp} {w : World} {B : Nat} {v : Bool} (h : ρ (.tmp x) = .pointer (some ⟨B, 0, none⟩)) (hc : w.cell? ⟨B, 0, none⟩ = some (.bool v)) :
    (execOp ρ ⟨d, .load 4 (.tmp x), ty, pos, af, g⟩).run Tryd.prog w = .ok (.value (.bool v)) w := by
  go_simp
theorem run_neqErr {ρ : Operand → Value} {d : Option Tmp} {ty : TypeId} {pos : String} {af : Array Edge} {g : Option (Nat × Bool)} {x : Tmp} {w : World} {t : TypeId} {p : Value} (h : ρ (.tmp x) = .iface t p) (hn : ρ (.const .nilIface) = .nilIface) :
    (execOp ρ ⟨d, .binOp .neq 35 (.tmp x) (.const .nilIface) 35, ty, pos, af, g⟩).run Tryd.prog w = .ok (.value (.bool true)) w := by
  go_simp
theorem run_neqNil {ρ : Operand → Value} {d : Option Tmp} {ty : TypeId} {pos : String} {af : Array Edge} {g : Option (Nat × Bool)} {x : Tmp} {w : World} (h : ρ (.tmp x) = .nilIface) (hn : ρ (.const .nilIface) = .nilIface) :
    (execOp ρ ⟨d, .binOp .neq 35 (.tmp x) (.const .nilIface) 35, ty, pos, af, g⟩).run Tryd.prog w = .ok (.value (.bool false)) w := by
  go_simp
theorem run_assign {P : Program} {ρ : Operand → Value} {d : Option Tmp} {ty : TypeId} {pos : String} {af : Array Edge} {g : Option (Nat × Bool)} {x : Operand} {w : World} {v : Value} (h : ρ x = v) :
    (execOp ρ ⟨d, .assign x, ty, pos, af, g⟩).run P w = .ok (.value v) w := by
  subst h; rfl
theorem run_buildB {ρ : Operand → Value} {d : Option Tmp} {ty : TypeId} {pos : String} {af : Array Edge} {g : Option (Nat × Bool)} {x y z : Tmp} {w : World} {b c : Bool} {s : ByteArray} (h : ρ (.tmp x) = .bool b) (h1 : ρ (.tmp y) = .bool c) (h2 : ρ (.tmp z) = .string s) :
    (execOp ρ ⟨d, .build 27 #[(0, .tmp x), (1, .tmp y), (2, .tmp z)], ty, pos, af, g⟩).run Tryd.prog w = .ok (.value (.agg #[.bool b, .bool c, .string s])) w := by
  go_simp
theorem run_buildSliceB {ρ : Operand → Value} {d : Option Tmp} {ty : TypeId} {pos : String} {af : Array Edge} {g : Option (Nat × Bool)} {x : Tmp} {w : World} {b c : Bool} {s : ByteArray} (h : ρ (.tmp x) = .agg #[.bool b, .bool c, .string s]) :
    (execOp ρ ⟨d, .buildSlice 24 1 #[(0, .tmp x)], ty, pos, af, g⟩).run Tryd.prog w = .ok (.value (.slice (some ⟨w.heap.size, 0, none⟩) 1 1)) (w.alloc (.cells [Value.bool b, .bool c, .string s].toArray 27)) := by
  go_simp

/-- The cell that a bool's value points to, and the row of what was said. -/
structure BIn (w0 : World) (P : Nat) (l : List ByteArray) (k : Nat) (vo : Value) (wr : World) : Prop where
  bel : Below P w0 wr
  cell : ∃ x, wr.heap[P]? = some (.cells #[.bool x] 4 (0, 0))
  row : wr.ownsRow (P + 1) 27 3 vo k (flatB (l.take k))

set_option maxRecDepth 100000 in
set_option maxHeartbeats 3200000 in
theorem boolValue_any (d : Bool) (v : Value) (l : List ByteArray) (w : World) (hv : Strs w v l) (hl : l.length ≤ 2147483647) (hs : ∀ s ∈ l, s.size ≤ 2147483647) (hE : ErrAt w) :
    Calls Tryd.prog 6 #[.bool d, v] w fun e w' => ∃ rv, e = .returned rv ∧ w'.ownsRow w.heap.size 27 3 rv l.length (flatB l) ∧ Below w.heap.size w w' := by
  obtain ⟨a, cap, rfl⟩ := hv.len
  have HV := Lib.hid (fun W (h : Below w.heap.size w W) => hv.later h.block)
  have HE := Lib.hid (fun W (h : Below w.heap.size w W) => hE.later h.block)
  have HS := Lib.hid hs
  obtain ⟨P, hP⟩ : ∃ P, P = w.heap.size := ⟨_, rfl⟩
  have HP := Lib.hid hP
  clear hv hE hs hP
  go_enter Tryd.func6, Tryd.ntmps6
  go_wp2
  have h0 : BIn w P l 0 (.slice none 0 0) (w.alloc (.cells #[.bool d] 4)) := by
    have hP := HP.out
    subst hP
    exact ⟨(Below.refl _ _).alloc (Nat.le_refl _) _, ⟨d, heap_at w (.cells #[.bool d] 4) _ rfl⟩, World.ownsRow_nil _ _ _ _⟩
  have H0 := Lib.hid h0
  have HPE := HP.out
  subst HPE
  clear h0
  go_loopw [7, 17] (fun vo vi wr => ∃ k : Nat, k ≤ l.length ∧ vi = .int .i64 k ∧ BIn w w.heap.size l k vo wr) (fun _ vi _ => l.length - (intOf vi).toNat)
  case atStart => exact ⟨0, Nat.zero_le _, rfl, H0.out⟩
  case round =>
    obtain ⟨k, hk, rfl, hr⟩ := hrel
    obtain ⟨ra, rc, rfl⟩ := row_form hr.row
    have HR := Lib.hid hr
    clear hr
    by_cases hlt : k < l.length
    case neg =>
      have ek : k = l.length := by omega
      have HFIN : Hid (wr.ownsRow w.heap.size 27 3 (.slice ra k rc) l.length (flatB l) ∧ Below w.heap.size w wr) := Lib.hid (by
        subst ek
        have := HR.out.row
        rw [List.take_length] at this
        exact ⟨row_lower this (Nat.le_succ _), HR.out.bel⟩)
      clear ek
      go_wp2_with fail
      go_ret
      exact ⟨_, rfl, HFIN.out⟩
    obtain ⟨tb, tof, rfl, hc⟩ := (HV.out wr HR.out.bel).cell (by omega)
    have hck := hc k hlt
    have hsz := HS.out l[k] (List.getElem_mem hlt)
    have HT := Lib.hid (flatB_take l k hlt)
    clear hc
    generalize l[k] = x at *
    obtain ⟨bad, hbad⟩ : ∃ bad, (pb x).isNone = bad := ⟨_, rfl⟩
    obtain ⟨b, hb⟩ : ∃ b, (pb x).getD false = b := ⟨_, rfl⟩
    obtain ⟨y, hy⟩ := HR.out.cell
    have C : Hid (Calls Tryd.prog 12 #[.pointer (some ⟨w.heap.size, 0, none⟩), .string x] wr (SetTo w.heap.size (.bool b) bad wr)) := Lib.hid (by
      cases h : pb x with
      | none =>
        rw [h] at hbad hb
        cases hbad; cases hb
        exact set_bad _ y _ x hsz h wr hy (HE.out wr HR.out.bel)
      | some c =>
        rw [h] at hbad hb
        cases hbad; cases hb
        exact set_ok _ y _ x _ h wr hy)
    have HN : Hid (flatB (l.take (k + 1)) = flatB (l.take k) ++ [.bool bad, .bool b, .string (tB b)]) := Lib.hid (by rw [HT.out, sB, hbad, hb])
    have HY := Lib.hid hy
    clear hbad hb HT hy
    go_wp2_with fail
    refine C.out.mono ?_
    rintro e w2 ⟨er, w3, rfl, her, hb3, rfl⟩
    have hP3 := (hb3.block _ (lt_of_block HY.out)).trans HY.out
    have hr3 : BIn w w.heap.size l k (.slice ra k rc) (w3.setCell ⟨w.heap.size, 0, none⟩ (.bool b)) := by
      refine ⟨(HR.out.bel.trans (hb3.mono HR.out.bel.size)).setCell (Nat.le_refl _) _, ⟨b, heap_set hP3 0 _⟩, ?_⟩
      exact ownsRow_setCell_below (row_grow HR.out.row hb3) (by simp) _
    have hP4 : (w3.setCell ⟨w.heap.size, 0, none⟩ (.bool b)).heap[w.heap.size]? = some (.cells #[.bool b] 4 (0, 0)) := heap_set hP3 0 _
    generalize w3.setCell ⟨w.heap.size, 0, none⟩ (.bool b) = w4 at *
    have HR4 := Lib.hid hr3
    have HP4 := Lib.hid hP4
    have HER := Lib.hid her
    clear hr3 hP4 her hb3 hP3 HR C HY hck
    go_upto_region 8 with fail
    all_goals
      have WF := bN_wf
      have hsz4 : w.heap.size + 1 ≤ w4.heap.size := lt_of_block HP4.out
      refine wp_region_og bD (SI w4 (w.heap.size + 1) 27 3 (.slice ra k rc) k (flatB (l.take k)) [.bool bad, .bool b, .string (tB b)] bN (fun i => [.slice ra k rc, er, .bool bad, .pointer (some ⟨w.heap.size, 0, none⟩), .pointer (some ⟨w.heap.size, 0, none⟩), .bool b, .pointer (some ⟨w.heap.size, 0, none⟩), .string (tB b), .agg #[.bool bad, .bool b, .string (tB b)]].getD i undef)) (by kernel_rfl) (by kernel_rfl) (SI.start hsz4 rfl HR4.out.row _ rfl) ?_ ?_
      · intro i o ho L f wz hl hp hI
        have hi : i < 12 := (Array.getElem?_eq_some_iff.1 ho).1
        have hcell : wz.cell? ⟨w.heap.size, 0, none⟩ = some (.bool b) := cell_of_one ((hI.bel.block _ (Nat.lt_succ_self _)).trans HP4.out)
        obtain rfl | rfl | rfl | rfl | rfl | rfl | rfl | rfl | rfl | rfl | rfl | rfl : i = 0 ∨ i = 1 ∨ i = 2 ∨ i = 3 ∨ i = 4 ∨ i = 5 ∨ i = 6 ∨ i = 7 ∨ i = 8 ∨ i = 9 ∨ i = 10 ∨ i = 11 := by omega
        all_goals obtain rfl := Option.some.inj ho
        · have hLC : L 11 = false := by
            cases hc : L 11 with
            | false => rfl
            | true => exact absurd ((hI.oz (hI.r2 hc).1).symm.trans hl) (by decide)
          exact og_op rfl rfl (og_value (run_move ((over_eval _ _ _ (by decide) (by show 7 < 37; omega)).trans (hI.c0 hLC))) ⟨_, over_put _ _ _ (by decide) _, hI.pure WF (i := 0) (by decide) (Below.refl _ _) rfl⟩)
        · exact og_op rfl rfl (og_value (run_move ((over_eval_out _ _ _ (by decide)).trans rfl)) ⟨_, over_put _ _ _ (by decide) _, hI.pure WF (i := 1) (by decide) (Below.refl _ _) rfl⟩)
        · have e1 := hI.v 1 25 (by decide) (hp ⟨1, .data⟩ (by simp) rfl)
          cases bad with
          | true =>
            obtain ⟨t, q, rfl⟩ := HER.out
            exact og_op rfl rfl (og_value (run_neqErr ((over_eval _ _ _ (by decide) (by show 25 < 37; omega)).trans e1) rfl) ⟨_, over_put _ _ _ (by decide) _, hI.pure WF (i := 2) (by decide) (Below.refl _ _) rfl⟩)
          | false =>
            have h := HER.out
            simp only [Bool.false_eq_true, if_false] at h
            subst h
            exact og_op rfl rfl (og_value (run_neqNil ((over_eval _ _ _ (by decide) (by show 25 < 37; omega)).trans e1) rfl) ⟨_, over_put _ _ _ (by decide) _, hI.pure WF (i := 2) (by decide) (Below.refl _ _) rfl⟩)
        · exact og_op rfl rfl (og_value (run_move ((over_eval_out _ _ _ (by decide)).trans rfl)) ⟨_, over_put _ _ _ (by decide) _, hI.pure WF (i := 3) (by decide) (Below.refl _ _) rfl⟩)
        · have e1 := hI.v 3 27 (by decide) (hp ⟨3, .data⟩ (by simp) rfl)
          exact og_op rfl rfl (og_value (run_nilCheck ((over_eval _ _ _ (by decide) (by show 27 < 37; omega)).trans e1)) ⟨_, over_put _ _ _ (by decide) _, hI.pure WF (i := 4) (by decide) (Below.refl _ _) rfl⟩)
        · have e1 := hI.v 4 28 (by decide) (hp ⟨4, .data⟩ (by simp) rfl)
          exact og_op rfl rfl (og_value (run_loadBool ((over_eval _ _ _ (by decide) (by show 28 < 37; omega)).trans e1) hcell) ⟨_, over_put _ _ _ (by decide) _, hI.pure WF (i := 5) (by decide) (Below.refl _ _) rfl⟩)
        · exact og_op rfl rfl (og_value (run_move ((over_eval_out _ _ _ (by decide)).trans rfl)) ⟨_, over_put _ _ _ (by decide) _, hI.pure WF (i := 6) (by decide) (Below.refl _ _) rfl⟩)
        · have e1 := hI.v 6 30 (by decide) (hp ⟨6, .data⟩ (by simp) rfl)
          refine og_op rfl rfl (og_call (run_call1 ((over_eval _ _ _ (by decide) (by show 30 < 37; omega)).trans e1) rfl (fun args => by simp [go_sem])) ?_)
          refine (text_any _ b wz hcell).mono ?_
          rintro e w' ⟨rfl, rfl⟩
          exact ⟨_, rfl, ⟨_, over_put _ _ _ (by decide) _, hI.pure WF (i := 7) (by decide) (Below.refl _ _) rfl⟩⟩
        · have e1 := hI.v 2 26 (by decide) (hp ⟨2, .data⟩ (by simp) rfl)
          have e2 := hI.v 5 29 (by decide) (hp ⟨5, .data⟩ (by simp) rfl)
          have e3 := hI.v 7 31 (by decide) (hp ⟨7, .data⟩ (by simp) rfl)
          exact og_op rfl rfl (og_value (run_buildB ((over_eval _ _ _ (by decide) (by show 26 < 37; omega)).trans e1) ((over_eval _ _ _ (by decide) (by show 29 < 37; omega)).trans e2) ((over_eval _ _ _ (by decide) (by show 31 < 37; omega)).trans e3)) ⟨_, over_put _ _ _ (by decide) _, hI.pure WF (i := 8) (by decide) (Below.refl _ _) rfl⟩)
        · have e1 := hI.v 8 32 (by decide) (hp ⟨8, .data⟩ (by simp) rfl)
          exact og_op rfl rfl (og_value (run_buildSliceB ((over_eval _ _ _ (by decide) (by show 32 < 37; omega)).trans e1)) ⟨_, over_put _ _ _ (by decide) _, hI.built WF hl⟩)
        · have e1 := hI.v 0 24 (by decide) (hp ⟨0, .data⟩ (by simp) rfl)
          have hB := hp ⟨9, .data⟩ (by simp) rfl
          have hZ := hp ⟨0, .data⟩ (by simp) rfl
          exact og_op rfl rfl (hI.append WF hl hB hZ (.tmp 24) (.tmp 33) rfl rfl (by decide) Tryd.underlying24 infoB rfl (by omega) ((over_eval _ _ _ (by decide) (by show 24 < 37; omega)).trans e1) (over_eval _ _ _ (by decide) (by show 33 < 37; omega)) rfl (by simp [Value.oneCell']) (by unfold maxLen; omega) (by omega))
        · have hA := hp ⟨10, .data⟩ (by simp) rfl
          exact og_op rfl rfl (og_value (run_assign (over_eval _ _ _ (by decide) (by show 34 < 37; omega))) ⟨_, over_put _ _ _ (by decide) _, hI.assigned WF hA⟩)
      · intro L f wz hl hI
        have hC := hI.r2 (hl 11 (by show 11 < 12; omega))
        have hrow := hI.r1 hC.1
        have HB : Hid (BIn w w.heap.size l (k + 1) (f 7) wz) := Lib.hid (by
          refine ⟨HR4.out.bel.trans (hI.bel.mono (Nat.le_succ _)), ⟨b, (hI.bel.block _ (Nat.lt_succ_self _)).trans HP4.out⟩, ?_⟩
          rw [HN.out, show f 7 = f 34 from hC.2]
          exact hrow)
        clear hI hl hC hrow
        simp only [over, ovl, bD, List.contains, List.elem, Nat.reduceBEq, Bool.false_eq_true, if_false, if_true, Nat.reduceAdd]
        generalize f 7 = v7 at *
        go_wp2_with fail
        go_roundw
        case rel => first | exact ⟨k + 1, by omega, by go_num, HB.out⟩ | ((repeat apply Exists.intro); exact ⟨⟨k + 1, by omega, by go_num, HB.out⟩, rfl⟩)
        case measure => simp [intOf]; omega
end Go.Proofs.YtkhjffjdchkobaaDoor
