/- What laws.nameDefs makes of definitions. (Printed by gen_ndefs.py.) -/
import Derived.Test.YtmmkebdaijmpiaaGreatNBase
namespace Go.Proofs.YtmmkebdaijmpiaaGreat
open Go.RowKit
set_option linter.unusedVariables false
set_option linter.unusedSimpArgs false

def flatD (l : List DefD) : List Value := l.flatMap DefD.cells
theorem flatD_take (l : List DefD) (k : Nat) (h : k < l.length) : flatD (l.take (k + 1)) = flatD (l.take k) ++ l[k].cells := by
  rw [flatD, List.take_succ_eq_append_getElem h, List.flatMap_append]
  simp [flatD]
theorem flatD_get : ∀ (l : List DefD) (i : Nat) (h : i < l.length) (j : Nat), j < 6 → (flatD l)[i * 6 + j]? = l[i].cells[j]?
  | x :: l, 0, h, j, hj => by
    rw [flatD, List.flatMap_cons, List.getElem?_append_left (by simpa [DefD.cells] using hj)]
    simp
  | x :: l, i + 1, h, j, hj => by
    have := flatD_get l i (by simpa using h) j hj
    rw [flatD, List.flatMap_cons, show (i + 1) * 6 + j = x.cells.length + (i * 6 + j) by simp only [DefD.cells, List.length_cons, List.length_nil]; omega, List.getElem?_append_right (by omega), Nat.add_sub_cancel_left]
    exact this
theorem flatD_length (l : List DefD) : (flatD l).length = l.length * 6 := by
  induction l with
  | nil => rfl
  | cons x l ih =>
    rw [flatD, List.flatMap_cons, List.length_append]
    rw [flatD] at ih
    rw [ih]
    simp only [DefD.cells, List.length_cons, List.length_nil]
    omega
theorem defs_of {w : World} {base : Nat} {v : Value} {l : List DefD} (h : w.ownsRow base 50 6 v l.length (flatD l)) : Defs w v l := by
  obtain ⟨a, c, rfl⟩ := row_form h
  rcases h.2 with ⟨e, hn⟩ | ⟨b, cap, cur, e, hb, hh, hnc, hcm, hcs, ht⟩
  · have e0 : l.length = 0 := hn
    refine ⟨a, c, rfl, by omega, fun i hi => by omega⟩
  · cases e
    refine ⟨_, _, rfl, hnc, fun i hi => ⟨b, 0, rfl, ?_⟩⟩
    have k : ∀ j v, j < 6 → l[i].cells[j]? = some v → w.cell? ⟨b, 0 + i * 6 + j, none⟩ = some v := fun j v hj hv => by
      have q := flatD_get l i hi j hj
      rw [hv] at q
      rw [← ht, List.getElem?_take, if_pos (by omega), Array.getElem?_toList] at q
      simp [World.cell?, hh, q]
    exact ⟨k 0 _ (by omega) rfl, k 1 _ (by omega) rfl, k 2 _ (by omega) rfl, k 3 _ (by omega) rfl, k 4 _ (by omega) rfl, k 5 _ (by omega) rfl⟩
theorem infoD : (Tryz.prog.info? 50).map (fun i => (i.zero, i.size, i.bytes)) = some (some (.agg #[.string ⟨#[]⟩, .string ⟨#[]⟩, .int .i64 0, .bool false, .int .i64 0, .string ⟨#[]⟩]), 6, 72) := by kernel_rfl

def dN : SayN := ⟨[(0, 16), (1, 17), (2, 18), (3, 19), (4, 20), (5, 21), (6, 22), (7, 23), (8, 24), (9, 25), (10, 26), (11, 27), (12, 28), (13, 29), (14, 30), (15, 31), (16, 32), (17, 33)], 18, 34, 19, 35, 20, 3, 0⟩
theorem dN_wf : dN.Wf := ⟨by decide, by decide⟩
def dD : List Nat := [16, 17, 18, 19, 20, 21, 22, 23, 24, 25, 26, 27, 28, 29, 30, 31, 32, 33, 34, 35, 3]
theorem run_fieldD {ρ : Operand → Value} {d : Option Tmp} {ty : TypeId} {pos : String} {af : Array Edge} {g : Option (Nat × Bool)} {x : Tmp} {j : Nat} {w : World} {B : Nat} (hj : j = 0 ∨ j = 1 ∨ j = 2 ∨ j = 3 ∨ j = 5) (h : ρ (.tmp x) = .pointer (some ⟨B, 0, none⟩)) :
    (execOp ρ ⟨d, .fieldAddr 50 (.tmp x) j, ty, pos, af, g⟩).run Tryz.prog w = .ok (.value (.pointer (some ⟨B, j, none⟩))) w := by
  rcases hj with rfl | rfl | rfl | rfl | rfl <;> go_simp
theorem run_loadS {ρ : Operand → Value} {d : Option Tmp} {ty : TypeId} {pos : String} {af : Array Edge} {g : Option (Nat × Bool)} {x : Tmp} {w : World} {B j : Nat} {s : ByteArray} (h : ρ (.tmp x) = .pointer (some ⟨B, j, none⟩)) (hc : w.cell? ⟨B, j, none⟩ = some (.string s)) :
    (execOp ρ ⟨d, .load 9 (.tmp x), ty, pos, af, g⟩).run Tryz.prog w = .ok (.value (.string s)) w := by
  go_simp
theorem run_loadI {ρ : Operand → Value} {d : Option Tmp} {ty : TypeId} {pos : String} {af : Array Edge} {g : Option (Nat × Bool)} {x : Tmp} {w : World} {B j : Nat} {n : Int} (h : ρ (.tmp x) = .pointer (some ⟨B, j, none⟩)) (hc : w.cell? ⟨B, j, none⟩ = some (.int .i64 n)) :
    (execOp ρ ⟨d, .load 3 (.tmp x), ty, pos, af, g⟩).run Tryz.prog w = .ok (.value (.int .i64 n)) w := by
  go_simp
theorem run_loadBool {ρ : Operand → Value} {d : Option Tmp} {ty : TypeId} {pos : String} {af : Array Edge} {g : Option (Nat × Bool)} {x : Tmp} {w : World} {B j : Nat} {v : Bool} (h : ρ (.tmp x) = .pointer (some ⟨B, j, none⟩)) (hc : w.cell? ⟨B, j, none⟩ = some (.bool v)) :
    (execOp ρ ⟨d, .load 4 (.tmp x), ty, pos, af, g⟩).run Tryz.prog w = .ok (.value (.bool v)) w := by
  go_simp
theorem w64 (n : Int) : IntKind.u64.wrap n = n % 18446744073709551616 := by simp [IntKind.wrap, IntKind.bits, IntKind.signed]
theorem run_toU {ρ : Operand → Value} {d : Option Tmp} {ty : TypeId} {pos : String} {af : Array Edge} {g : Option (Nat × Bool)} {x : Tmp} {w : World} {n : Int} (h : ρ (.tmp x) = .int .i64 n) :
    (execOp ρ ⟨d, .convert 3 56 (.tmp x), ty, pos, af, g⟩).run Tryz.prog w = .ok (.value (.int .u64 (n % 18446744073709551616))) w := by
  have := w64 n
  go_simp
theorem run_rem2 {ρ : Operand → Value} {d : Option Tmp} {ty : TypeId} {pos : String} {af : Array Edge} {g : Option (Nat × Bool)} {x : Tmp} {w : World} {n : Int} (h : ρ (.tmp x) = .int .u64 (n % 18446744073709551616)) (hn : ρ (.const (.int .u64 2)) = .int .u64 2) :
    (execOp ρ ⟨d, .binOp .rem 56 (.tmp x) (.const (.int .u64 2)) 56, ty, pos, af, g⟩).run Tryz.prog w = .ok (.value (.int .u64 (kindN n))) w := by
  have e := Int.tmod_eq_emod_of_nonneg (a := n % 18446744073709551616) (b := 2) (by omega)
  unfold kindN
  go_simp
theorem run_toI {ρ : Operand → Value} {d : Option Tmp} {ty : TypeId} {pos : String} {af : Array Edge} {g : Option (Nat × Bool)} {x : Tmp} {w : World} {n : Int} (hn : n = 0 ∨ n = 1) (h : ρ (.tmp x) = .int .u64 n) :
    (execOp ρ ⟨d, .convert 56 3 (.tmp x), ty, pos, af, g⟩).run Tryz.prog w = .ok (.value (.int .i64 n)) w := by
  have w0 : IntKind.i64.wrap 0 = 0 := by decide
  have w1 : IntKind.i64.wrap 1 = 1 := by decide
  rcases hn with rfl | rfl <;> go_simp
theorem run_assign {P : Program} {ρ : Operand → Value} {d : Option Tmp} {ty : TypeId} {pos : String} {af : Array Edge} {g : Option (Nat × Bool)} {x : Operand} {w : World} {v : Value} (h : ρ x = v) :
    (execOp ρ ⟨d, .assign x, ty, pos, af, g⟩).run P w = .ok (.value v) w := by
  subst h; rfl
theorem run_buildD {ρ : Operand → Value} {d : Option Tmp} {ty : TypeId} {pos : String} {af : Array Edge} {g : Option (Nat × Bool)} {x y z u v : Tmp} {w : World} {a b c : ByteArray} {n : Int} {o : Bool} (h : ρ (.tmp x) = .string a) (h1 : ρ (.tmp y) = .string b) (h2 : ρ (.tmp z) = .int .i64 n) (h3 : ρ (.tmp u) = .bool o) (h4 : ρ (.tmp v) = .string c) :
    (execOp ρ ⟨d, .build 50 #[(0, .tmp x), (1, .tmp y), (2, .tmp z), (3, .tmp u), (5, .tmp v)], ty, pos, af, g⟩).run Tryz.prog w = .ok (.value (.agg #[.string a, .string b, .int .i64 n, .bool o, .int .i64 0, .string c])) w := by
  go_simp
theorem run_buildSliceD {ρ : Operand → Value} {d : Option Tmp} {ty : TypeId} {pos : String} {af : Array Edge} {g : Option (Nat × Bool)} {x : Tmp} {w : World} {a b c : ByteArray} {n : Int} {o : Bool} (h : ρ (.tmp x) = .agg #[.string a, .string b, .int .i64 n, .bool o, .int .i64 0, .string c]) :
    (execOp ρ ⟨d, .buildSlice 22 1 #[(0, .tmp x)], ty, pos, af, g⟩).run Tryz.prog w = .ok (.value (.slice (some ⟨w.heap.size, 0, none⟩) 1 1)) (w.alloc (.cells [Value.string a, .string b, .int .i64 n, .bool o, .int .i64 0, .string c].toArray 50)) := by
  go_simp

/-- The append of one struct, beside a block that stays. -/
theorem SI.appendB {w0 : World} {base : Nat} {T S : TypeId} {sz bytes : Nat} {row : Value} {n : Nat} {xs cs : List Value} {N : SayN} {V : Nat → Value} {L : Nat → Bool} {f : Nat → Value} {w : World} {P : Program} {Q : Exit → Act → World → Prop} {a0 : Act} {D : List Nat} {o : Oper} {z : Value} {B : Nat} {ob : Obj}
    (h : SI w0 base T sz row n xs cs N V L f w) (hcB : w.heap[B]? = some ob) (hne : row.ownBlock ≠ some B) (wf : N.Wf) (hl : L N.A = false) (hB : L N.B = true) (hZ : L N.Z = true)
    (s x : Operand) (ho : o.op = .call { callee := .builtin .append, args := #[s, x], argTypes := #[S, S] }) (hd : o.dst = some N.a) (hD : D.contains N.a = true)
    (hS : P.underlying S = some (.slice T)) (hi : (P.info? T).map (fun i => (i.zero, i.size, i.bytes)) = some (some z, sz, bytes)) (hzs : z.cells.size = sz) (hsz : 0 < sz) (hs : (over D f a0).eval s = row) (hx : (over D f a0).eval x = f N.b)
    (hcs : cs.length = sz) (hc1 : ∀ c ∈ cs, c.oneCell' = true) (h63 : n + 1 ≤ maxLen) (hn : (n + 1) * bytes ≤ 140737488355328) :
    o.wp P (over D f a0) w (fun a' w' => ∃ f', a' = over D f' a0 ∧ SI w0 base T sz row n xs cs N V (fun k => k == N.A || L k) f' w' ∧ w'.heap[B]? = some ob) Q := by
  obtain ⟨q, e, hq, hne'⟩ := h.bu hB hl
  obtain ⟨i, hi1, hz0, hz1, hz2⟩ := info_parts hi
  refine wp_append_lies w s x S ho base T i z sz bytes hS hi1 hz0 hz1 hz2 hzs hsz row n xs hs (h.r0 hl) ⟨q, 0, none⟩ 1 1 cs (hx.trans e) (by simp [hcs]) (news_lies hq (by simp)) hc1 (by omega) h63 hn h.size w.heap.size rfl ?_
  intro g cap w' hown hgrow hat hlt
  refine ⟨_, by rw [hd, over_put _ _ _ hD], h.appended wf hl hB hZ hown hgrow, (hgrow.block B ?_ hne.symm).trans hcB⟩
  rcases Nat.lt_or_ge B w.heap.size with h' | h'
  · exact h'
  · rw [Array.getElem?_eq_none h'] at hcB; cases hcB

set_option maxRecDepth 100000 in
set_option maxHeartbeats 3200000 in
theorem nameDefs_any (v : Value) (l0 : List DefD) (w : World) (hv : Defs w v l0) (hl0 : l0.length ≤ 2147483647) (hs : ∀ x ∈ l0, SizeD x) :
    Calls Tryz.prog 7 #[v] w fun e w' => ∃ rv, e = .returned rv ∧ Defs w' rv (defsN l0) ∧ Below w.heap.size w w' := by
  obtain ⟨a, cap, rfl, hcap⟩ := hv.len
  obtain ⟨m, hm⟩ : ∃ m, m = min l0.length 16 := ⟨_, rfl⟩
  have hmin : ((min (l0.length : Int) 16 : Int)) = (m : Int) := by omega
  have hvt := hv.take m (by omega)
  obtain ⟨l, hle⟩ : ∃ l, l = l0.take m := ⟨_, rfl⟩
  have hlen : l.length = m := by rw [hle, List.length_take]; omega
  have HM : Hid ((l.map cutD) = defsN l0) := Lib.hid (by rw [defsN, hle, hm]; congr 1; rw [List.take_eq_take_iff]; omega)
  rw [← hle] at hvt
  have hs' : ∀ x ∈ l, SizeD x := fun x hx => hs x (by rw [hle] at hx; exact List.mem_of_mem_take hx)
  have HV := Lib.hid (fun W (h : Below w.heap.size w W) => hvt.later h)
  have HS := Lib.hid hs'
  clear hv hs hle hvt hs'
  go_enter Tryz.func7, Tryz.ntmps7
  go_upto_region 2 with fail
  go_cut [10, 11, 12] from 6 to 12 (fun v10 v11 v12 wx => v10 = .slice a m cap ∧ v11 = .int .i64 m ∧ v12 = .int .i64 0 ∧ wx = w)
  case first =>
    go_wp2_with fail
    · go_meet
      obtain rfl : m = 16 := by omega
      exact ⟨rfl, rfl, rfl, rfl⟩
    · go_meet
      obtain rfl : m = l0.length := by omega
      exact ⟨rfl, rfl, rfl, rfl⟩
  case rest =>
  obtain ⟨rfl, rfl, rfl, rfl⟩ := hcut
  clear hmin hcap
  go_wp2_with fail
  go_loopw [3, 12] (fun vo vi wr => ∃ k : Nat, k ≤ m ∧ vi = .int .i64 k ∧ Below wc.heap.size wc wr ∧ wr.ownsRow wc.heap.size 50 6 vo k (flatD ((l.map cutD).take k))) (fun _ vi _ => m - (intOf vi).toNat)
  case atStart => exact ⟨0, Nat.zero_le _, rfl, Below.refl _ _, World.ownsRow_nil _ _ _ _⟩
  case round =>
    obtain ⟨k, hk, rfl, hbel, hrow⟩ := hrel
    obtain ⟨ra, rc, rfl⟩ := row_form hrow
    have HR := Lib.hid hrow
    have HB := Lib.hid hbel
    clear hrow hbel
    by_cases hlt : k < m
    case neg =>
      have HF : Hid (Defs wr (.slice ra k rc) (defsN l0) ∧ Below wc.heap.size wc wr) := Lib.hid (by
        refine ⟨?_, HB.out⟩
        obtain rfl : k = m := by omega
        have := HR.out
        rw [List.take_of_length_le (by rw [List.length_map]; omega), ← hlen] at this
        rw [← HM.out, ← hlen]
        exact defs_of (by rw [List.length_map]; exact this))
      go_wp2_with fail
      go_ret
      exact ⟨_, rfl, HF.out⟩
    have hkl : k < l.length := by omega
    obtain ⟨b, of, rfl, hd⟩ := (HV.out wr HB.out).at k hkl
    have HT := Lib.hid (show flatD ((l.map cutD).take (k + 1)) = flatD ((l.map cutD).take k) ++ (cutD l[k]).cells by rw [flatD_take _ k (by rw [List.length_map]; exact hkl), List.getElem_map])
    have HZ : Hid (l[k].nm.size ≤ 2147483647 ∧ l[k].sh.size ≤ 2147483647 ∧ l[k].tx.size ≤ 2147483647) := Lib.hid (HS.out _ (List.getElem_mem hkl))
    generalize l[k] = x at *
    obtain ⟨nm, sh, kd, on, n, tx⟩ := x
    simp only at HZ
    obtain ⟨d0, d1, d2, d3, d4, d5⟩ := hd
    simp only at d0 d1 d2 d3 d4 d5
    have blt := lt_of_cell d0
    go_upto_region 5 with fail
    all_goals
      clear d0 d1 d2 d3 d4 d5 blt
      have HC5 : Hid ((wr.alloc (.cells #[.string nm, .string sh, .int .i64 kd, .bool on, .int .i64 n, .string tx] 50)).heap[wr.heap.size]? = some (.cells #[.string nm, .string sh, .int .i64 kd, .bool on, .int .i64 n, .string tx] 50 (0, 0))) := Lib.hid (heap_at _ _ _ rfl)
      have HR5 : Hid ((wr.alloc (.cells #[.string nm, .string sh, .int .i64 kd, .bool on, .int .i64 n, .string tx] 50)).ownsRow wc.heap.size 50 6 (.slice ra k rc) k (flatD ((l.map cutD).take k))) := Lib.hid (row_grow HR.out ((Below.refl _ _).alloc (Nat.le_refl _) _))
      have HB5 : Hid (Below wc.heap.size wc (wr.alloc (.cells #[.string nm, .string sh, .int .i64 kd, .bool on, .int .i64 n, .string tx] 50))) := Lib.hid (HB.out.trans ((Below.refl _ _).alloc HB.out.size _))
      obtain ⟨B, hBB⟩ : ∃ B, B = wr.heap.size := ⟨_, rfl⟩
      have HNE : Hid ((Value.slice ra k rc).ownBlock ≠ some B) := Lib.hid (by
        intro e
        obtain ⟨_, c, hc⟩ := ownsRow_cells HR.out e
        have := lt_of_block hc
        omega)
      simp only [← hBB] at *
      clear hBB
      generalize wr.alloc (.cells #[.string nm, .string sh, .int .i64 kd, .bool on, .int .i64 n, .string tx] 50) = w5 at *
      have WF := dN_wf
      refine wp_region_og dD (fun L f w => SI w5 wc.heap.size 50 6 (.slice ra k rc) k (flatD ((l.map cutD).take k)) [.string (cutN nm), .string (cutN sh), .int .i64 (kindN kd), .bool on, .int .i64 0, .string (cutN tx)] dN (fun i => [.slice ra k rc, .pointer (some ⟨B, 0, none⟩), .string nm, .string (cutN nm), .pointer (some ⟨B, 1, none⟩), .string sh, .string (cutN sh), .pointer (some ⟨B, 2, none⟩), .int .i64 kd, .int .u64 (kd % 18446744073709551616), .int .u64 (kindN kd), .int .i64 (kindN kd), .pointer (some ⟨B, 3, none⟩), .bool on, .pointer (some ⟨B, 5, none⟩), .string tx, .string (cutN tx), .agg #[.string (cutN nm), .string (cutN sh), .int .i64 (kindN kd), .bool on, .int .i64 0, .string (cutN tx)]].getD i undef) L f w ∧ w.heap[B]? = some (.cells #[.string nm, .string sh, .int .i64 kd, .bool on, .int .i64 n, .string tx] 50 (0, 0))) (by kernel_rfl) (by kernel_rfl) ⟨SI.start HB5.out.size rfl HR5.out _ rfl, HC5.out⟩ ?_ ?_
      · intro i o ho L f wz hl hp hII
        obtain ⟨hI, hcB⟩ := hII
        have hc0 := cell_of hcB 0 (.string nm) rfl
        have hc1 := cell_of hcB 1 (.string sh) rfl
        have hc2 := cell_of hcB 2 (.int .i64 kd) rfl
        have hc3 := cell_of hcB 3 (.bool on) rfl
        have hc5 := cell_of hcB 5 (.string tx) rfl
        have hi : i < 21 := (Array.getElem?_eq_some_iff.1 ho).1
        obtain rfl | rfl | rfl | rfl | rfl | rfl | rfl | rfl | rfl | rfl | rfl | rfl | rfl | rfl | rfl | rfl | rfl | rfl | rfl | rfl | rfl : i = 0 ∨ i = 1 ∨ i = 2 ∨ i = 3 ∨ i = 4 ∨ i = 5 ∨ i = 6 ∨ i = 7 ∨ i = 8 ∨ i = 9 ∨ i = 10 ∨ i = 11 ∨ i = 12 ∨ i = 13 ∨ i = 14 ∨ i = 15 ∨ i = 16 ∨ i = 17 ∨ i = 18 ∨ i = 19 ∨ i = 20 := by omega
        all_goals obtain rfl := Option.some.inj ho
        · have hLC : L 20 = false := by
            cases hc : L 20 with
            | false => rfl
            | true => exact absurd ((hI.oz (hI.r2 hc).1).symm.trans hl) (by decide)
          exact og_op rfl rfl (og_value (run_move ((over_eval _ _ _ (by decide) (by show 3 < 38; omega)).trans (hI.c0 hLC))) ⟨_, over_put _ _ _ (by decide) _, hI.pure WF (i := 0) (by decide) (Below.refl _ _) rfl, hcB⟩)
        · exact og_op rfl rfl (og_value (run_fieldD (j := 0) (by simp) ((over_eval_out _ _ _ (by decide)).trans rfl)) ⟨_, over_put _ _ _ (by decide) _, hI.pure WF (i := 1) (by decide) (Below.refl _ _) rfl, hcB⟩)
        · have e17 := hI.v 1 17 (by decide) (hp ⟨1, .data⟩ (by simp) rfl)
          exact og_op rfl rfl (og_value (run_loadS ((over_eval _ _ _ (by decide) (by show 17 < 38; omega)).trans e17) hc0) ⟨_, over_put _ _ _ (by decide) _, hI.pure WF (i := 2) (by decide) (Below.refl _ _) rfl, hcB⟩)
        · have e18 := hI.v 2 18 (by decide) (hp ⟨2, .data⟩ (by simp) rfl)
          refine og_op rfl rfl (og_call (run_call1 ((over_eval _ _ _ (by decide) (by show 18 < 38; omega)).trans e18) rfl (fun args => by simp [go_sem])) ?_)
          refine (nameCut_any _ wz (by first | exact HZ.out.1 | exact HZ.out.2.1 | exact HZ.out.2.2)).mono ?_
          rintro e w' ⟨rfl, rfl⟩
          exact ⟨_, rfl, ⟨_, over_put _ _ _ (by decide) _, hI.pure WF (i := 3) (by decide) (Below.refl _ _) rfl, hcB⟩⟩
        · exact og_op rfl rfl (og_value (run_fieldD (j := 1) (by simp) ((over_eval_out _ _ _ (by decide)).trans rfl)) ⟨_, over_put _ _ _ (by decide) _, hI.pure WF (i := 4) (by decide) (Below.refl _ _) rfl, hcB⟩)
        · have e20 := hI.v 4 20 (by decide) (hp ⟨4, .data⟩ (by simp) rfl)
          exact og_op rfl rfl (og_value (run_loadS ((over_eval _ _ _ (by decide) (by show 20 < 38; omega)).trans e20) hc1) ⟨_, over_put _ _ _ (by decide) _, hI.pure WF (i := 5) (by decide) (Below.refl _ _) rfl, hcB⟩)
        · have e21 := hI.v 5 21 (by decide) (hp ⟨5, .data⟩ (by simp) rfl)
          refine og_op rfl rfl (og_call (run_call1 ((over_eval _ _ _ (by decide) (by show 21 < 38; omega)).trans e21) rfl (fun args => by simp [go_sem])) ?_)
          refine (nameCut_any _ wz (by first | exact HZ.out.1 | exact HZ.out.2.1 | exact HZ.out.2.2)).mono ?_
          rintro e w' ⟨rfl, rfl⟩
          exact ⟨_, rfl, ⟨_, over_put _ _ _ (by decide) _, hI.pure WF (i := 6) (by decide) (Below.refl _ _) rfl, hcB⟩⟩
        · exact og_op rfl rfl (og_value (run_fieldD (j := 2) (by simp) ((over_eval_out _ _ _ (by decide)).trans rfl)) ⟨_, over_put _ _ _ (by decide) _, hI.pure WF (i := 7) (by decide) (Below.refl _ _) rfl, hcB⟩)
        · have e23 := hI.v 7 23 (by decide) (hp ⟨7, .data⟩ (by simp) rfl)
          exact og_op rfl rfl (og_value (run_loadI ((over_eval _ _ _ (by decide) (by show 23 < 38; omega)).trans e23) hc2) ⟨_, over_put _ _ _ (by decide) _, hI.pure WF (i := 8) (by decide) (Below.refl _ _) rfl, hcB⟩)
        · have e24 := hI.v 8 24 (by decide) (hp ⟨8, .data⟩ (by simp) rfl)
          exact og_op rfl rfl (og_value (run_toU ((over_eval _ _ _ (by decide) (by show 24 < 38; omega)).trans e24)) ⟨_, over_put _ _ _ (by decide) _, hI.pure WF (i := 9) (by decide) (Below.refl _ _) rfl, hcB⟩)
        · have e25 := hI.v 9 25 (by decide) (hp ⟨9, .data⟩ (by simp) rfl)
          exact og_op rfl rfl (og_value (run_rem2 ((over_eval _ _ _ (by decide) (by show 25 < 38; omega)).trans e25) rfl) ⟨_, over_put _ _ _ (by decide) _, hI.pure WF (i := 10) (by decide) (Below.refl _ _) rfl, hcB⟩)
        · have e26 := hI.v 10 26 (by decide) (hp ⟨10, .data⟩ (by simp) rfl)
          exact og_op rfl rfl (og_value (run_toI (kindN_or _) ((over_eval _ _ _ (by decide) (by show 26 < 38; omega)).trans e26)) ⟨_, over_put _ _ _ (by decide) _, hI.pure WF (i := 11) (by decide) (Below.refl _ _) rfl, hcB⟩)
        · exact og_op rfl rfl (og_value (run_fieldD (j := 3) (by simp) ((over_eval_out _ _ _ (by decide)).trans rfl)) ⟨_, over_put _ _ _ (by decide) _, hI.pure WF (i := 12) (by decide) (Below.refl _ _) rfl, hcB⟩)
        · have e28 := hI.v 12 28 (by decide) (hp ⟨12, .data⟩ (by simp) rfl)
          exact og_op rfl rfl (og_value (run_loadBool ((over_eval _ _ _ (by decide) (by show 28 < 38; omega)).trans e28) hc3) ⟨_, over_put _ _ _ (by decide) _, hI.pure WF (i := 13) (by decide) (Below.refl _ _) rfl, hcB⟩)
        · exact og_op rfl rfl (og_value (run_fieldD (j := 5) (by simp) ((over_eval_out _ _ _ (by decide)).trans rfl)) ⟨_, over_put _ _ _ (by decide) _, hI.pure WF (i := 14) (by decide) (Below.refl _ _) rfl, hcB⟩)
        · have e30 := hI.v 14 30 (by decide) (hp ⟨14, .data⟩ (by simp) rfl)
          exact og_op rfl rfl (og_value (run_loadS ((over_eval _ _ _ (by decide) (by show 30 < 38; omega)).trans e30) hc5) ⟨_, over_put _ _ _ (by decide) _, hI.pure WF (i := 15) (by decide) (Below.refl _ _) rfl, hcB⟩)
        · have e31 := hI.v 15 31 (by decide) (hp ⟨15, .data⟩ (by simp) rfl)
          refine og_op rfl rfl (og_call (run_call1 ((over_eval _ _ _ (by decide) (by show 31 < 38; omega)).trans e31) rfl (fun args => by simp [go_sem])) ?_)
          refine (nameCut_any _ wz (by first | exact HZ.out.1 | exact HZ.out.2.1 | exact HZ.out.2.2)).mono ?_
          rintro e w' ⟨rfl, rfl⟩
          exact ⟨_, rfl, ⟨_, over_put _ _ _ (by decide) _, hI.pure WF (i := 16) (by decide) (Below.refl _ _) rfl, hcB⟩⟩
        · have e19 := hI.v 3 19 (by decide) (hp ⟨3, .data⟩ (by simp) rfl)
          have e22 := hI.v 6 22 (by decide) (hp ⟨6, .data⟩ (by simp) rfl)
          have e27 := hI.v 11 27 (by decide) (hp ⟨11, .data⟩ (by simp) rfl)
          have e29 := hI.v 13 29 (by decide) (hp ⟨13, .data⟩ (by simp) rfl)
          have e32 := hI.v 16 32 (by decide) (hp ⟨16, .data⟩ (by simp) rfl)
          exact og_op rfl rfl (og_value (run_buildD ((over_eval _ _ _ (by decide) (by show 19 < 38; omega)).trans e19) ((over_eval _ _ _ (by decide) (by show 22 < 38; omega)).trans e22) ((over_eval _ _ _ (by decide) (by show 27 < 38; omega)).trans e27) ((over_eval _ _ _ (by decide) (by show 29 < 38; omega)).trans e29) ((over_eval _ _ _ (by decide) (by show 32 < 38; omega)).trans e32)) ⟨_, over_put _ _ _ (by decide) _, hI.pure WF (i := 17) (by decide) (Below.refl _ _) rfl, hcB⟩)
        · have e33 := hI.v 17 33 (by decide) (hp ⟨17, .data⟩ (by simp) rfl)
          exact og_op rfl rfl (og_value (run_buildSliceD ((over_eval _ _ _ (by decide) (by show 33 < 38; omega)).trans e33)) ⟨_, over_put _ _ _ (by decide) _, hI.built WF hl, heap_past' (lt_of_block hcB) hcB⟩)
        · have e16 := hI.v 0 16 (by decide) (hp ⟨0, .data⟩ (by simp) rfl)
          have hB := hp ⟨18, .data⟩ (by simp) rfl
          have hZ := hp ⟨0, .data⟩ (by simp) rfl
          exact og_op rfl rfl (hI.appendB hcB HNE.out WF hl hB hZ (.tmp 16) (.tmp 34) rfl rfl (by decide) Tryz.underlying22 infoD rfl (by omega) ((over_eval _ _ _ (by decide) (by show 16 < 38; omega)).trans e16) (over_eval _ _ _ (by decide) (by show 34 < 38; omega)) rfl (by simp [Value.oneCell']) (by unfold maxLen; omega) (by omega))
        · have hA := hp ⟨19, .data⟩ (by simp) rfl
          exact og_op rfl rfl (og_value (run_assign (over_eval _ _ _ (by decide) (by show 35 < 38; omega))) ⟨_, over_put _ _ _ (by decide) _, hI.assigned WF hA, hcB⟩)
      · intro L f wz hl hII
        obtain ⟨hI, hcB⟩ := hII
        have hC := hI.r2 (hl 20 (by show 20 < 21; omega))
        have hrow := hI.r1 hC.1
        have HB6 : Hid (Below wc.heap.size wc wz ∧ wz.ownsRow wc.heap.size 50 6 (f 3) (k + 1) (flatD ((l.map cutD).take (k + 1)))) := Lib.hid (by
          refine ⟨HB5.out.trans hI.bel, ?_⟩
          rw [HT.out, show f 3 = f 35 from hC.2]
          exact hrow)
        clear hI hcB hl hC hrow
        simp only [over, ovl, dD, List.contains, List.elem, Nat.reduceBEq, Bool.false_eq_true, if_false, if_true, Nat.reduceAdd]
        generalize f 3 = v3 at *
        go_wp2_with fail
        go_roundw
        case rel => first | exact ⟨k + 1, by omega, by go_num, HB6.out⟩ | ((repeat apply Exists.intro); exact ⟨⟨k + 1, by omega, by go_num, HB6.out⟩, rfl⟩)
        case measure => simp [intOf]; omega
end Go.Proofs.YtmmkebdaijmpiaaGreat
