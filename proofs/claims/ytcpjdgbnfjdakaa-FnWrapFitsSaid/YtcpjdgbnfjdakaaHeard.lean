/- The walk of (*whole).heard: how all stands behind a call. -/
import Derived.Test.YtcpjdgbnfjdakaaGet
import Derived.Test.YtcpjdgbnfjdakaaSpecI
import Derived.Test.YtcpjdgbnfjdakaaImplA
import Derived.Deep.CutRange
import Derived.Deep.CutBlock
namespace Go.Proofs.Ytcpjdgbnfjdakaa
open Go.RowKit
set_option linter.unusedVariables false
set_option linter.unusedSimpArgs false

/-- An append to a row of one's own, as a step of a region that draws; nothing may be appended. -/
theorem step_append_own {P : Program} {w : World} {ops : Array Oper} {o : Oper} {a : Act} {K : Act → World → Prop} {Q : Exit → Act → World → Prop} {E : Prop} (hgd : o.guard = none) (s x : Operand) (t : TypeId)
    (ho : o.op = .call { callee := .builtin .append, args := #[s, x], argTypes := #[t, t] })
    (base : Nat) (e : TypeId) (i : TypeInfo) (z : Value) (size bytes : Nat) (ht : P.underlying t = some (.slice e)) (hi : P.info? e = some i) (hz : i.zero = some z)
    (hsize : i.size = size) (hby : i.bytes = bytes) (hzs : z.cells.size = size) (hsz : 0 < size)
    (v : Value) (n : Nat) (xs : List Value) (hs : a.eval s = v) (hown : w.ownsRow base e size v n xs)
    (ad : Addr) (m c : Nat) (news : List Value) (hx : a.eval x = .slice (some ad) m c) (hl : news.length = m * size) (hnews : ∀ j u, news[j]? = some u → w.cell? (ad.add j) = some u) (h1 : ∀ u ∈ news, u.oneCell' = true)
    (h63 : n + m ≤ maxLen) (hbytes : (n + m) * bytes ≤ 140737488355328) (hbase : base ≤ w.heap.size)
    (h : ∀ v' w', w'.ownsRow base e size v' (n + m) (xs ++ news) → w.grownBy w' v.ownBlock → K (a.put o.dst v') w') :
    if Region.wanted o (yielded ops a.tmps) = true then Oper.wp P o a w K Q else E := by
  have hw : Region.wanted o (yielded ops a.tmps) = true := by simp [Region.wanted, hgd]
  rw [if_pos hw]
  obtain ⟨v', w', hr, h2, h3, -, -⟩ := run_append_own_at (P := P) w base t o.type e i z size bytes ht hi hz hsize hby hzs hsz v n xs hown ad m c news hl hnews h1 h63 hbytes hbase
  unfold Oper.wp execOp
  simp only [ho, resolve, invoke, builtin, Sem.run_bind, Sem.run_pure, Result.andThen_ok, List.map_toArray, List.map_cons, List.map_nil, hs, hx, hr]
  exact h v' w' h2 h3

theorem own_news {w : World} {base : Nat} {e : TypeId} {size g n cap : Nat} {xs : List Value} (h : w.ownsRow base e size (.slice (some ⟨g, 0, none⟩) n cap) n xs) : ∀ j u, xs[j]? = some u → w.cell? ((⟨g, 0, none⟩ : Addr).add j) = some u := by
  intro j u hj
  have hlt : j < n * size := by rw [← h.1]; exact (List.getElem?_eq_some_iff.1 hj).1
  have hadd : (⟨g, 0, none⟩ : Addr).add j = ⟨g, j, none⟩ := by unfold Addr.add; split <;> simp_all
  rw [hadd]
  rcases h.2 with ⟨h1, _⟩ | ⟨g', cap', cur, e', hb, hh, hnc, hcm, hcs, ht⟩
  · cases h1
  · cases e'
    rw [← ht, List.getElem?_take, if_pos hlt, Array.getElem?_toList] at hj
    simp [World.cell?, hh, hj]
theorem flat_oneCell (g : List (Nat × ByteArray)) : ∀ u ∈ flat g, u.oneCell' = true := by
  intro u hu
  obtain ⟨x, _, hx⟩ := List.mem_flatMap.1 hu
  simp at hx
  rcases hx with rfl | rfl <;> rfl
theorem flat_length (g : List (Nat × ByteArray)) : (flat g).length = g.length * 2 := by
  induction g with
  | nil => rfl
  | cons x g ih => rw [show flat (x :: g) = .int .i64 x.1 :: .string x.2 :: flat g from rfl, List.length_cons, List.length_cons, ih, List.length_cons]; omega

/-- A row behind a store into a block of another type. -/
theorem row_past {w : World} {base : Nat} {e : TypeId} {size : Nat} {v : Value} {n : Nat} {xs : List Value} (h : w.ownsRow base e size v n xs) {b : Nat} {c : Array Value} {t : TypeId} {z : Nat × Nat} (hb : w.heap[b]? = some (.cells c t z)) (hne : t ≠ e) (i : Nat) (u : Value) : (w.setCell ⟨b, i, none⟩ u).ownsRow base e size v n xs :=
  ownsRow_at h fun g hg => by obtain ⟨_, c', hc⟩ := ownsRow_cells h hg; exact heap_ne w _ _ g (Ne.symm (cells_ne hb hc hne))

/-- The places below k of the flags that are changed. -/
def chgR (rs : List FlagR) (k : Nat) : List Nat := (List.range k).filter fun i => ((rs[i]?).map FlagR.chg).getD false
theorem chgR_yes {rs : List FlagR} {k : Nat} {r : FlagR} (h : rs[k]? = some r) (hc : r.chg = true) : chgR rs (k + 1) = chgR rs k ++ [k] := by
  rw [chgR, List.range_succ, List.filter_append, chgR]
  simp [h, hc]
theorem chgR_no {rs : List FlagR} {k : Nat} {r : FlagR} (h : rs[k]? = some r) (hc : r.chg = false) : chgR rs (k + 1) = chgR rs k := by
  rw [chgR, List.range_succ, List.filter_append, chgR]
  simp [h, hc]
theorem chgR_len (rs : List FlagR) (k : Nat) : (chgR rs k).length ≤ k := by
  have := List.length_filter_le (fun i => ((rs[i]?).map FlagR.chg).getD false) (List.range k)
  rw [List.length_range] at this
  exact this

/-- What was heard, as it is returned. -/
def HeardOf (e : Ending) (w' : World) (base : Nat) (x : ErrD) (D : St) : Prop :=
  ∃ gv av cv, e = .returned (.agg (hCells x D.dash D.parsed gv av cv)) ∧ w'.ownsRow base 94 2 gv D.given.length (flat D.given) ∧ w'.ownsRow base 9 1 av D.args.length (D.args.map .string) ∧ w'.ownsRow base 3 1 cv (chgR D.rs D.rs.length).length ((chgR D.rs D.rs.length).map intV)

set_option maxRecDepth 100000 in
set_option maxHeartbeats 3200000 in
theorem heard_any {D : St} {w : World} {x : ErrD} (h : Inv D w) (hgl : D.given.length ≤ 1099511627776) (hal : D.args.length ≤ 1099511627776) (hfl : D.flL = D.rs.map fun r => ptr r.fb) (hlen : D.rs.length ≤ 2147483647) (ev : Value) (he : ErrIs D w ev x) :
    Calls Try.prog 52 #[ptr D.Wb, ev, .int .i64 0] w fun e w' => HeardOf e w' w.heap.size x D ∧ Below w.heap.size w w' := by
  obtain ⟨c0, c1, c2⟩ := h.whCells
  go_enter Try.func52, Try.ntmps52
  go_wp2_with fail
  have h2 := h.later ((Below.refl _ w).alloc (Nat.le_refl _) (.cells #[.int .i64 0, .string ⟨#[]⟩, .string ⟨#[]⟩, .string ⟨#[]⟩, .int .i64 0, .slice none 0 0, .slice none 0 0, .int .i64 0, .slice none 0 0, .bool false, .bool false] 33))
  have lW := World.block_lt_of_cell? w _ c0
  go_cut [7] from 16 to 26 (fun v7 wx => v7 = .pointer (some ⟨w.heap.size + 1, 0, none⟩) ∧ Inv D wx ∧ Below w.heap.size w wx ∧ wx.heap.size = w.heap.size + 2 ∧
    wx.heap[w.heap.size]? = some (.cells #[.int .i64 0, .string ⟨#[]⟩, .string ⟨#[]⟩, .string ⟨#[]⟩, .int .i64 0, .slice none 0 0, .slice none 0 0, .int .i64 0, .slice none 0 0, .bool false, .bool false] 33 (0, 0)) ∧
    wx.heap[w.heap.size + 1]? = some (.cells #[.int .i64 0, .string ⟨#[]⟩, .string ⟨#[]⟩, .string ⟨#[]⟩, .int .i64 (-1), .slice none 0 0, .slice none 0 0, .int .i64 D.dash, .slice none 0 0, .bool D.parsed, .bool false] 33 (0, 0)))
  case first =>
    go_region_held3 (fun w' => w'.cell? ⟨D.Wb, 0, none⟩ = some (ptr D.F))
      (first
        | go_keep
        | exact h2.whCells.1
        | exact (h2.drewN 1).whCells.1
        | exact ((h2.drewN 1).later ((Below.refl _ _).alloc (Nat.le_refl _) _)).whCells.1)
      (first
        | (go_simp; go_at_call 83; refine (dash_any (h2.drewN 1)).mono ?_; rintro e w' ⟨rfl, rfl⟩)
        | (go_simp; go_at_call 84; refine (parsed_any (h2.drewN 1)).mono ?_; rintro e w' ⟨rfl, rfl⟩)
        | (go_simp; go_at_call 83; refine (dash_any ((h2.drewN 1).later ((Below.refl _ _).alloc (Nat.le_refl _) _))).mono ?_; rintro e w' ⟨rfl, rfl⟩)
        | (go_simp; go_at_call 84; refine (parsed_any ((h2.drewN 1).later ((Below.refl _ _).alloc (Nat.le_refl _) _))).mono ?_; rintro e w' ⟨rfl, rfl⟩))
    all_goals (go_wp2_with fail; go_meet)
    all_goals refine ⟨rfl, (h2.drewN 1).later ((Below.refl _ _).alloc (Nat.le_refl _) _), (Below.drewN' ((Below.refl _ w).alloc (Nat.le_refl _) _)).alloc (by simp) _, by simp, heap_past' (by simp) (heap_drew' (heap_at _ _ _ rfl)), heap_at _ _ _ (by simp)⟩
  case rest =>
    obtain ⟨rfl, i1, hb1, hsz1, hX0, hX1⟩ := hcut
    have he1 := he.later (hb1.mono (Nat.le_refl _))
    have zz : ∀ i, wc.frozen? ⟨w.heap.size + 1, i, none⟩ = false := fun i => by simp [World.frozen?, hX1]
    have y0 := cell_of hX1 0 _ rfl
    have y1 := cell_of hX1 1 _ rfl
    have y2 := cell_of hX1 2 _ rfl
    have y3 := cell_of hX1 3 _ rfl
    have y4 := cell_of hX1 4 _ rfl
    have hn0 : ∀ w, Sem.run Try.prog (binOp BinOp.eql 83 Value.nilIface Value.nilIface) w = .ok (.bool true) w := fun _ => by kernel_rfl
    have hn1 : ∀ t v w, Sem.run Try.prog (binOp BinOp.eql 83 (.iface t v) Value.nilIface) w = .ok (.bool false) w := fun _ _ _ => by kernel_rfl
    have hh1 : ∀ w, Sem.run Try.prog (binOp BinOp.eql 83 (.iface 143 (.string ⟨#[112, 102, 108, 97, 103, 58, 32, 104, 101, 108, 112, 32, 114, 101, 113, 117, 101, 115, 116, 101, 100]⟩)) (.iface 143 (.string ⟨#[112, 102, 108, 97, 103, 58, 32, 104, 101, 108, 112, 32, 114, 101, 113, 117, 101, 115, 116, 101, 100]⟩))) w = .ok (.bool true) w := fun _ => by kernel_rfl
    have hh2 : ∀ w, Sem.run Try.prog (binOp BinOp.eql 83 (.iface 97 (.agg #[])) (.iface 143 (.string ⟨#[112, 102, 108, 97, 103, 58, 32, 104, 101, 108, 112, 32, 114, 101, 113, 117, 101, 115, 116, 101, 100]⟩))) w = .ok (.bool false) w := fun _ => by kernel_rfl
    have ta0 : ∀ v w, (Instr.typeAssert (.iface 137 v) 83 137 true).run Try.prog w = .ok (.tuple #[v, .bool true]) w := fun _ _ => by kernel_rfl
    have ta1 : ∀ v w, (Instr.typeAssert (.iface 139 v) 83 137 true).run Try.prog w = .ok (.tuple #[.pointer none, .bool false]) w := fun _ _ => by kernel_rfl
    have ta2 : ∀ v w, (Instr.typeAssert (.iface 139 v) 83 139 true).run Try.prog w = .ok (.tuple #[v, .bool true]) w := fun _ _ => by kernel_rfl
    have ta3 : ∀ v w, (Instr.typeAssert (.iface 141 v) 83 137 true).run Try.prog w = .ok (.tuple #[.pointer none, .bool false]) w := fun _ _ => by kernel_rfl
    have ta4 : ∀ v w, (Instr.typeAssert (.iface 141 v) 83 139 true).run Try.prog w = .ok (.tuple #[.pointer none, .bool false]) w := fun _ _ => by kernel_rfl
    have ta5 : ∀ v w, (Instr.typeAssert (.iface 141 v) 83 141 true).run Try.prog w = .ok (.tuple #[v, .bool true]) w := fun _ _ => by kernel_rfl
    have ta6 : ∀ v w, (Instr.typeAssert (.iface 142 v) 83 137 true).run Try.prog w = .ok (.tuple #[.pointer none, .bool false]) w := fun _ _ => by kernel_rfl
    have ta7 : ∀ v w, (Instr.typeAssert (.iface 142 v) 83 139 true).run Try.prog w = .ok (.tuple #[.pointer none, .bool false]) w := fun _ _ => by kernel_rfl
    have ta8 : ∀ v w, (Instr.typeAssert (.iface 142 v) 83 141 true).run Try.prog w = .ok (.tuple #[.pointer none, .bool false]) w := fun _ _ => by kernel_rfl
    have ta9 : ∀ v w, (Instr.typeAssert (.iface 142 v) 83 142 true).run Try.prog w = .ok (.tuple #[v, .bool true]) w := fun _ _ => by kernel_rfl
    have ta10 : ∀ v w, (Instr.typeAssert (.iface 143 v) 83 137 true).run Try.prog w = .ok (.tuple #[.pointer none, .bool false]) w := fun _ _ => by kernel_rfl
    have ta11 : ∀ v w, (Instr.typeAssert (.iface 143 v) 83 139 true).run Try.prog w = .ok (.tuple #[.pointer none, .bool false]) w := fun _ _ => by kernel_rfl
    have ta12 : ∀ v w, (Instr.typeAssert (.iface 143 v) 83 141 true).run Try.prog w = .ok (.tuple #[.pointer none, .bool false]) w := fun _ _ => by kernel_rfl
    have ta13 : ∀ v w, (Instr.typeAssert (.iface 143 v) 83 142 true).run Try.prog w = .ok (.tuple #[.pointer none, .bool false]) w := fun _ _ => by kernel_rfl
    have ta14 : ∀ v w, (Instr.typeAssert (.iface 97 v) 83 137 true).run Try.prog w = .ok (.tuple #[.pointer none, .bool false]) w := fun _ _ => by kernel_rfl
    have ta15 : ∀ v w, (Instr.typeAssert (.iface 97 v) 83 139 true).run Try.prog w = .ok (.tuple #[.pointer none, .bool false]) w := fun _ _ => by kernel_rfl
    have ta16 : ∀ v w, (Instr.typeAssert (.iface 97 v) 83 141 true).run Try.prog w = .ok (.tuple #[.pointer none, .bool false]) w := fun _ _ => by kernel_rfl
    have ta17 : ∀ v w, (Instr.typeAssert (.iface 97 v) 83 142 true).run Try.prog w = .ok (.tuple #[.pointer none, .bool false]) w := fun _ _ => by kernel_rfl
    have HX0 := Lib.hid hX0
    have HX1 := Lib.hid hX1
    have HSZ := Lib.hid hsz1
    have HB1 := Lib.hid hb1
    have HI1 := Lib.hid i1
    have HE := Lib.hid he1
    have HPL := Lib.hid (fun (i : Nat) (r : FlagR) (hr : D.rs[i]? = some r) => place_any i1 hfl hlen hr)
    have sb : ∀ (wx : World) (i : Nat) (v : Value), Below w.heap.size w wx → Below w.heap.size w (wx.setCell ⟨w.heap.size + 1, i, none⟩ v)  := fun wx i v h => h.setCell (by show w.heap.size ≤ w.heap.size + 1; omega) _
    have s0 : ∀ (wx : World) (i : Nat) (v : Value) (o : Obj), wx.heap[w.heap.size]? = some o → (wx.setCell ⟨w.heap.size + 1, i, none⟩ v).heap[w.heap.size]? = some o := fun wx i v o h => (heap_ne wx ⟨w.heap.size + 1, i, none⟩ v w.heap.size (by show w.heap.size ≠ w.heap.size + 1; omega)).trans h
    have SB := Lib.hid sb
    have S0 := Lib.hid s0
    clear hX0 hX1 hsz1 hb1 i1 he1 he sb s0
    go_upto_block 0 with fail
    go_cut [] from 8 to 77 (fun wx => Below w.heap.size w wx ∧ wx.heap.size = w.heap.size + 2 ∧
      wx.heap[w.heap.size]? = some (.cells zeroH 33 (0, 0)) ∧
      wx.heap[w.heap.size + 1]? = some (.cells (hCells x D.dash D.parsed (.slice none 0 0) (.slice none 0 0) (.slice none 0 0)) 33 (0, 0)))
    case first =>
      cases hx : x with
      | none =>
        have e : ev = .nilIface := by have q := HE.out; rw [hx] at q; exact q
        subst e
        go_wp2_with fail
        go_meet
        exact ⟨HB1.out, HSZ.out, HX0.out, by rw [hx]; exact HX1.out⟩
      | help =>
        have e := HE.out
        rw [hx] at e
        replace e : ev = _ := e
        subst e
        go_wp2_with fail
        go_meet
        exact ⟨SB.out _ _ _ (SB.out _ _ _ HB1.out), by rw [size_setCell, size_setCell]; exact HSZ.out, S0.out _ _ _ _ (S0.out _ _ _ _ HX0.out), by rw [hx]; exact heap_set (heap_set HX1.out 0 (.int .i64 6)) 0 (.int .i64 1)⟩
      | other =>
        have e := HE.out
        rw [hx] at e
        replace e : ev = _ := e
        subst e
        go_wp2_with fail
        go_meet
        exact ⟨SB.out _ _ _ HB1.out, by rw [size_setCell]; exact HSZ.out, S0.out _ _ _ _ HX0.out, by rw [hx]; exact heap_set HX1.out 0 (.int .i64 6)⟩
      | notExist n sh =>
        have e := HE.out
        rw [hx] at e
        obtain ⟨b, k, rfl, hb⟩ := e
        have C1 := neName_any hb
        have C2 := neShorts_any hb
        go_wp2_with fail
        refine C1.mono ?_
        rintro e w' ⟨rfl, rfl⟩
        go_wp2_with fail
        refine C2.mono ?_
        rintro e w' ⟨rfl, rfl⟩
        go_wp2_with fail
        go_meet
        exact ⟨SB.out _ _ _ (SB.out _ _ _ (SB.out _ _ _ HB1.out)), by rw [size_setCell, size_setCell, size_setCell]; exact HSZ.out, S0.out _ _ _ _ (S0.out _ _ _ _ (S0.out _ _ _ _ HX0.out)), by rw [hx]; exact heap_set (heap_set (heap_set HX1.out 0 (.int .i64 2)) 1 (.string n)) 2 (.string sh)⟩
      | valueReq i n sh =>
        have e := HE.out
        rw [hx] at e
        obtain ⟨b, f, rfl, hf, hb⟩ := e
        have C1 := vrName_any hb
        have C2 := vrShorts_any hb
        have C3 := vrFlag_any hb
        have C4 := HPL.out i f hf
        go_wp2_with fail
        refine C1.mono ?_
        rintro e w' ⟨rfl, rfl⟩
        go_wp2_with fail
        refine C2.mono ?_
        rintro e w' ⟨rfl, rfl⟩
        go_wp2_with fail
        refine C3.mono ?_
        rintro e w' ⟨rfl, rfl⟩
        go_wp2_with fail
        refine C4.mono ?_
        rintro e w' ⟨rfl, rfl⟩
        go_wp2_with fail
        go_meet
        exact ⟨SB.out _ _ _ (SB.out _ _ _ (SB.out _ _ _ (SB.out _ _ _ HB1.out))), by rw [size_setCell, size_setCell, size_setCell, size_setCell]; exact HSZ.out, S0.out _ _ _ _ (S0.out _ _ _ _ (S0.out _ _ _ _ (S0.out _ _ _ _ HX0.out))), by rw [hx]; exact heap_set (heap_set (heap_set (heap_set HX1.out 0 (.int .i64 3)) 1 (.string n)) 2 (.string sh)) 4 (.int .i64 i)⟩
      | invalid i v =>
        have e := HE.out
        rw [hx] at e
        obtain ⟨b, f, vx, rfl, hf, hb⟩ := e
        have C1 := ivValue_any hb
        have C3 := ivFlag_any hb
        have C4 := HPL.out i f hf
        go_wp2_with fail
        refine C1.mono ?_
        rintro e w' ⟨rfl, rfl⟩
        go_wp2_with fail
        refine C3.mono ?_
        rintro e w' ⟨rfl, rfl⟩
        go_wp2_with fail
        refine C4.mono ?_
        rintro e w' ⟨rfl, rfl⟩
        go_wp2_with fail
        go_meet
        exact ⟨SB.out _ _ _ (SB.out _ _ _ (SB.out _ _ _ HB1.out)), by rw [size_setCell, size_setCell, size_setCell]; exact HSZ.out, S0.out _ _ _ _ (S0.out _ _ _ _ (S0.out _ _ _ _ HX0.out)), by rw [hx]; exact heap_set (heap_set (heap_set HX1.out 0 (.int .i64 4)) 3 (.string v)) 4 (.int .i64 i)⟩
      | badSyntax t =>
        have e := HE.out
        rw [hx] at e
        obtain ⟨b, rfl, hb⟩ := e
        have C1 := isFlag_any hb
        go_wp2_with fail
        refine C1.mono ?_
        rintro e w' ⟨rfl, rfl⟩
        go_wp2_with fail
        go_meet
        exact ⟨SB.out _ _ _ (SB.out _ _ _ HB1.out), by rw [size_setCell, size_setCell]; exact HSZ.out, S0.out _ _ _ _ (S0.out _ _ _ _ HX0.out), by rw [hx]; exact heap_set (heap_set HX1.out 0 (.int .i64 5)) 1 (.string t)⟩
    case rest =>
      obtain ⟨hb1, hsz1, hX0, hX1⟩ := hcut
      have i1 := h.later hb1
      have d2 := i1.whCells.2.2
      have y5 := cell_of hX1 5 (.slice none 0 0) rfl
      have z5 : wc.frozen? ⟨w.heap.size + 1, 5, none⟩ = false := by simp [World.frozen?, hX1]
      have hrow : wc.ownsRow D.base 94 2 D.saidV D.given.length (flat D.given) := i1.rSaid
      go_upto_region 21 with fail
      go_cut [] from 78 to 87 (fun wx => Below w.heap.size w wx ∧ w.heap.size + 1 < wx.heap.size ∧ wx.heap[w.heap.size]? = some (.cells zeroH 33 (0, 0)) ∧
        ∃ gv, wx.heap[w.heap.size + 1]? = some (.cells (hCells x D.dash D.parsed gv (.slice none 0 0) (.slice none 0 0)) 33 (0, 0)) ∧ wx.ownsRow w.heap.size 94 2 gv D.given.length (flat D.given))
      case first =>
        obtain ⟨i0, hi0, hz0, hz1, hz2⟩ := info_parts infoG
        have hX1d : wc.drew.heap[w.heap.size + 1]? = _ := hX1
        rcases hrow.2 with ⟨e, hn⟩ | ⟨g, cap, cur, e, -⟩
        · rw [e] at d2
          have hg0 : D.given = [] := List.length_eq_zero_iff.1 hn
          have HG0 := Lib.hid hg0
          have F1 := Lib.hid (And.intro (show Below w.heap.size w (wc.drew.setCell ⟨w.heap.size + 1, 5, none⟩ (.slice none 0 0)) from hb1.drew.setCell (by show w.heap.size ≤ w.heap.size + 1; omega) _) (And.intro (heap_set hX1d 5 (.slice none 0 0)) ((heap_ne wc.drew ⟨w.heap.size + 1, 5, none⟩ (.slice none 0 0) w.heap.size (by simp)).trans hX0)))
          clear hg0 hX0 hX1 hX1d hb1 hrow i1 h e hn
          go_region
          all_goals (go_wp2_with fail)
          all_goals go_meet
          all_goals exact ⟨F1.out.1, by have := lt_of_block F1.out.2.1; exact this, F1.out.2.2, _, F1.out.2.1, by rw [HG0.out]; exact ⟨rfl, .inl ⟨rfl, rfl⟩⟩⟩
        · rw [e] at d2 hrow
          have hnews := own_news hrow
          have hrs : w.heap.size ≤ wc.drew.heap.size := hb1.size
          have HFIN : Hid (∀ (nv : Value) (w2 : World), w2.ownsRow w.heap.size 94 2 nv D.given.length (flat D.given) → wc.drew.grownBy w2 none → (w2.cell? ⟨w.heap.size + 1, 5, none⟩ = some (.slice none 0 0) ∧ w2.frozen? ⟨w.heap.size + 1, 5, none⟩ = false) ∧
              Below w.heap.size w (w2.setCell ⟨w.heap.size + 1, 5, none⟩ nv) ∧ w.heap.size + 1 < (w2.setCell ⟨w.heap.size + 1, 5, none⟩ nv).heap.size ∧ (w2.setCell ⟨w.heap.size + 1, 5, none⟩ nv).heap[w.heap.size]? = some (.cells zeroH 33 (0, 0)) ∧
              (w2.setCell ⟨w.heap.size + 1, 5, none⟩ nv).heap[w.heap.size + 1]? = some (.cells (hCells x D.dash D.parsed nv (.slice none 0 0) (.slice none 0 0)) 33 (0, 0)) ∧ (w2.setCell ⟨w.heap.size + 1, 5, none⟩ nv).ownsRow w.heap.size 94 2 nv D.given.length (flat D.given)) := Lib.hid (fun nv w2 ho hg => by
            have q1 := (hg.block _ (lt_of_block hX1) (by simp)).trans hX1
            have q0 := (hg.block _ (lt_of_block hX0) (by simp)).trans hX0
            have qb : Below w.heap.size w w2 := hb1.drew.trans (grownBy_below hg (fun k hk => by cases hk) hb1.size)
            exact ⟨⟨cell_of q1 5 _ rfl, by simp [World.frozen?, q1]⟩, qb.setCell (by show w.heap.size ≤ w.heap.size + 1; omega) _, by rw [size_setCell]; exact lt_of_block q1, (heap_ne _ _ _ _ (by simp)).trans q0, heap_set q1 5 nv, row_past ho q1 (by decide) 5 nv⟩)
          clear hX0 hX1 hX1d hb1 i1 h e
          go_region_law (
            refine step_append_own (by rfl) _ _ _ (by rfl) w.heap.size 94 i0 _ 2 24 Try.underlying30 hi0 hz0 hz1 hz2 rfl (by omega) (.slice none 0 0) 0 [] (by rfl) ⟨rfl, .inl ⟨rfl, rfl⟩⟩
              ⟨g, 0, none⟩ D.given.length cap (flat D.given) (by rfl) (flat_length _) hnews (flat_oneCell _) (by unfold maxLen; omega) (by omega) hrs ?_; intro nv w2 hown hgrow; obtain ⟨na, nc, rfl⟩ := row_form hown; simp only [Nat.zero_add, List.nil_append] at hown; obtain ⟨⟨x1, x2⟩, hfin⟩ := HFIN.out _ _ hown hgrow)
          all_goals (go_wp2_with fail)
          all_goals go_meet
          all_goals exact ⟨hfin.1, hfin.2.1, hfin.2.2.1, _, hfin.2.2.2.1, hfin.2.2.2.2⟩
      case rest =>
        obtain ⟨hb2, hs2, hX0, gv, hX1, hgv⟩ := hcut
        obtain ⟨ga, gc, rfl⟩ := row_form hgv
        have i2 := h.later hb2
        clear zz y0 y1 y2 y3 y4 hn0 hn1 hh1 hh2 ta0 ta1 ta2 ta3 ta4 ta5 ta6 ta7 ta8 ta9 ta10 ta11 ta12 ta13 ta14 ta15 ta16 ta17 hb1 i1 d2 y5 z5 hrow HPL HE HX0 HX1 HSZ HB1 HI1 SB S0
        have hrow2 : wc.ownsRow D.base 9 1 D.argsV D.args.length (D.args.map .string) := i2.rArgs
        have d0 := i2.whCells.1
        have d0' := (i2.later (Below.refl _ wc).drew).whCells.1
        have CG := argsGet_any (i2.later (Below.refl _ wc).drew)
        have y6 := cell_of hX1 6 (.slice none 0 0) rfl
        have z6 : wc.frozen? ⟨w.heap.size + 1, 6, none⟩ = false := by simp [World.frozen?, hX1]
        go_upto_region 22 with fail
        go_cut [] from 88 to 96 (fun wx => Below w.heap.size w wx ∧ w.heap.size + 1 < wx.heap.size ∧ wx.heap[w.heap.size]? = some (.cells zeroH 33 (0, 0)) ∧ wx.ownsRow w.heap.size 94 2 (.slice ga D.given.length gc) D.given.length (flat D.given) ∧
          ∃ av, wx.heap[w.heap.size + 1]? = some (.cells (hCells x D.dash D.parsed (.slice ga D.given.length gc) av (.slice none 0 0)) 33 (0, 0)) ∧ wx.ownsRow w.heap.size 9 1 av D.args.length (D.args.map .string))
        case first =>
          obtain ⟨i0, hi0, hz0, hz1, hz2⟩ := info_parts infoT
          have hX1d : wc.drew.heap[w.heap.size + 1]? = _ := hX1
          have hgvd : wc.drew.ownsRow w.heap.size 94 2 (.slice ga D.given.length gc) D.given.length (flat D.given) := hgv
          rcases hrow2.2 with ⟨e, hn⟩ | ⟨g, cap, cur, e, -⟩
          · rw [e] at CG
            have hg0 : D.args = [] := List.length_eq_zero_iff.1 hn
            have HG0 := Lib.hid hg0
            have F1 := Lib.hid (And.intro (show Below w.heap.size w (wc.drew.setCell ⟨w.heap.size + 1, 6, none⟩ (.slice none 0 0)) from hb2.drew.setCell (by show w.heap.size ≤ w.heap.size + 1; omega) _) (And.intro (heap_set hX1d 6 (.slice none 0 0)) (And.intro ((heap_ne wc.drew ⟨w.heap.size + 1, 6, none⟩ (.slice none 0 0) w.heap.size (by simp)).trans hX0) (row_past hgvd hX1d (by decide) 6 (.slice none 0 0)))))
            clear hg0 hX0 hX1 hX1d hb2 hrow2 i2 h e hn hgv hgvd
            go_region_with (go_at_call 93; refine CG.mono ?_; rintro e w' ⟨rfl, rfl⟩)
            all_goals (go_wp2_with fail)
            all_goals go_meet
            all_goals exact ⟨F1.out.1, by have := lt_of_block F1.out.2.1; exact this, F1.out.2.2.1, F1.out.2.2.2, _, F1.out.2.1, by rw [HG0.out]; exact ⟨rfl, .inl ⟨rfl, rfl⟩⟩⟩
          · rw [e] at CG hrow2
            have hnews := own_news hrow2
            have hrs : w.heap.size ≤ wc.drew.heap.size := hb2.size
            have HFIN : Hid (∀ (nv : Value) (w2 : World), w2.ownsRow w.heap.size 9 1 nv D.args.length (D.args.map .string) → wc.drew.grownBy w2 none → (w2.cell? ⟨w.heap.size + 1, 6, none⟩ = some (.slice none 0 0) ∧ w2.frozen? ⟨w.heap.size + 1, 6, none⟩ = false) ∧
                Below w.heap.size w (w2.setCell ⟨w.heap.size + 1, 6, none⟩ nv) ∧ w.heap.size + 1 < (w2.setCell ⟨w.heap.size + 1, 6, none⟩ nv).heap.size ∧ (w2.setCell ⟨w.heap.size + 1, 6, none⟩ nv).heap[w.heap.size]? = some (.cells zeroH 33 (0, 0)) ∧ (w2.setCell ⟨w.heap.size + 1, 6, none⟩ nv).ownsRow w.heap.size 94 2 (.slice ga D.given.length gc) D.given.length (flat D.given) ∧
                (w2.setCell ⟨w.heap.size + 1, 6, none⟩ nv).heap[w.heap.size + 1]? = some (.cells (hCells x D.dash D.parsed (.slice ga D.given.length gc) nv (.slice none 0 0)) 33 (0, 0)) ∧ (w2.setCell ⟨w.heap.size + 1, 6, none⟩ nv).ownsRow w.heap.size 9 1 nv D.args.length (D.args.map .string)) := Lib.hid (fun nv w2 ho hg => by
              have q1 := (hg.block _ (lt_of_block hX1) (by simp)).trans hX1
              have q0 := (hg.block _ (lt_of_block hX0) (by simp)).trans hX0
              have qg : w2.ownsRow w.heap.size 94 2 (.slice ga D.given.length gc) D.given.length (flat D.given) := ownsRow_at hgv fun b hb => by obtain ⟨_, c, hc⟩ := ownsRow_cells hgv hb; exact hg.block b (lt_of_block hc) (by simp)
              have qb : Below w.heap.size w w2 := hb2.drew.trans (grownBy_below hg (fun k hk => by cases hk) hb2.size)
              exact ⟨⟨cell_of q1 6 _ rfl, by simp [World.frozen?, q1]⟩, qb.setCell (by show w.heap.size ≤ w.heap.size + 1; omega) _, by rw [size_setCell]; exact lt_of_block q1, (heap_ne _ _ _ _ (by simp)).trans q0, row_past qg q1 (by decide) 6 nv, heap_set q1 6 nv, row_past ho q1 (by decide) 6 nv⟩)
            clear hX0 hX1 hX1d hb2 i2 h e hgv hgvd
            go_region_law (first
              | (refine step_append_own (by rfl) _ _ _ (by rfl) w.heap.size 9 i0 _ 1 16 Try.underlying25 hi0 hz0 hz1 hz2 rfl (by omega) (.slice none 0 0) 0 [] (by rfl) ⟨rfl, .inl ⟨rfl, rfl⟩⟩
                  ⟨g, 0, none⟩ D.args.length cap (D.args.map .string) (by rfl) (by rw [List.length_map]; omega) hnews (texts_oneCell _) (by unfold maxLen; omega) (by omega) hrs ?_; intro nv w2 hown hgrow; obtain ⟨na, nc, rfl⟩ := row_form hown; simp only [Nat.zero_add, List.nil_append] at hown; obtain ⟨⟨x1, x2⟩, hfin⟩ := HFIN.out _ _ hown hgrow)
              | (go_simp; go_at_call 93; refine CG.mono ?_; rintro e w' ⟨rfl, rfl⟩))
            all_goals (go_wp2_with fail)
            all_goals go_meet
            all_goals exact ⟨hfin.1, hfin.2.1, hfin.2.2.1, hfin.2.2.2.1, _, hfin.2.2.2.2.1, hfin.2.2.2.2.2⟩
        case rest =>
          obtain ⟨hb3, hs3, hX0, hgv, av, hX1, hav⟩ := hcut
          obtain ⟨aa, ac, rfl⟩ := row_form hav
          have i3 := h.later hb3
          have d1 := i3.whCells.2.1
          obtain ⟨i0, hi0, hz0, hz1, hz2⟩ := info_parts infoN
          have hfl0 : wc.ownsRow D.base 91 1 D.flv D.flL.length D.flL := i3.rFl
          have hflen : D.flL.length = D.rs.length := by rw [hfl, List.length_map]
          obtain ⟨fa, fc, hflv⟩ := row_form hfl0
          rw [hflv, hflen] at d1
          have hcell : ∀ (wx : World), Below w.heap.size w wx → ∀ k (y : FlagR), D.rs[k]? = some y → ∃ g, fa = some ⟨g, 0, none⟩ ∧ wx.cell? ⟨g, k, none⟩ = some (ptr y.fb) ∧ wx.cell? ⟨y.fb, 5, none⟩ = some (.bool y.chg) := fun wx hb k y hy => by
            have ix := h.later hb
            have hk : k < D.rs.length := (List.getElem?_eq_some_iff.1 hy).1
            have hr : wx.ownsRow D.base 91 1 D.flv D.flL.length D.flL := ix.rFl
            obtain ⟨g, c, e1, e2⟩ := row_cell hr k (by omega)
            rw [hflv, hflen] at e1
            cases e1
            exact ⟨g, rfl, by rw [e2, hfl, List.getElem?_map, hy]; rfl, ix.cellFlag hy 5 _ rfl⟩
          have HCELL := Lib.hid hcell
          have HR0 : Hid (wc.ownsRow w.heap.size 3 1 (.slice none 0 0) (chgR D.rs 0).length ((chgR D.rs 0).map intV)) := Lib.hid ⟨rfl, .inl ⟨rfl, rfl⟩⟩
          clear i3 hfl0 hflv hcell CG d0 d0' y6 z6 hrow2 i2 hb2 hs2
          go_upto_region 24 with fail
          go_loopw [102] (fun vi wx => ∃ k : Nat, k ≤ D.rs.length ∧ vi = .int .i64 k ∧ Below w.heap.size w wx ∧ wx.heap[w.heap.size]? = some (.cells zeroH 33 (0, 0)) ∧ wx.ownsRow w.heap.size 94 2 (.slice ga D.given.length gc) D.given.length (flat D.given) ∧ wx.ownsRow w.heap.size 9 1 (.slice aa D.args.length ac) D.args.length (D.args.map .string) ∧
            ∃ cv, wx.heap[w.heap.size + 1]? = some (.cells (hCells x D.dash D.parsed (.slice ga D.given.length gc) (.slice aa D.args.length ac) cv) 33 (0, 0)) ∧ wx.ownsRow w.heap.size 3 1 cv (chgR D.rs k).length ((chgR D.rs k).map intV)) (fun vi _ => D.rs.length - (intOf vi).toNat)
          case atStart => exact ⟨0, Nat.zero_le _, rfl, hb3, hX0, hgv, hav, _, hX1, HR0.out⟩
          case round =>
            obtain ⟨k, hk, rfl, hb, q0, qg, qa, cv, q1, qc⟩ := hrel
            obtain ⟨ca, cc, rfl⟩ := row_form qc
            by_cases hlt : k < D.rs.length
            · have hx : D.rs[k]? = some D.rs[k] := List.getElem?_eq_getElem hlt
              obtain ⟨g, rfl, p1, p2⟩ := HCELL.out wr hb k _ hx
              have HY := Lib.hid (fun hc => chgR_yes hx hc)
              have HN := Lib.hid (fun hc => chgR_no hx hc)
              have hcl := chgR_len D.rs k
              have y8 := cell_of q1 8 (.slice ca (chgR D.rs k).length cc) rfl
              have z8 : wr.frozen? ⟨w.heap.size + 1, 8, none⟩ = false := by simp [World.frozen?, q1]
              generalize chgR D.rs k = ck at *
              cases hc : D.rs[k].chg with
              | false =>
                have HE := Lib.hid (HN.out hc)
                have HQ := Lib.hid (And.intro hb (And.intro q0 (And.intro qg (And.intro qa (And.intro q1 qc)))))
                rw [hc] at p2
                clear HN HY hb q0 qg qa q1 qc hc
                generalize D.rs[k].fb = fb at *
                go_wp2_with fail
                go_roundw
                case rel => exact ⟨k + 1, by omega, by go_num, HQ.out.1, HQ.out.2.1, HQ.out.2.2.1, HQ.out.2.2.2.1, _, HQ.out.2.2.2.2.1, by rw [HE.out]; exact HQ.out.2.2.2.2.2⟩
                case measure => simp [intOf]; omega
              | true =>
                have HE := Lib.hid (HY.out hc)
                have qc2 := qc.alloc (.cells #[.int .i64 k] 3)
                have hrs : w.heap.size ≤ wr.heap.size := hb.size
                have HFIN : Hid (∀ (nv : Value) (w2 : World), w2.ownsRow w.heap.size 3 1 nv (ck.length + 1) (ck.map intV ++ [.int .i64 k]) → (wr.alloc (.cells #[.int .i64 k] 3)).grownBy w2 (Value.slice ca ck.length cc).ownBlock → (w2.cell? ⟨w.heap.size + 1, 8, none⟩ = some (.slice ca ck.length cc) ∧ w2.frozen? ⟨w.heap.size + 1, 8, none⟩ = false) ∧
                    Below w.heap.size w (w2.setCell ⟨w.heap.size + 1, 8, none⟩ nv) ∧ (w2.setCell ⟨w.heap.size + 1, 8, none⟩ nv).heap[w.heap.size]? = some (.cells zeroH 33 (0, 0)) ∧ (w2.setCell ⟨w.heap.size + 1, 8, none⟩ nv).ownsRow w.heap.size 94 2 (.slice ga D.given.length gc) D.given.length (flat D.given) ∧ (w2.setCell ⟨w.heap.size + 1, 8, none⟩ nv).ownsRow w.heap.size 9 1 (.slice aa D.args.length ac) D.args.length (D.args.map .string) ∧
                    (w2.setCell ⟨w.heap.size + 1, 8, none⟩ nv).heap[w.heap.size + 1]? = some (.cells (hCells x D.dash D.parsed (.slice ga D.given.length gc) (.slice aa D.args.length ac) nv) 33 (0, 0)) ∧ (w2.setCell ⟨w.heap.size + 1, 8, none⟩ nv).ownsRow w.heap.size 3 1 nv (ck.length + 1) (ck.map intV ++ [.int .i64 k])) := Lib.hid (fun nv w2 ho hg => by
                  have kp := grownBy_keep hg
                  have a1 := heap_past' (o := .cells #[.int .i64 k] 3) (lt_of_block q1) q1
                  have a0 := heap_past' (o := .cells #[.int .i64 k] 3) (lt_of_block q0) q0
                  have qgA := qg.alloc (.cells #[.int .i64 k] 3)
                  have qaA := qa.alloc (.cells #[.int .i64 k] 3)
                  have b1 := (kp _ (lt_of_block a1) (ne_rowX a1 qc2 (by decide))).trans a1
                  have b0 := (kp _ (lt_of_block a0) (ne_rowX a0 qc2 (by decide))).trans a0
                  have bg : w2.ownsRow w.heap.size 94 2 (.slice ga D.given.length gc) D.given.length (flat D.given) := ownsRow_at qgA fun b hb' => by obtain ⟨_, c, hc'⟩ := ownsRow_cells qgA hb'; exact kp b (lt_of_block hc') (fun e => rows_ne_rowX qgA qc2 (.inl (by decide)) (by rw [← e]; exact hb'))
                  have ba : w2.ownsRow w.heap.size 9 1 (.slice aa D.args.length ac) D.args.length (D.args.map .string) := ownsRow_at qaA fun b hb' => by obtain ⟨_, c, hc'⟩ := ownsRow_cells qaA hb'; exact kp b (lt_of_block hc') (fun e => rows_ne_rowX qaA qc2 (.inl (by decide)) (by rw [← e]; exact hb'))
                  have hbA : Below w.heap.size w (wr.alloc (.cells #[.int .i64 k] 3)) := hb.alloc hrs _
                  have qb : Below w.heap.size w w2 := hbA.trans (grownBy_below hg (fun b hb' => (ownsRow_cells qc2 hb').1) hbA.size)
                  exact ⟨⟨cell_of b1 8 _ rfl, by simp [World.frozen?, b1]⟩, qb.setCell (by show w.heap.size ≤ w.heap.size + 1; omega) _, (heap_ne _ _ _ _ (by simp)).trans b0, row_past bg b1 (by decide) 8 nv, row_past ba b1 (by decide) 8 nv, heap_set b1 8 nv, row_past ho b1 (by decide) 8 nv⟩)
                rw [hc] at p2
                clear HN HY hb q0 qg qa q1 qc hc
                generalize D.rs[k].fb = fb at *
                go_wp2_with (
                  at_builtin
                  refine wpList_append_lies _ (by rfl) _ _ _ (by rfl) w.heap.size 3 i0 _ 1 8 Try.underlying31 hi0 hz0 hz1 hz2 rfl (by omega) (.slice ca ck.length cc) ck.length (ck.map intV) (by rfl) qc2
                    ⟨wr.heap.size, 0, none⟩ 1 1 [.int .i64 k] (by rfl) (by rfl) (World.news_of_block (cs := #[.int .i64 k]) (t := 3) (fr := (0, 0)) (heap_alloc_new wr _)) (by simp [Value.oneCell'])
                    (by omega) (by unfold maxLen; omega) (by omega) (by simp only [World.size_alloc]; exact Nat.le_succ_of_le hrs) (wr.heap.size + 1) (by simp only [World.size_alloc]) ?_
                  intro gg gcp w5 hown1 hgrow hat hlt5
                  obtain ⟨⟨x1, x2⟩, hfin⟩ := HFIN.out _ _ hown1 hgrow
                  have HF := Lib.hid hfin
                  clear hfin hown1 hgrow hat)
                go_roundw
                case rel => exact ⟨k + 1, by omega, by go_num, HF.out.1, HF.out.2.1, HF.out.2.2.1, HF.out.2.2.2.1, .slice (some ⟨gg, 0, none⟩) (ck.length + 1) gcp, HF.out.2.2.2.2.1, by rw [HE.out]; simpa [intV] using HF.out.2.2.2.2.2⟩
                case measure => simp [intOf]; omega
            · have e : k = D.rs.length := by omega
              subst e
              have y0 := cell_of q1 0 (.int .i64 x.kind) rfl
              have y1 := cell_of q1 1 (.string x.name) rfl
              have y2 := cell_of q1 2 (.string x.shorts) rfl
              have y3 := cell_of q1 3 (.string x.value) rfl
              have y4 := cell_of q1 4 (.int .i64 x.place) rfl
              have y5 := cell_of q1 5 (.slice ga D.given.length gc) rfl
              have y6 := cell_of q1 6 (.slice aa D.args.length ac) rfl
              have y7 := cell_of q1 7 (.int .i64 D.dash) rfl
              have y8 := cell_of q1 8 (.slice ca (chgR D.rs D.rs.length).length cc) rfl
              have y9 := cell_of q1 9 (.bool D.parsed) rfl
              have y10 := cell_of q1 10 (.bool false) rfl
              have x0 := cell_of q0 0 (.int .i64 0) rfl
              have x1 := cell_of q0 1 (.string ⟨#[]⟩) rfl
              have x2 := cell_of q0 2 (.string ⟨#[]⟩) rfl
              have x3 := cell_of q0 3 (.string ⟨#[]⟩) rfl
              have x4 := cell_of q0 4 (.int .i64 0) rfl
              have x5 := cell_of q0 5 (.slice none 0 0) rfl
              have x6 := cell_of q0 6 (.slice none 0 0) rfl
              have x7 := cell_of q0 7 (.int .i64 0) rfl
              have x8 := cell_of q0 8 (.slice none 0 0) rfl
              have x9 := cell_of q0 9 (.bool false) rfl
              have x10 := cell_of q0 10 (.bool false) rfl
              have xf : ∀ i, wr.frozen? ⟨w.heap.size, i, none⟩ = false := fun i => by simp [World.frozen?, q0]
              obtain ⟨hZ, hW, hBW⟩ := put11 q0 (.int .i64 x.kind) (.string x.name) (.string x.shorts) (.string x.value) (.int .i64 x.place) (.slice ga D.given.length gc) (.slice aa D.args.length ac) (.int .i64 D.dash) (.slice ca (chgR D.rs D.rs.length).length cc) (.bool D.parsed) (.bool false)
              have HZ := Lib.hid hZ
              have HW := Lib.hid hW
              have HBW := Lib.hid (hb.trans (hBW w.heap.size (Nat.le_refl _)))
              have HQ := Lib.hid (And.intro qg (And.intro qa qc))
              have HQ0 := Lib.hid q0
              clear hZ hW hBW q0 q1 qg qa qc hb
              go_wp2_with fail
              refine bodyPost_ret (v := .agg (hCells x D.dash D.parsed (.slice ga D.given.length gc) (.slice aa D.args.length ac) (.slice ca (chgR D.rs D.rs.length).length cc))) ?_ rfl ⟨?_, HBW.out⟩
              · rw [results_cell_one rfl]
                have q := load_heard HZ.out
                simp only [Array.getD_eq_getD_getElem?]
                simp [asAddr, Result.andThen, q, hCells]
              · obtain ⟨qg, qa, qc⟩ := HQ.out
                refine ⟨_, _, _, rfl, ownsRow_at qg fun b hb' => HW.out b ?_, ownsRow_at qa fun b hb' => HW.out b ?_, ownsRow_at qc fun b hb' => HW.out b ?_⟩
                · intro e; subst e; exact row_ne HQ0.out qg (by decide) hb'
                · intro e; subst e; exact row_ne HQ0.out qa (by decide) hb'
                · intro e; subst e; exact row_ne HQ0.out qc (by decide) hb'
end Go.Proofs.Ytcpjdgbnfjdakaa
