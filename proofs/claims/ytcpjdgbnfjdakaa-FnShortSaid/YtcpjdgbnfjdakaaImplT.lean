/- The walk of impl.Short: the function handed to guarded. -/
import Derived.Test.YtcpjdgbnfjdakaaImplQ
import Derived.Deep.RegionHeld3
namespace Go.Proofs.Ytcpjdgbnfjdakaa
open Go.RowKit
set_option linter.unusedVariables false
set_option linter.unusedSimpArgs false

theorem Inv.fin {D : St} {w : World} (h : Inv D w) (b : Bool) : Inv { D with fin := b } w := { h with bel := h.bel }
theorem Fresh.shorted {D : St} {s : SetD} (k : Fresh D s) : Runs { D with fin := false } s .sets begin0 := by
  refine ⟨⟨k.ready.norm, k.ready.unk, k.ready.inter, k.ready.len, k.ready.flag, k.ready.form, k.ready.short, k.ready.uniq, k.ready.small⟩, k.given, k.noargs, k.dash, k.np, fun i x hx => ?_, ?_⟩
  · rw [k.chg i x hx]
    show false = D.given.any _
    rw [k.given]; rfl
  · show D.oaL.length ≤ _
    rw [k.oa]; exact Nat.zero_le _

set_option maxRecDepth 100000 in
theorem zz_any {D : St} {s : SetD} {way : Way} {r : RunD} {w : World} {fid : FuncId} {first cap : Array Value} (hands : Hands fid first cap D s way) (h : Inv D w) (k : Runs D s way r) (he : r.err = .none) (hg : r.given.length ≤ 1099511627776)
    (shorts : ByteArray) (ha : shorts.size ≤ 4294967295) (ha2 : 0 < shorts.size) (v : Value) (l : List ByteArray) (hv : Texts D.w0 v l) (hl : l.length ≤ 2147483647) (hs : ∀ t ∈ l, t.size ≤ 4294967295) :
    Calls Try.prog 61 #[ptr D.F, .string shorts, v, .func (.func fid) first cap] w fun e w' => CameS D s way e w' (shortF s way shorts l r) := by
  have C := Lib.hid (short_any hands h k he hg shorts ha ha2 v l hv hl hs)
  clear hands h k hv hs
  go_enter Try.func61, Try.ntmps61
  go_wp2_with fail
  refine C.out.mono ?_
  rintro e w1 ⟨v', ev, D', rfl, h1⟩
  have H := Lib.hid h1
  clear h1
  go_wp2_with fail
  go_ret3
  exact ⟨_, _, D', rfl, H.out⟩

/-- What came of shorthands is written into three variables; all else of a world stands. -/
def ShortPut (w w' : World) (L X M : Nat) (o : RunD × ByteArray × List ByteArray) (chg : List Nat) : Prop :=
  (w'.os = w.os ∧ w'.tape = w.tape ∧ w'.output = w.output ∧ w.heap.size ≤ w'.heap.size ∧ ∀ b, b < w.heap.size → b ≠ X → b ≠ L → b ≠ M → w'.heap[b]? = w.heap[b]?) ∧
  ∃ gv av cv lv, w'.heap[X]? = some (.cells (hCells o.1.err o.1.dash false gv av cv) 33 (0, 0)) ∧ HeardRows w' w.heap.size gv av cv o.1 chg ∧
    w'.heap[M]? = some (.cells #[.string o.2.1] 9 (0, 0)) ∧ w'.heap[L]? = some (.cells #[lv] 25 (0, 0)) ∧ w'.ownsRow w.heap.size 9 1 lv o.2.2.length (o.2.2.map .string)
/-- What stands ahead of the stores. -/
structure ShortAt (w w5 : World) (L X M : Nat) (o : RunD × ByteArray × List ByteArray) (chg : List Nat) (gv av cv lv : Value) : Prop where
  bel : Below w.heap.size w w5
  hX : w5.heap[X]? = some (.cells zeroH 33 (0, 0))
  hM : w5.heap[M]? = some (.cells #[.string ⟨#[]⟩] 9 (0, 0))
  hL : w5.heap[L]? = some (.cells #[.slice none 0 0] 25 (0, 0))
  rows : HeardRows w5 w.heap.size gv av cv o.1 chg
  left : w5.ownsRow w.heap.size 9 1 lv o.2.2.length (o.2.2.map .string)
theorem ShortAt.put {w w5 : World} {L X M : Nat} {o : RunD × ByteArray × List ByteArray} {chg : List Nat} {gv av cv lv : Value} (h : ShortAt w w5 L X M o chg gv av cv lv) (lX : X < w.heap.size) (lM : M < w.heap.size) (lL : L < w.heap.size) :
    ShortPut w (((((((((((((w5.setCell ⟨X, 0, none⟩ (.int .i64 o.1.err.kind)).setCell ⟨X, 1, none⟩ (.string o.1.err.name)).setCell ⟨X, 2, none⟩ (.string o.1.err.shorts)).setCell ⟨X, 3, none⟩ (.string o.1.err.value)).setCell ⟨X, 4, none⟩ (.int .i64 o.1.err.place)).setCell ⟨X, 5, none⟩ gv).setCell ⟨X, 6, none⟩ av).setCell ⟨X, 7, none⟩ (.int .i64 o.1.dash)).setCell ⟨X, 8, none⟩ cv).setCell ⟨X, 9, none⟩ (.bool false)).setCell ⟨X, 10, none⟩ (.bool false)).setCell ⟨M, 0, none⟩ (.string o.2.1)).setCell ⟨L, 0, none⟩ lv) L X M o chg := by
  have nXM : X ≠ M := cells_ne h.hX h.hM (by decide)
  have nXL : X ≠ L := cells_ne h.hX h.hL (by decide)
  have nML : M ≠ L := cells_ne h.hM h.hL (by decide)
  obtain ⟨hZ, hW, hBW⟩ := put11 h.hX (.int .i64 o.1.err.kind) (.string o.1.err.name) (.string o.1.err.shorts) (.string o.1.err.value) (.int .i64 o.1.err.place) gv av (.int .i64 o.1.dash) cv (.bool false) (.bool false)
  have b0 := hBW 0 (Nat.zero_le _)
  generalize (((((((((((w5.setCell ⟨X, 0, none⟩ (.int .i64 o.1.err.kind)).setCell ⟨X, 1, none⟩ (.string o.1.err.name)).setCell ⟨X, 2, none⟩ (.string o.1.err.shorts)).setCell ⟨X, 3, none⟩ (.string o.1.err.value)).setCell ⟨X, 4, none⟩ (.int .i64 o.1.err.place)).setCell ⟨X, 5, none⟩ gv).setCell ⟨X, 6, none⟩ av).setCell ⟨X, 7, none⟩ (.int .i64 o.1.dash)).setCell ⟨X, 8, none⟩ cv).setCell ⟨X, 9, none⟩ (.bool false)).setCell ⟨X, 10, none⟩ (.bool false)) = w6 at *
  have hM6 := (hW M (Ne.symm nXM)).trans h.hM
  have hL6 := (hW L (Ne.symm nXL)).trans h.hL
  have k : ∀ b, b ≠ X → b ≠ L → b ≠ M → ((w6.setCell ⟨M, 0, none⟩ (.string o.2.1)).setCell ⟨L, 0, none⟩ lv).heap[b]? = w5.heap[b]? := fun b h1 h2 h3 => (heap_ne _ _ _ _ h2).trans ((heap_ne _ _ _ _ h3).trans (hW b h1))
  refine ⟨⟨b0.os.trans h.bel.os, b0.tape.trans h.bel.tape, b0.output.trans h.bel.output, ?_, fun b hlt h1 h2 h3 => (k b h1 h2 h3).trans (h.bel.block b hlt)⟩, gv, av, cv, lv, ?_, ?_, ?_, ?_, ?_⟩
  · rw [size_setCell, size_setCell]; exact Nat.le_trans h.bel.size b0.size
  · exact (heap_ne _ _ _ _ nXL).trans ((heap_ne _ _ _ _ nXM).trans hZ)
  · obtain ⟨h1, h2, h3⟩ := h.rows
    refine ⟨ownsRow_at h1 fun b hb => ?_, ownsRow_at h2 fun b hb => ?_, ownsRow_at h3 fun b hb => ?_⟩
    · have := (ownsRow_cells h1 hb).1; exact k b (by omega) (by omega) (by omega)
    · have := (ownsRow_cells h2 hb).1; exact k b (by omega) (by omega) (by omega)
    · have := (ownsRow_cells h3 hb).1; exact k b (by omega) (by omega) (by omega)
  · have e := heap_set hM6 0 (.string o.2.1)
    exact (heap_ne _ _ _ _ nML).trans (by simpa using e)
  · have hL7 : (w6.setCell ⟨M, 0, none⟩ (.string o.2.1)).heap[L]? = some (.cells #[.slice none 0 0] 25 (0, 0)) := (heap_ne _ _ _ _ (Ne.symm nML)).trans hL6
    have e := heap_set hL7 0 lv
    simpa using e
  · exact ownsRow_at h.left fun b hb => by have := (ownsRow_cells h.left hb).1; exact k b (by omega) (by omega) (by omega)

theorem run_append_none {P : Program} (w : World) (t ty e : TypeId) (i : TypeInfo) (c : Nat) (ht : P.underlying t = some (.slice e)) (hi : P.info? e = some i) :
    (Builtin.append_ #[t, t] ty #[.slice none 0 0, .slice none 0 c]).run P w = .ok (.slice none 0 0) w := by
  simp [Builtin.append_, Builtin.lenOf, Builtin.firstCells, run_underlying ht, sizeOf, typeInfo, hi, Result.andThen]
/-- A list of texts is appended to nothing, as one step of a region that draws its order. -/
theorem step_append_texts {P : Program} {w : World} {ops : Array Oper} {o : Oper} {a : Act} {K : Act → World → Prop} {Q : Exit → Act → World → Prop} {E : Prop} (hgd : o.guard = none) (s x : Operand) (t : TypeId)
    (ho : o.op = .call { callee := .builtin .append, args := #[s, x], argTypes := #[t, t] })
    (base : Nat) (e : TypeId) (i : TypeInfo) (z : Value) (ht : P.underlying t = some (.slice e)) (hi : P.info? e = some i) (hz : i.zero = some z)
    (hsize : i.size = 1) (hby : i.bytes = 16) (hzs : z.cells.size = 1) (hs : a.eval s = .slice none 0 0) (v : Value) (l : List ByteArray) (hx : a.eval x = v) (hv : Strs w v l) (hl : l.length ≤ 2147483647) (hbase : base ≤ w.heap.size)
    (h : ∀ v' w', w'.ownsRow base e 1 v' l.length (l.map .string) → w.grownBy w' none → K (a.put o.dst v') w') :
    if Region.wanted o (yielded ops a.tmps) = true then Oper.wp P o a w K Q else E := by
  obtain ⟨ad, c, rfl, hc⟩ := hv
  cases ad with
  | some ad =>
    refine step_append_own hgd s x t ho base e i z 1 16 ht hi hz hsize hby hzs (by omega) (.slice none 0 0) 0 [] hs ⟨rfl, .inl ⟨rfl, rfl⟩⟩ ad l.length c (l.map .string) hx (by rw [List.length_map]; omega) ?_ ?_ (by unfold maxLen; omega) (by omega) hbase ?_
    · intro j u hj
      rcases hc with rfl | ⟨b, off, cs, ty, fz, e1, e2, e3⟩
      · simp at hj
      · cases e1
        rw [List.getElem?_map, Option.map_eq_some_iff] at hj
        obtain ⟨y, hy, rfl⟩ := hj
        obtain ⟨hlt, rfl⟩ := List.getElem?_eq_some_iff.1 hy
        show w.cell? (Addr.add ⟨b, off, none⟩ j) = _
        have ea : (⟨b, off, none⟩ : Addr).add j = ⟨b, off + j, none⟩ := by unfold Addr.add; split <;> simp_all
        rw [ea]
        simp [World.cell?, e2, e3 j hlt]
    · exact texts_oneCell l
    · intro v' w' h1 h2
      rw [Nat.zero_add, List.nil_append] at h1
      exact h v' w' h1 h2
  | none =>
    have hl0 : l = [] := by
      rcases hc with h0 | ⟨b, off, cs, ty, fz, e1, -⟩
      · exact h0
      · cases e1
    subst hl0
    have hw : Region.wanted o (yielded ops a.tmps) = true := by simp [Region.wanted, hgd]
    rw [if_pos hw]
    unfold Oper.wp execOp
    simp only [ho, resolve, invoke, builtin, Sem.run_bind, Sem.run_pure, Result.andThen_ok, List.map_toArray, List.map_cons, List.map_nil, hs, hx, List.length_nil, run_append_none w t o.type e i c ht hi]
    exact h _ _ ⟨rfl, .inl ⟨rfl, rfl⟩⟩ ⟨rfl, rfl, rfl, Nat.le_refl _, fun _ _ _ => rfl⟩

set_option maxRecDepth 100000 in
set_option maxHeartbeats 3200000 in
theorem short1_any (B : Nat) (fv v : Value) (plain unk : Bool) (fold : Int) (s : SetD) (w : World) (hv : FlagRows w fv s.flags) (hp : s.plain = plain) (hu : s.unknown = unk) (hlo : s.lo = (fold == 1 || fold == 3)) (hda : s.da = (fold == 2 || fold == 3)) (R : RightP s s.flags)
    (t : ByteArray) (ht0 : 0 < t.size) (htz : t.size ≤ 4294967295) (l : List ByteArray) (ht : Texts w v l) (hs : ∀ t ∈ l, t.size ≤ 4294967295) (hl : l.length ≤ 2147483647)
    (h0 : w.heap[B]? = some (.cells #[fv, .bool plain, .bool unk, .int .i64 fold] 24 (0, 0))) (h1 : w.heap[B + 1]? = some (.cells #[.string t] 9 (0, 0))) (h2 : w.heap[B + 1 + 1]? = some (.cells #[v] 25 (0, 0)))
    (L X M : Nat) (hL : w.heap[L]? = some (.cells #[.slice none 0 0] 25 (0, 0))) (hX : w.heap[X]? = some (.cells zeroH 33 (0, 0))) (hM : w.heap[M]? = some (.cells #[.string ⟨#[]⟩] 9 (0, 0))) :
    Calls Try.prog 60 #[ptr B, ptr (B + 1), ptr (B + 1 + 1), ptr L, ptr X, ptr M] w fun e w' => e = .returned (.tuple #[]) ∧ ShortPut w w' L X M (shortF s .sets t l begin0) (chgU (shortF s .sets t l begin0).1.given s.flags.length) := by
  have c0 : w.cell? ⟨B, 0, none⟩ = some fv := by simp [World.cell?, h0]
  have c1 : w.cell? ⟨B, 1, none⟩ = some (.bool plain) := by simp [World.cell?, h0]
  have c2 : w.cell? ⟨B, 2, none⟩ = some (.bool unk) := by simp [World.cell?, h0]
  have c3 : w.cell? ⟨B, 3, none⟩ = some (.int .i64 fold) := by simp [World.cell?, h0]
  have hmf : ∀ (fn : Fn) (first cap : Array Value) (w : World), (Instr.makeFunc fn first cap).run Try.prog w = .ok (.func fn first cap) w := fun _ _ _ _ => rfl
  obtain ⟨fa, fc, rfl⟩ : ∃ a c, fv = .slice a s.flags.length c := by obtain ⟨a, c, e, _⟩ := hv; exact ⟨a, c, e⟩
  obtain ⟨va, vc, rfl, hvc⟩ := ht.len
  have CM := Lib.hid (made_any (.slice fa s.flags.length fc) s.flags plain unk fold w hv s rfl hp hu hlo hda R)
  go_enter Try.func60, Try.ntmps60
  go_wp2_with fail
  refine CM.out.mono ?_
  rintro e w1 ⟨D1, rfl, i1', fr', hfl', hbel', hbase'⟩
  clear c0 c1 c2 c3 CM
  obtain ⟨D, eW, i1, k1, hfl, hbel, hbase, hfin, hlen⟩ : ∃ D : St, D1.Wb = D.Wb ∧ Inv D w1 ∧ Runs D s .sets begin0 ∧ (D.flL = D.rs.map fun r => ptr r.fb) ∧ Below w.heap.size w D.w0 ∧ D.base = w.heap.size + 1 ∧ D.fin = false ∧ D.rs.length = s.flags.length :=
    ⟨{ D1 with fin := false }, rfl, i1'.fin false, fr'.shorted, hfl', hbel', hbase', rfl, fr'.ready.len⟩
  rw [eW]
  clear i1' fr' hfl' hbel' hbase' eW
  have HKB : Hid (∀ w' : World, Below D.base D.w0 w' → ∀ b, b < w.heap.size → w'.heap[b]? = w.heap[b]?) := Lib.hid fun w' h b hb => (h.block b (by rw [hbase]; omega)).trans (hbel.block b hb)
  have i2 := i1.later (Below.refl _ w1).drew
  have hfs : D.rs.length ≤ 2147483647 := by
    have := R.len
    omega
  have hgb : begin0.given.length ≤ 1099511627776 := Nat.zero_le _
  have CP := Lib.hid (zz_any (sets_hands (D0 := D)) i2 k1 rfl hgb t htz ht0 (.slice va l.length vc) l (ht.later hbel.block) hl hs)
  have d0 := i2.whCells.1
  have e1 := (HKB.out _ i2.bel _ (lt_of_block h1)).trans h1
  have e2 := (HKB.out _ i2.bel _ (lt_of_block h2)).trans h2
  have d1 : w1.drew.cell? ⟨B + 1, 0, none⟩ = some (.string t) := by simp only [World.cell?, e1]; rfl
  have d2 : w1.drew.cell? ⟨B + 1 + 1, 0, none⟩ = some (.slice va l.length vc) := by simp only [World.cell?, e2]; rfl
  have S1 := Lib.hid (And.intro d0 (And.intro d1 d2))
  have lX := lt_of_block hX
  have lM := lt_of_block hM
  have lL := lt_of_block hL
  have HV3 := Lib.hid (And.intro hX (And.intro hM hL))
  obtain ⟨o, ho⟩ : ∃ o, shortF s .sets t l begin0 = o := ⟨_, rfl⟩
  have hgl : o.1.given.length ≤ 1 := by
    have q := shortF_given s .sets t l begin0
    rw [ho] at q
    exact q
  have hal : o.1.args.length ≤ 1099511627776 := by
    have q := shortF_args s .sets t l begin0
    rw [ho] at q
    rw [q]; exact Nat.zero_le _
  have hll : o.2.2.length ≤ 2147483647 := by
    have q := (shortF_suffix s .sets t l begin0).length_le
    rw [ho] at q
    omega
  rw [ho] at CP
  have HO := Lib.hid ho
  have HBEL := Lib.hid hbel
  obtain ⟨ch, hch⟩ : ∃ ch, chgU o.1.given s.flags.length = ch := ⟨_, rfl⟩
  have NEXT : ∀ (w3 : World) (D' : St) (ev : Value), Inv D' w3 → Near D D' → Runs D' s .sets o.1 → ErrIs D' w3 ev o.1.err →
      Calls Try.prog 52 #[ptr D.Wb, ev, .int .i64 0] w3 fun e w' => (∃ gv av cv, e = .returned (.agg (hCells o.1.err o.1.dash false gv av cv)) ∧ HeardRows w' w3.heap.size gv av cv o.1 ch) ∧ Below w3.heap.size w3 w' := fun w3 D' ev j1 n1 r1 e1 => by
    have fl : D'.flL = D'.rs.map fun r => ptr r.fb := near_fl n1 hfl
    have ln : D'.rs.length ≤ 2147483647 := by
      have := congrArg List.length n1.rs
      simp only [List.length_map] at this
      omega
    have C := heard_any (x := o.1.err) j1 (by rw [r1.given]; omega) (by rw [r1.args]; exact hal) fl ln ev e1
    rw [n1.Wb] at C
    refine C.mono ?_
    rintro e w4 ⟨⟨gv, av, cv, rfl, hg, ha, hc⟩, hb⟩
    rw [chg_sets r1, hch] at hc
    rw [r1.given] at hg
    rw [r1.args] at ha
    exact ⟨⟨gv, av, cv, by rw [r1.dash, r1.parsed, (congrArg St.fin n1.eq).trans hfin], hg, ha, hc⟩, hb⟩
  have AT0 : ∀ (w3 : World) (D' : St), Inv D' w3 → Near D D' → Below w.heap.size w w3 ∧ w3.heap[X]? = some (.cells zeroH 33 (0, 0)) ∧ w3.heap[M]? = some (.cells #[.string ⟨#[]⟩] 9 (0, 0)) ∧ w3.heap[L]? = some (.cells #[.slice none 0 0] 25 (0, 0)) := fun w3 D' j1 n1 => by
    have hb3 : Below D.base D.w0 w3 := by
      have q := j1.bel
      rw [St.base, n1.w0] at q
      exact q
    exact ⟨HBEL.out.trans (hb3.mono (by rw [hbase]; omega)), (HKB.out _ hb3 _ lX).trans HV3.out.1, (HKB.out _ hb3 _ lM).trans HV3.out.2.1, (HKB.out _ hb3 _ lL).trans HV3.out.2.2⟩
  have HNEXT := Lib.hid NEXT
  have HAT0 := Lib.hid AT0
  have HT0 : Hid (∀ (w3 : World) (D' : St) (v' : Value), Inv D' w3 → Near D D' → Texts D.w0 v' o.2.2 → Strs w3 v' o.2.2) := Lib.hid fun w3 D' v' j1 n1 h => by
    have q := j1.bel
    rw [St.base, n1.w0] at q
    exact (h.later q.block).strs
  have HS3 : Hid (∀ (w3 : World) (D' : St), Inv D' w3 → Near D D' → w3.cell? ⟨D.Wb, 0, none⟩ = some (ptr D.F) ∧ w3.cell? ⟨B + 1, 0, none⟩ = some (.string t) ∧ w3.cell? ⟨B + 1 + 1, 0, none⟩ = some (.slice va l.length vc)) := Lib.hid fun w3 D' j1 n1 => by
    have q := j1.whCells.1
    rw [n1.Wb, n1.F] at q
    have hb3 : Below D.base D.w0 w3 := by
      have q := j1.bel
      rw [St.base, n1.w0] at q
      exact q
    have f1 := (HKB.out _ hb3 _ (lt_of_block h1)).trans h1
    have f2 := (HKB.out _ hb3 _ (lt_of_block h2)).trans h2
    exact ⟨q, by simp only [World.cell?, f1]; rfl, by simp only [World.cell?, f2]; rfl⟩
  -- heard first, then the arguments left; or the other way round
  have HA : Hid (∀ (w3 w4 w5 : World) (D' : St) (gv av cv lv : Value), Inv D' w3 → Near D D' → Below w3.heap.size w3 w4 → HeardRows w4 w3.heap.size gv av cv o.1 ch → w5.ownsRow w.heap.size 9 1 lv o.2.2.length (o.2.2.map .string) → w4.grownBy w5 none → ShortAt w w5 L X M o ch gv av cv lv) := Lib.hid fun w3 w4 w5 D' gv av cv lv j1 n1 hb hr hl hg => by
    obtain ⟨q1, q2, q3, q4⟩ := AT0 w3 D' j1 n1
    have k : ∀ b, b < w3.heap.size → w5.heap[b]? = w3.heap[b]? := fun b hb' => (hg.block b (Nat.lt_of_lt_of_le hb' hb.size) (by simp)).trans (hb.block b hb')
    have hb4 := Below.after q1 hb
    refine ⟨hb4.trans (grownBy_below hg (fun k hk => by cases hk) hb4.size), (k _ (lt_of_block q2)).trans q2, (k _ (lt_of_block q3)).trans q3, (k _ (lt_of_block q4)).trans q4, ?_, hl⟩
    obtain ⟨h1, h2, h3⟩ := hr
    have up : ∀ {e : TypeId} {z n : Nat} {v : Value} {xs : List Value}, w4.ownsRow w3.heap.size e z v n xs → w5.ownsRow w.heap.size e z v n xs := fun h => row_lower (ownsRow_at h fun b hb' => by obtain ⟨_, c, hc⟩ := ownsRow_cells h hb'; exact hg.block b (lt_of_block hc) (by simp)) q1.size
    exact ⟨up h1, up h2, up h3⟩
  have HB : Hid (∀ (w3 w4 w5 : World) (D' : St) (gv av cv lv : Value), Inv D' w3 → Near D D' → w4.ownsRow w.heap.size 9 1 lv o.2.2.length (o.2.2.map .string) → w3.grownBy w4 none → Below w4.heap.size w4 w5 → HeardRows w5 w4.heap.size gv av cv o.1 ch → ShortAt w w5 L X M o ch gv av cv lv) := Lib.hid fun w3 w4 w5 D' gv av cv lv j1 n1 hl hg hb hr => by
    obtain ⟨q1, q2, q3, q4⟩ := AT0 w3 D' j1 n1
    have hb4 : Below w.heap.size w w4 := q1.trans (grownBy_below hg (fun k hk => by cases hk) q1.size)
    have k : ∀ b, b < w3.heap.size → w5.heap[b]? = w3.heap[b]? := fun b hb' => (hb.block b (Nat.lt_of_lt_of_le hb' hg.size)).trans (hg.block b hb' (by simp))
    refine ⟨Below.after hb4 hb, (k _ (lt_of_block q2)).trans q2, (k _ (lt_of_block q3)).trans q3, (k _ (lt_of_block q4)).trans q4, ?_, ?_⟩
    · obtain ⟨h1, h2, h3⟩ := hr
      exact ⟨row_lower h1 hb4.size, row_lower h2 hb4.size, row_lower h3 hb4.size⟩
    · exact ownsRow_at hl fun b hb' => by obtain ⟨_, c, hc⟩ := ownsRow_cells hl hb'; exact hb.block b (lt_of_block hc)
  have HG : Hid (∀ (w3 w4 : World) (D' : St) (ev : Value), Inv D' w3 → ErrIs D' w3 ev o.1.err → w3.grownBy w4 none → Inv D' w4 ∧ ErrIs D' w4 ev o.1.err) := Lib.hid fun w3 w4 D' ev j1 e1 hg => by
    have hb : Below w3.heap.size w3 w4 := grownBy_below hg (fun k hk => by cases hk) (Nat.le_refl _)
    exact ⟨j1.later hb, e1.later hb⟩
  have HCH := Lib.hid hch
  clear NEXT AT0 d0 d1 d2 e1 e2 ho h0 h1 h2 hv ht hs i1 i2 hbel hL hX hM hch k1 hfl hfs
  go_upto_region 1 with fail
  have q0 := S1.out.1
  have q1 := S1.out.2.1
  have q2 := S1.out.2.2
  go_cut [6, 7, 8, 9] from 10 to 24 (fun v6 v7 v8 v9 wx => ∃ D', v6 = ptr D.Wb ∧ v7 = .string o.2.1 ∧ Inv D' wx ∧ Near D D' ∧ Runs D' s .sets o.1 ∧ ErrIs D' wx v9 o.1.err ∧ Texts D.w0 v8 o.2.2)
  case first =>
    go_region_held3 (fun wx => wx.cell? ⟨D.Wb, 0, none⟩ = some (ptr D.F) ∧ wx.cell? ⟨B + 1, 0, none⟩ = some (.string t) ∧ wx.cell? ⟨B + 1 + 1, 0, none⟩ = some (.slice va l.length vc))
      (first | (with_reducible exact S1.out) | (with_reducible exact HS3.out _ _ j1 n1))
      (first | (go_simp; go_at_call 61; refine CP.out.mono ?_; rintro e w3 ⟨v', ev, D', rfl, j1, n1, r1, e1, t1⟩))
    all_goals (go_wp2_with fail)
    all_goals go_meet
    all_goals exact ⟨D', rfl, rfl, j1, n1, r1, e1, t1⟩
  case rest =>
  obtain ⟨D', rfl, rfl, j1, n1, r1, e1, t1⟩ := hcut
  obtain ⟨i0, hi0, hz0, hz1, hz2⟩ := info_parts infoT
  have jd := j1.later (Below.refl _ wc).drew
  have ed := e1.later (Below.refl _ wc).drew
  have sd := HT0.out _ _ _ jd n1 t1
  obtain ⟨z0, z1, z2, z3⟩ := HAT0.out _ _ jd n1
  have hzs := z0.size
  have yl := cell_of z3 0 (.slice none 0 0) rfl
  have HZ3 := Lib.hid z3
  have HLT := Lib.hid (And.intro lX (And.intro lM lL))
  clear z0 z1 z2 z3 q0 q1 q2 CP S1 HS3 HV3 HKB
  go_wp2_with fail
  go_region_law (first
    | (go_simp; go_at_call 52; refine (HNEXT.out _ D' _ jd n1 r1 ed).mono ?_; rintro e w4 ⟨⟨gv, av, cv, rfl, hr4⟩, hb4⟩; obtain ⟨ga, gc, rfl⟩ := row_form hr4.1; obtain ⟨aa, ac, rfl⟩ := row_form hr4.2.1; obtain ⟨ca, cc, rfl⟩ := row_form hr4.2.2; simp only [hCells]; have S4 := Strs.later sd hb4.block; have yl4 := cell_of ((hb4.block _ (lt_of_block HZ3.out)).trans HZ3.out) 0 (.slice none 0 0) rfl)
    | (refine step_append_texts (by rfl) _ _ _ (by rfl) w.heap.size 9 i0 _ Try.underlying25 hi0 hz0 hz1 hz2 rfl (by rfl) _ o.2.2 (by rfl) S4 hll (Nat.le_trans hzs hb4.size) ?_; intro nv w5 hown hgrow; obtain ⟨na, nc, rfl⟩ := row_form hown; have hA := HA.out _ _ _ _ _ _ _ _ jd n1 hb4 hr4 hown hgrow; have x0 := cell_of hA.hX 0 (.int .i64 0) rfl; have x1 := cell_of hA.hX 1 (.string ⟨#[]⟩) rfl; have x2 := cell_of hA.hX 2 (.string ⟨#[]⟩) rfl; have x3 := cell_of hA.hX 3 (.string ⟨#[]⟩) rfl; have x4 := cell_of hA.hX 4 (.int .i64 0) rfl; have x5 := cell_of hA.hX 5 (.slice none 0 0) rfl; have x6 := cell_of hA.hX 6 (.slice none 0 0) rfl; have x7 := cell_of hA.hX 7 (.int .i64 0) rfl; have x8 := cell_of hA.hX 8 (.slice none 0 0) rfl; have x9 := cell_of hA.hX 9 (.bool false) rfl; have x10 := cell_of hA.hX 10 (.bool false) rfl; have nXM := cells_ne hA.hX hA.hM (by decide); have nXL := cells_ne hA.hX hA.hL (by decide); have nML := cells_ne hA.hM hA.hL (by decide); have nMX := Ne.symm nXM; have nLX := Ne.symm nXL; have nLM := Ne.symm nML; have xm := cell_of hA.hM 0 (.string ⟨#[]⟩) rfl; have xl := cell_of hA.hL 0 (.slice none 0 0) rfl; have xf : ∀ i, w5.frozen? ⟨X, i, none⟩ = false := fun i => (by simp [World.frozen?, hA.hX]); have mf : ∀ i, w5.frozen? ⟨M, i, none⟩ = false := fun i => (by simp [World.frozen?, hA.hM]); have lf : ∀ i, w5.frozen? ⟨L, i, none⟩ = false := fun i => (by simp [World.frozen?, hA.hL])))
  all_goals (go_wp2_with fail)
  all_goals go_end0
  all_goals rw [HO.out, HCH.out]
  all_goals exact ⟨rfl, hA.put HLT.out.1 HLT.out.2.1 HLT.out.2.2⟩
end Go.Proofs.Ytcpjdgbnfjdakaa
