/- The reference's run in memory, and the walks of gives, wants, unknown. -/
import Derived.Test.YtcpjdgbnfjdakaaSpecB
import Derived.Test.YtcpjdgbnfjdakaaErrs
namespace Go.Proofs.Ytcpjdgbnfjdakaa
open Go.RowKit
set_option linter.unusedVariables false
set_option linter.unusedSimpArgs false

/-- What a run of the reference holds. -/
structure SSt where
  w0 : World
  X : Nat
  fv : Value
  plain : Bool
  unk : Bool
  fold : Int
  parsed : Bool
  all : Bool
  badV : Value

def SSt.base (K : SSt) : Nat := K.w0.heap.size
def runCells (K : SSt) (gv av : Value) (r : RunD) : Array Value := #[K.fv, .bool K.plain, .bool K.unk, .int .i64 K.fold, .int .i64 r.err.kind, .string r.err.name, .string r.err.shorts, .string r.err.value, .int .i64 r.err.place, gv, av, .int .i64 r.dash, .slice none 0 0, .bool K.parsed, .bool false, .bool K.all, K.badV, .nilFunc]

/-- A run in a world. -/
structure SIn (K : SSt) (gv av : Value) (r : RunD) (w : World) : Prop where
  bel : Below K.base K.w0 w
  hX : w.heap[K.X]? = some (.cells (runCells K gv av r) 47 (0, 0))
  bX : K.base ≤ K.X
  rG : w.ownsRow K.base 94 2 gv r.given.length (flat r.given)
  rA : w.ownsRow K.base 9 1 av r.args.length (r.args.map .string)

def SInv (K : SSt) (r : RunD) (w : World) : Prop := ∃ gv av, SIn K gv av r w

/-- The set that a run speaks of. -/
structure SOk (K : SSt) (s : SetD) (way : Way) : Prop where
  hf : FlagRows K.w0 K.fv s.flags
  hp : s.plain = K.plain
  hu : s.unknown = K.unk
  hlo : s.lo = (bits .and .i64 K.fold 1 == 1)
  hda : s.da = (bits .and .i64 K.fold 2 == 2)
  len : s.flags.length ≤ 2147483647
  small : ∀ f ∈ s.flags, f.name.size ≤ 2147483647 ∧ f.short.size ≤ 2147483647 ∧ f.noopt.size ≤ 2147483647 ∧ f.bad.length ≤ 2147483647
  hw : (way = .sets ∧ K.all = false) ∨ (∃ bad, way = .hands bad ∧ K.all = true ∧ Strs K.w0 K.badV bad ∧ bad.length ≤ 2147483647)

theorem SOk.parsed {K : SSt} {s : SetD} {way : Way} (h : SOk K s way) (b : Bool) : SOk { K with parsed := b } s way := ⟨h.hf, h.hp, h.hu, h.hlo, h.hda, h.len, h.small, h.hw⟩

theorem SIn.later {K : SSt} {gv av : Value} {r : RunD} {w w' : World} (h : SIn K gv av r w) (hb : Below w.heap.size w w') : SIn K gv av r w' where
  bel := h.bel.trans (hb.mono h.bel.size)
  hX := (hb.block _ (lt_of_block h.hX)).trans h.hX
  bX := h.bX
  rG := ownsRow_at h.rG fun g hg => by obtain ⟨_, c, hc⟩ := ownsRow_cells h.rG hg; exact hb.block g (lt_of_block hc)
  rA := ownsRow_at h.rA fun g hg => by obtain ⟨_, c, hc⟩ := ownsRow_cells h.rA hg; exact hb.block g (lt_of_block hc)

/-- A cell of the run. -/
theorem SIn.cell {K : SSt} {gv av : Value} {r : RunD} {w : World} (h : SIn K gv av r w) (i : Nat) (v : Value) (hv : (runCells K gv av r)[i]? = some v) : w.cell? ⟨K.X, i, none⟩ = some v := by
  simp [World.cell?, h.hX, hv]
theorem SIn.free {K : SSt} {gv av : Value} {r : RunD} {w : World} (h : SIn K gv av r w) (i : Nat) : w.frozen? ⟨K.X, i, none⟩ = false := by
  simp [World.frozen?, h.hX]

/-- A cell of the run is written: what is told of the lists stays. -/
theorem SIn.put {K K' : SSt} {gv av gv' av' : Value} {r r' : RunD} {w : World} (h : SIn K gv av r w) (i : Nat) (v : Value) (hc : (runCells K gv av r).setIfInBounds i v = runCells K' gv' av' r') (e0 : K'.w0 = K.w0) (e1 : K'.X = K.X)
    (hg : w.ownsRow K.base 94 2 gv' r'.given.length (flat r'.given)) (ha : w.ownsRow K.base 9 1 av' r'.args.length (r'.args.map .string)) : SIn K' gv' av' r' (w.setCell ⟨K.X, i, none⟩ v) := by
  have eb : K'.base = K.base := by rw [SSt.base, e0]; rfl
  refine ⟨?_, ?_, ?_, ?_, ?_⟩
  · rw [eb, e0]; exact h.bel.setCell h.bX _
  · rw [e1, heap_set h.hX, hc]
  · rw [eb, e1]; exact h.bX
  · rw [eb]
    exact ownsRow_at hg fun g hg' => by obtain ⟨_, c, hc⟩ := ownsRow_cells hg hg'; exact heap_ne w _ _ g (Ne.symm (cells_ne h.hX hc (by decide)))
  · rw [eb]
    exact ownsRow_at ha fun g hg' => by obtain ⟨_, c, hc⟩ := ownsRow_cells ha hg'; exact heap_ne w _ _ g (Ne.symm (cells_ne h.hX hc (by decide)))

/-- A run whose cells are being written. -/
structure SC (K : SSt) (gv av : Value) (r : RunD) (cells : Array Value) (w : World) : Prop where
  bel : Below K.base K.w0 w
  hX : w.heap[K.X]? = some (.cells cells 47 (0, 0))
  bX : K.base ≤ K.X
  rG : w.ownsRow K.base 94 2 gv r.given.length (flat r.given)
  rA : w.ownsRow K.base 9 1 av r.args.length (r.args.map .string)
theorem SIn.sc {K : SSt} {gv av : Value} {r : RunD} {w : World} (h : SIn K gv av r w) : SC K gv av r (runCells K gv av r) w := ⟨h.bel, h.hX, h.bX, h.rG, h.rA⟩
theorem SC.put {K : SSt} {gv av : Value} {r : RunD} {cells : Array Value} {w : World} (h : SC K gv av r cells w) (i : Nat) (v : Value) : SC K gv av r (cells.setIfInBounds i v) (w.setCell ⟨K.X, i, none⟩ v) :=
  ⟨h.bel.setCell h.bX _, heap_set h.hX i v, h.bX,
    ownsRow_at h.rG fun g hg' => by obtain ⟨_, c, hc⟩ := ownsRow_cells h.rG hg'; exact heap_ne w _ _ g (Ne.symm (cells_ne h.hX hc (by decide))),
    ownsRow_at h.rA fun g hg' => by obtain ⟨_, c, hc⟩ := ownsRow_cells h.rA hg'; exact heap_ne w _ _ g (Ne.symm (cells_ne h.hX hc (by decide)))⟩
theorem SC.done {K K' : SSt} {gv av : Value} {r r' : RunD} {cells : Array Value} {w : World} (h : SC K gv av r cells w) (hc : cells = runCells K' gv av r') (eg : r'.given = r.given) (ea : r'.args = r.args) (e0 : K'.w0 = K.w0) (e1 : K'.X = K.X) : SIn K' gv av r' w := by
  have eb : K'.base = K.base := by rw [SSt.base, e0]; rfl
  exact ⟨by rw [eb, e0]; exact h.bel, by rw [e1, h.hX, hc], by rw [eb, e1]; exact h.bX, by rw [eb, eg]; exact h.rG, by rw [eb, ea]; exact h.rA⟩

/-- The run behind an append to what was given, ahead of its store. -/
theorem SIn.grownG {K : SSt} {gv av : Value} {r : RunD} {w w2 : World} (h : SIn K gv av r w) {o : Obj} (hg : (w.alloc o).grownBy w2 gv.ownBlock) (nv : Value) (g' : List (Nat × ByteArray)) (hr : w2.ownsRow K.base 94 2 nv g'.length (flat g')) :
    (w2.cell? ⟨K.X, 9, none⟩ = some gv ∧ w2.frozen? ⟨K.X, 9, none⟩ = false) ∧ SIn K nv av { r with given := g' } (w2.setCell ⟨K.X, 9, none⟩ nv) := by
  have h1 := h.later ((Below.refl _ w).alloc (Nat.le_refl _) o)
  have kp := grownBy_keep hg
  have hX : w2.heap[K.X]? = some (.cells (runCells K gv av r) 47 (0, 0)) := (kp _ (lt_of_block h1.hX) (ne_rowX h1.hX h1.rG (by decide))).trans h1.hX
  have i2 : Below K.base K.w0 w2 := h1.bel.trans (grownBy_below hg (fun k hk => (ownsRow_cells h1.rG hk).1) h1.bel.size)
  have ra : w2.ownsRow K.base 9 1 av r.args.length (r.args.map .string) := ownsRow_at h1.rA fun g hg' => by
    obtain ⟨_, c, hc⟩ := ownsRow_cells h1.rA hg'
    exact kp g (lt_of_block hc) (fun e => rows_ne_rowX h1.rA h1.rG (.inl (by decide)) (by rw [← e]; exact hg'))
  refine ⟨⟨by simp [World.cell?, hX, runCells], by simp [World.frozen?, hX]⟩, i2.setCell h.bX _, ?_, h.bX, ?_, ?_⟩
  · rw [heap_set hX]; rfl
  · exact ownsRow_at hr fun g hg' => by obtain ⟨_, c, hc⟩ := ownsRow_cells hr hg'; exact heap_ne w2 _ _ g (Ne.symm (cells_ne hX hc (by decide)))
  · exact ownsRow_at ra fun g hg' => by obtain ⟨_, c, hc⟩ := ownsRow_cells ra hg'; exact heap_ne w2 _ _ g (Ne.symm (cells_ne hX hc (by decide)))
/-- The same of the arguments. -/
theorem SIn.grownA {K : SSt} {gv av : Value} {r : RunD} {w w2 : World} (h1 : SIn K gv av r w) (hg : w.grownBy w2 av.ownBlock) (nv : Value) (a' : List ByteArray) (hr : w2.ownsRow K.base 9 1 nv a'.length (a'.map .string)) :
    (w2.cell? ⟨K.X, 10, none⟩ = some av ∧ w2.frozen? ⟨K.X, 10, none⟩ = false) ∧ SIn K gv nv { r with args := a' } (w2.setCell ⟨K.X, 10, none⟩ nv) := by
  have kp := grownBy_keep hg
  have hX : w2.heap[K.X]? = some (.cells (runCells K gv av r) 47 (0, 0)) := (kp _ (lt_of_block h1.hX) (ne_rowX h1.hX h1.rA (by decide))).trans h1.hX
  have i2 : Below K.base K.w0 w2 := h1.bel.trans (grownBy_below hg (fun k hk => (ownsRow_cells h1.rA hk).1) h1.bel.size)
  have rg : w2.ownsRow K.base 94 2 gv r.given.length (flat r.given) := ownsRow_at h1.rG fun g hg' => by
    obtain ⟨_, c, hc⟩ := ownsRow_cells h1.rG hg'
    exact kp g (lt_of_block hc) (fun e => rows_ne_rowX h1.rG h1.rA (.inl (by decide)) (by rw [← e]; exact hg'))
  refine ⟨⟨by simp [World.cell?, hX, runCells], by simp [World.frozen?, hX]⟩, i2.setCell h1.bX _, ?_, h1.bX, ?_, ?_⟩
  · rw [heap_set hX]; rfl
  · exact ownsRow_at rg fun g hg' => by obtain ⟨_, c, hc⟩ := ownsRow_cells rg hg'; exact heap_ne w2 _ _ g (Ne.symm (cells_ne hX hc (by decide)))
  · exact ownsRow_at hr fun g hg' => by obtain ⟨_, c, hc⟩ := ownsRow_cells hr hg'; exact heap_ne w2 _ _ g (Ne.symm (cells_ne hX hc (by decide)))

/-- A flag's definition in the run's base. -/
theorem SOk.row {K : SSt} {s : SetD} {way : Way} (ok : SOk K s way) {gv av : Value} {r : RunD} {w : World} (h : SIn K gv av r w) {i : Nat} (hi : i < s.flags.length) : ∃ a cap b off ba bc, K.fv = .slice (some a) s.flags.length cap ∧ a = ⟨b, off, none⟩ ∧
    w.cell? ⟨b, off + i * 4 + 2, none⟩ = some (.string s.flags[i].noopt) ∧ w.cell? ⟨b, off + i * 4 + 3, none⟩ = some (.slice ba s.flags[i].bad.length bc) ∧ Strs w (.slice ba s.flags[i].bad.length bc) s.flags[i].bad := by
  obtain ⟨a, cap, e⟩ := ok.hf.len
  have hf := ok.hf
  rw [e] at hf
  obtain ⟨b, off, ba, bc, rfl, _, _, _, p2, p3, p4⟩ := (hf.later h.bel.block).row hi
  exact ⟨_, cap, b, off, ba, bc, e, rfl, p2, p3, p4⟩

theorem badOf_at {s : SetD} {i : Nat} (hi : i < s.flags.length) : s.badOf i = s.flags[i].bad := by simp [SetD.badOf, hi]
theorem nooptOf_at {s : SetD} {i : Nat} (hi : i < s.flags.length) : s.nooptOf i = s.flags[i].noopt := by simp [SetD.nooptOf, hi]

theorem nilFunc_neq (w : World) : Sem.run Try.prog (binOp BinOp.neq 45 Value.nilFunc Value.nilFunc) w = .ok (.bool false) w := by kernel_rfl

set_option maxRecDepth 100000 in
set_option maxHeartbeats 1600000 in
theorem gives_any {K : SSt} {s : SetD} {way : Way} (ok : SOk K s way) {r : RunD} {w : World} (h : SInv K r w) (he : r.err = .none) (i : Nat) (hi : i < s.flags.length) (v : ByteArray) (hg : r.given.length ≤ 1099511627776) :
    Calls Try.prog 65 #[ptr K.X, .int .i64 i, .string v] w fun e w' => e = .returned (.tuple #[]) ∧ SInv K (giveF s way i v r) w' := by
  obtain ⟨gv, av, h⟩ := h
  obtain ⟨i0, hi0, hz0, hz1, hz2⟩ := info_parts infoG
  have c0 := h.cell 0 K.fv rfl
  have c4 := h.cell 4 (.int .i64 r.err.kind) rfl
  have c7 := h.cell 7 (.string r.err.value) rfl
  have c8 := h.cell 8 (.int .i64 r.err.place) rfl
  have c9 := h.cell 9 gv rfl
  have c15 := h.cell 15 (.bool K.all) rfl
  have c16 := h.cell 16 K.badV rfl
  have c17 := h.cell 17 .nilFunc rfl
  have f4 := h.free 4
  have f7 := h.free 7
  have f8 := h.free 8
  have nf := nilFunc_neq
  have hlen := ok.len
  rcases ok.hw with ⟨hway, hall⟩ | ⟨bad, hway, hall, hbad, hbl⟩
  · subst hway
    rw [hall] at c15
    obtain ⟨a, cap, b, off, ba, bc, e, rfl, p2, p3, p4⟩ := ok.row h hi
    have hsm := (ok.small _ (List.getElem_mem hi)).2.2.2
    have hgf : giveF s .sets i v r = if hasB s.flags[i].bad v then { r with err := .invalid i v } else { r with given := r.given ++ [(i, v)] } := by rw [giveF, badOf_at hi]
    have HG := Lib.hid hgf
    rw [e] at c0
    clear hgf p2
    generalize s.flags[i].bad = bl at *
    go_enter Try.func65, Try.ntmps65
    go_wp2_with fail
    refine (hasS_any _ bl v _ p4 hsm).mono ?_
    rintro e w1 ⟨rfl, rfl⟩
    cases hb : hasB bl v with
    | true =>
      have HE : Hid (giveF s .sets i v r = { r with err := .invalid i v }) := Lib.hid (by rw [HG.out, hb]; rfl)
      have E : SIn K gv av { r with err := .invalid i v } (((w1.setCell ⟨K.X, 4, none⟩ (.int .i64 4)).setCell ⟨K.X, 8, none⟩ (.int .i64 i)).setCell ⟨K.X, 7, none⟩ (.string v)) :=
        (((h.sc.put 4 _).put 8 _).put 7 _).done (by unfold runCells; rw [he]; rfl) rfl rfl rfl rfl
      go_wp2_with fail
      go_end0
      rw [HE.out]
      exact ⟨rfl, _, _, E⟩
    | false =>
      have HE : Hid (giveF s .sets i v r = { r with given := r.given ++ [(i, v)] }) := Lib.hid (by rw [HG.out, hb]; rfl)
      go_wp2_with (
        at_builtin
        refine wpList_append_lies _ (by rfl) _ _ _ (by rfl) K.base 94 i0 _ 2 24 Try.underlying30 hi0 hz0 hz1 hz2 rfl (by omega) gv r.given.length (flat r.given) (by rfl) (h.rG.alloc _)
          ⟨w1.heap.size, 0, none⟩ 1 1 [.int .i64 i, .string v] (by rfl) (by rfl) (World.news_of_block (cs := #[.int .i64 i, .string v]) (t := 94) (fr := (0, 0)) (heap_alloc_new w1 _)) (by simp [Value.oneCell'])
          (by omega) (by unfold maxLen; omega) (by omega) (by have := h.bel.size; simp only [World.size_alloc]; exact Nat.le_succ_of_le this) (w1.heap.size + 1) (by simp only [World.size_alloc]) ?_
        intro gg cap w2 hown1 hgrow hat hlt
        obtain ⟨⟨f1, f2⟩, yI⟩ := h.grownG hgrow _ (r.given ++ [(i, v)]) (by simpa [flat] using hown1))
      go_end0
      rw [HE.out]
      exact ⟨rfl, _, _, yI⟩
  · subst hway
    rw [hall] at c15
    have HE : Hid (giveF s (.hands bad) i v r = { r with given := r.given ++ [(i, v)], err := if hasB bad v then .other else r.err }) := Lib.hid rfl
    go_enter Try.func65, Try.ntmps65
    go_wp2_with (
      at_builtin
      refine wpList_append_lies _ (by rfl) _ _ _ (by rfl) K.base 94 i0 _ 2 24 Try.underlying30 hi0 hz0 hz1 hz2 rfl (by omega) gv r.given.length (flat r.given) (by rfl) (h.rG.alloc _)
        ⟨w.heap.size, 0, none⟩ 1 1 [.int .i64 i, .string v] (by rfl) (by rfl) (World.news_of_block (cs := #[.int .i64 i, .string v]) (t := 94) (fr := (0, 0)) (heap_alloc_new w _)) (by simp [Value.oneCell'])
        (by omega) (by unfold maxLen; omega) (by omega) (by have := h.bel.size; simp only [World.size_alloc]; exact Nat.le_succ_of_le this) (w.heap.size + 1) (by simp only [World.size_alloc]) ?_
      intro gg cap w2 hown1 hgrow hat hlt
      obtain ⟨⟨f1, f2⟩, yI⟩ := h.grownG hgrow _ (r.given ++ [(i, v)]) (by simpa [flat] using hown1)
      have d16 := yI.cell 16 K.badV rfl
      have d4 := yI.cell 4 (.int .i64 r.err.kind) rfl
      have z4 := yI.free 4)
    refine (hasS_any _ bad v _ (hbad.later yI.bel.block) hbl).mono ?_
    rintro e w3 ⟨rfl, rfl⟩
    cases hb : hasB bad v with
    | true =>
      have E := (yI.sc.put 4 (.int .i64 6)).done (K' := K) (r' := { r with given := r.given ++ [(i, v)], err := .other }) (by unfold runCells; rw [he]; rfl) rfl rfl rfl rfl
      go_wp2_with fail
      go_end0
      rw [HE.out, hb]
      exact ⟨rfl, _, _, E⟩
    | false =>
      go_wp2_with fail
      go_end0
      rw [HE.out, hb]
      exact ⟨rfl, _, _, yI⟩

theorem wants_any {K : SSt} {s : SetD} {way : Way} (ok : SOk K s way) {r : RunD} {w : World} (h : SInv K r w) (he : r.err = .none) (i : Nat) (hi : i < s.flags.length) (name shorts : ByteArray) (v : Value) (l : List ByteArray) (hv : Texts K.w0 v l) (hl : l.length ≤ 2147483647) (hg : r.given.length ≤ 1099511627776) :
    Calls Try.prog 66 #[ptr K.X, .int .i64 i, .string name, .string shorts, v] w fun e w' => ∃ v', e = .returned v' ∧ SInv K (wantsF s way i name shorts l r).1 w' ∧ Texts K.w0 v' (wantsF s way i name shorts l r).2 := by
  obtain ⟨a, cap, rfl, hcap⟩ := hv.len
  cases l with
  | nil =>
    obtain ⟨gv, av, h⟩ := h
    have c4 := h.cell 4 (.int .i64 r.err.kind) rfl
    have c5 := h.cell 5 (.string r.err.name) rfl
    have c6 := h.cell 6 (.string r.err.shorts) rfl
    have c8 := h.cell 8 (.int .i64 r.err.place) rfl
    have f4 := h.free 4
    have f5 := h.free 5
    have f6 := h.free 6
    have f8 := h.free 8
    have E : SIn K gv av { r with err := .valueReq i name shorts } ((((w.setCell ⟨K.X, 4, none⟩ (.int .i64 3)).setCell ⟨K.X, 8, none⟩ (.int .i64 i)).setCell ⟨K.X, 5, none⟩ (.string name)).setCell ⟨K.X, 6, none⟩ (.string shorts)) :=
      ((((h.sc.put 4 _).put 8 _).put 5 _).put 6 _).done (by unfold runCells; rw [he]; rfl) rfl rfl rfl rfl
    go_enter Try.func66, Try.ntmps66
    go_wp2_with fail
    go_ret
    exact ⟨_, rfl, ⟨_, _, E⟩, hv⟩
  | cons x l =>
    obtain ⟨b, off, A, rfl, hn, hc1, hc0, hA, ht⟩ := hv.tail
    have hk := h.choose_spec.choose_spec.bel.block
    have hc : w.cell? ⟨b, off, none⟩ = some (.string x) := (World.cell?_of_block (hk b (World.block_lt_of_cell? K.w0 _ hc0))).trans hc0
    clear hc0 hk
    have HT := Lib.hid ht
    clear hn ht hv
    simp only [List.length_cons] at hl
    have HGV := Lib.hid (gives_any ok h he i hi x hg)
    clear h
    by_cases h1 : 0 < l.length
    · go_enter Try.func66, Try.ntmps66
      go_wp2_with fail
      refine HGV.out.mono ?_
      rintro e w1 ⟨rfl, h1⟩
      go_wp2_with fail
      go_ret
      exact ⟨_, rfl, h1, HT.out⟩
    · have hl0 : l = [] := List.length_eq_zero_iff.1 (by omega)
      subst hl0
      go_enter Try.func66, Try.ntmps66
      go_wp2_with fail
      refine HGV.out.mono ?_
      rintro e w1 ⟨rfl, h1⟩
      go_wp2_with fail
      go_ret
      exact ⟨_, rfl, h1, HT.out⟩

/-- No such flag: what is told, and whether it is let by. -/
def unknownF (s : SetD) (help : Bool) (name shorts : ByteArray) (r : RunD) : RunD × Bool :=
  if help then ({ r with err := .help }, false) else if s.unknown then (r, true) else ({ r with err := .notExist name shorts }, false)

theorem unknown_any {K : SSt} {s : SetD} {way : Way} (ok : SOk K s way) {r : RunD} {w : World} (h : SInv K r w) (he : r.err = .none) (help : Bool) (name shorts : ByteArray) :
    Calls Try.prog 63 #[ptr K.X, .bool help, .string name, .string shorts] w fun e w' => e = .returned (.bool (unknownF s help name shorts r).2) ∧ SInv K (unknownF s help name shorts r).1 w' := by
  obtain ⟨gv, av, h⟩ := h
  have c2 := h.cell 2 (.bool K.unk) rfl
  rw [← ok.hu] at c2
  have c4 := h.cell 4 (.int .i64 r.err.kind) rfl
  have c5 := h.cell 5 (.string r.err.name) rfl
  have c6 := h.cell 6 (.string r.err.shorts) rfl
  have f4 := h.free 4
  have f5 := h.free 5
  have f6 := h.free 6
  cases help with
  | true =>
    have E := (h.sc.put 4 (.int .i64 1)).done (K' := K) (r' := { r with err := .help }) (by unfold runCells; rw [he]; rfl) rfl rfl rfl rfl
    go_enter Try.func63, Try.ntmps63
    go_wp2_with fail
    go_ret
    exact ⟨rfl, _, _, E⟩
  | false =>
    cases hu : s.unknown with
    | true =>
      have HE : Hid (unknownF s false name shorts r = (r, true)) := Lib.hid (by simp [unknownF, hu])
      rw [hu] at c2
      go_enter Try.func63, Try.ntmps63
      go_wp2_with fail
      go_ret
      rw [HE.out]
      exact ⟨rfl, _, _, h⟩
    | false =>
      have HE : Hid (unknownF s false name shorts r = ({ r with err := .notExist name shorts }, false)) := Lib.hid (by simp [unknownF, hu])
      rw [hu] at c2
      have E := (((h.sc.put 4 (.int .i64 2)).put 5 (.string name)).put 6 (.string shorts)).done (K' := K) (r' := { r with err := .notExist name shorts }) (by unfold runCells; rw [he]; rfl) rfl rfl rfl rfl
      go_enter Try.func63, Try.ntmps63
      go_wp2_with fail
      go_ret
      rw [HE.out]
      exact ⟨rfl, _, _, E⟩
end Go.Proofs.Ytcpjdgbnfjdakaa
