/- The walks of (*FlagSet).Parse and ParseAll. -/
import Derived.Test.YtcpjdgbnfjdakaaArgs
import Derived.Laws.MakeOwn
namespace Go.Proofs.Ytcpjdgbnfjdakaa
open Go.RowKit
set_option linter.unusedVariables false
set_option linter.unusedSimpArgs false

/-- A set that is ready and fresh. -/
structure Fresh (D : St) (s : SetD) : Prop where
  ready : Ready D s
  given : D.given = []
  oa : D.oaL = []
  chg : ∀ (i : Nat) (x : FlagR), D.rs[i]? = some x → x.chg = false
  dash : D.dash = -1
  np : D.parsed = false
  fin : D.fin = true
  noargs : D.args = []

theorem make_args (n : Nat) (hn : n ≤ 2147483647) (w : World) :
    (Instr.makeSlice 25 (.int .i64 0) (.int .i64 (n : Int))).run Try.prog w = .ok (.slice (some ⟨w.heap.size, 0, none⟩) 0 n) (w.alloc (.cells (madeCells #[.string ⟨#[]⟩] n) 9)) := by
  obtain ⟨i0, hi0, hz0, hz1, hz2⟩ := info_parts infoT
  have := run_make (P := Try.prog) w 25 9 i0 (.string ⟨#[]⟩) Try.underlying25 hi0 hz0 .i64 .i64 0 n (by omega) (by omega) (by rw [hz2]; omega) (by omega)
  simp only [hz1, Int.toNat_natCast, Nat.mul_one] at this
  exact this

theorem row_new {w0 w : World} (n : Nat) (hn : n ≤ 2147483647) (hb : w0.heap.size ≤ w.heap.size) : (w.alloc (.cells (madeCells #[.string ⟨#[]⟩] n) 9)).ownsRow w0.heap.size 9 1 (.slice (some ⟨w.heap.size, 0, none⟩) 0 n) 0 [] := by
  refine ⟨rfl, .inr ⟨w.heap.size, n, madeCells #[.string ⟨#[]⟩] n, rfl, hb, heap_at _ _ _ rfl, by omega, by unfold maxLen; omega, by simp [madeCells], by simp⟩⟩

theorem parsed_put {D : St} {w : World} (h : Inv D w) : Inv { D with parsed := true } (w.setCell ⟨D.F, 4, none⟩ (.bool true)) :=
  h.setF { D with parsed := true } 4 (.bool true) rfl rfl rfl rfl rfl rfl rfl rfl rfl rfl rfl rfl rfl h.hact h.hfm h.hsm h.rArgs h.rOa h.rOf h.bact h.bfm h.bsm h.doa h.dof
theorem made_put {D : St} {w : World} (h : Inv D w) (n : Nat) (hn : n ≤ 2147483647) : Inv { D with argsV := .slice (some ⟨w.heap.size, 0, none⟩) 0 n, args := [] } ((w.alloc (.cells (madeCells #[.string ⟨#[]⟩] n) 9)).setCell ⟨D.F, 12, none⟩ (.slice (some ⟨w.heap.size, 0, none⟩) 0 n)) := by
  have h1 := h.later ((Below.refl _ w).alloc (Nat.le_refl _) (.cells (madeCells #[.string ⟨#[]⟩] n) 9))
  exact h1.setF { D with argsV := .slice (some ⟨w.heap.size, 0, none⟩) 0 n, args := [] } 12 _ rfl rfl rfl rfl rfl rfl rfl rfl rfl rfl rfl rfl rfl h1.hact h1.hfm h1.hsm (row_new n hn h.bel.size) h1.rOa h1.rOf h1.bact h1.bfm h1.bsm h1.doa h1.dof

theorem Fresh.runs {D : St} {s : SetD} (k : Fresh D s) (way : Way) (v : Value) :
    Near D { D with parsed := true, argsV := v, args := [] } ∧ Runs { D with parsed := true, argsV := v, args := [] } s way begin0 := by
  have hn : Near D { D with parsed := true, argsV := v, args := [] } := ⟨rfl, rfl⟩
  refine ⟨hn, k.ready.near hn, k.given, rfl, k.dash, k.fin.symm, fun i x hx => ?_, ?_⟩
  · rw [k.chg i x hx]
    cases way with
    | sets => show false = D.given.any _; rw [k.given]; rfl
    | hands b => rfl
  · show D.oaL.length ≤ _
    rw [k.oa]; exact Nat.zero_le _

set_option maxRecDepth 100000 in
set_option maxHeartbeats 3200000 in
theorem parseAll_any {D : St} {s : SetD} {way : Way} {w : World} {fid : FuncId} {first cap : Array Value} (hands : Hands fid first cap D s way) (h : Inv D w) (k : Fresh D s)
    (v : Value) (l : List ByteArray) (hv : Texts D.w0 v l) (hs : ∀ t ∈ l, t.size ≤ 4294967295) (hl : l.length ≤ 2147483647) (hg : bytesOf l ≤ 1099511627776) :
    Calls Try.prog 56 #[ptr D.F, v, .func (.func fid) first cap] w fun e w' => ∃ ev D', e = .returned ev ∧ Inv D' w' ∧ Near D D' ∧ Runs D' s way (goesF s way l begin0) ∧ ErrIs D' w' ev (goesF s way l begin0).err := by
  obtain ⟨av, cv, rfl, hcv⟩ := hv.len
  have hn1 : ∀ t v w, Sem.run Try.prog (binOp BinOp.neq 83 (.iface t v) Value.nilIface) w = .ok (.bool true) w := fun _ _ _ => by kernel_rfl
  have hn0 : ∀ w, Sem.run Try.prog (binOp BinOp.neq 83 Value.nilIface Value.nilIface) w = .ok (.bool false) w := fun _ => by kernel_rfl
  have hmk := make_args l.length hl
  have c4 := h.cellF 4 (.bool D.parsed) rfl
  have f4 := h.freeF 4
  have c12 := h.cellF 12 D.argsV rfl
  have f12 := h.freeF 12
  have lF := World.block_lt_of_cell? w _ c4
  go_enter Try.func56, Try.ntmps56
  go_wp2_with fail
  have i2 := made_put (parsed_put h) l.length hl
  rw [World.setCell_alloc_past _ _ _ _ (by rw [size_setCell]; exact lF), size_setCell] at i2
  obtain ⟨n2, k2⟩ := k.runs way (.slice (some ⟨w.heap.size, 0, none⟩) 0 l.length)
  have C := args_any (hands.near n2) i2 k2 rfl (.slice av l.length cv) l hv hs hl (by simpa [begin0] using hg) (by simp [begin0]; omega)
  refine C.mono ?_
  rintro e w3 ⟨ev, D', rfl, j1, j2, j3, j4⟩
  have n3 := n2.trans j2
  have c14 := j1.cellF 14 (.int .i64 0) rfl
  rw [n3.F] at c14
  clear C c4 f4 c12 f12 i2
  cases hz : (goesF s way l begin0).err.isNone with
  | true =>
    have hev : ev = .nilIface := j4.nil_iff.1 hz
    subst hev
    go_wp2_with fail
    go_ret
    exact ⟨_, D', rfl, j1, n3, j3, j4⟩
  | false =>
    obtain ⟨t, ve, rfl⟩ := j4.nil_iff.2 hz
    go_wp2_with fail
    go_ret
    exact ⟨_, D', rfl, j1, n3, j3, j4⟩

theorem world3 (w : World) (F : Nat) (v4 v12 : Value) (box made : Obj) (lF : F < w.heap.size) : (((w.alloc box).setCell ⟨F, 4, none⟩ v4).alloc made).setCell ⟨F, 12, none⟩ v12 = (((w.setCell ⟨F, 4, none⟩ v4).setCell ⟨F, 12, none⟩ v12).alloc box).alloc made := by
  have a1 : (w.alloc box).setCell ⟨F, 4, none⟩ v4 = (w.setCell ⟨F, 4, none⟩ v4).alloc box := World.setCell_alloc_past _ _ _ _ lF
  have lF2 : F < (w.setCell ⟨F, 4, none⟩ v4).heap.size := by rw [size_setCell]; exact lF
  have lF3 : F < ((w.setCell ⟨F, 4, none⟩ v4).alloc box).heap.size := by rw [World.size_alloc]; omega
  rw [a1, World.setCell_alloc_past _ _ _ _ lF3, World.setCell_alloc_past _ _ _ _ lF2]

/-- A set with a box of its own. -/
theorem Fresh.boxed {D : St} {b : Option Nat} {s : SetD} (k : Fresh D s) : Fresh { D with bx := b } s :=
  ⟨⟨k.ready.norm, k.ready.unk, k.ready.inter, k.ready.len, k.ready.flag, k.ready.form, k.ready.short, k.ready.uniq, k.ready.small⟩, k.given, k.oa, k.chg, k.dash, k.np, k.fin, k.noargs⟩

set_option maxRecDepth 100000 in
set_option maxHeartbeats 3200000 in
theorem parse_any {D : St} {s : SetD} {w : World} (h : Inv D w) (k : Fresh D s)
    (v : Value) (l : List ByteArray) (hv : Texts D.w0 v l) (hs : ∀ t ∈ l, t.size ≤ 4294967295) (hl : l.length ≤ 2147483647) (hg : bytesOf l ≤ 1099511627776) :
    Calls Try.prog 53 #[ptr D.F, v] w fun e w' => ∃ ev D', e = .returned ev ∧ Inv D' w' ∧ Near { D with bx := some w.heap.size } D' ∧ Runs D' s .sets (goesF s .sets l begin0) ∧ ErrIs D' w' ev (goesF s .sets l begin0).err := by
  obtain ⟨av, cv, rfl, hcv⟩ := hv.len
  have hn1 : ∀ t v w, Sem.run Try.prog (binOp BinOp.neq 83 (.iface t v) Value.nilIface) w = .ok (.bool true) w := fun _ _ _ => by kernel_rfl
  have hn0 : ∀ w, Sem.run Try.prog (binOp BinOp.neq 83 Value.nilIface Value.nilIface) w = .ok (.bool false) w := fun _ => by kernel_rfl
  have hmf : ∀ (fn : Fn) (first cap : Array Value) (w : World), (Instr.makeFunc fn first cap).run Try.prog w = .ok (.func fn first cap) w := fun _ _ _ _ => rfl
  have hmk := make_args l.length hl
  have c4 := h.cellF 4 (.bool D.parsed) rfl
  have f4 := h.freeF 4
  have c12 := h.cellF 12 D.argsV rfl
  have f12 := h.freeF 12
  have lF := World.block_lt_of_cell? w _ c4
  go_enter Try.func53, Try.ntmps53
  go_wp2_with fail
  go_region
  have k1 : Fresh { D with bx := some w.heap.size } s := k.boxed
  have i2 := made_put (parsed_put h.boxX) l.length hl
  rw [size_setCell, World.size_alloc, world3 _ _ _ _ _ _ lF] at i2
  have i2 := i2.drewN 1
  obtain ⟨n2, k2⟩ := k1.runs .sets (.slice (some ⟨w.heap.size + 1, 0, none⟩) 0 l.length)
  have hbx := i2.hbx w.heap.size rfl
  have cbx : World.cell? _ ⟨w.heap.size, 0, none⟩ = some (ptr D.F) := cell_of_one hbx
  change Exit.then _ _ _ _ (World.drewN _ 1)
  clear c4 f4 c12 f12
  generalize World.drewN _ 1 = w2 at *
  cases l with
  | nil =>
    go_wp2_with fail
    go_ret
    exact ⟨_, rfl, _, i2, n2, k2, rfl⟩
  | cons x l =>
    simp only [List.length_cons]
    go_wp2_with fail
    refine (args_any (parse1_hands (D0 := { D with bx := some w.heap.size, parsed := true, argsV := .slice (some ⟨w.heap.size + 1, 0, none⟩) 0 (x :: l).length, args := [] }) (b := w.heap.size) rfl) i2 k2 rfl (.slice av (x :: l).length cv) (x :: l) hv hs hl (by simpa [begin0] using hg) (by simp only [begin0, List.length_nil]; omega)).mono ?_
    rintro e w3 ⟨ev, D', rfl, j1, j2, j3, j4⟩
    have n3 := n2.trans j2
    have c14 := j1.cellF 14 (.int .i64 0) rfl
    have cb3 : w3.cell? ⟨w.heap.size, 0, none⟩ = some (ptr D'.F) := cell_of_one (j1.hbx _ (by rw [n3.eq]))
    rw [n3.F] at c14 cb3
    cases hz : (goesF s .sets (x :: l) begin0).err.isNone with
    | true =>
      have hev : ev = .nilIface := j4.nil_iff.1 hz
      subst hev
      go_wp2_with fail
      go_ret
      exact ⟨_, D', rfl, j1, n3, j3, j4⟩
    | false =>
      obtain ⟨t, ve, rfl⟩ := j4.nil_iff.2 hz
      go_wp2_with fail
      go_ret
      exact ⟨_, D', rfl, j1, n3, j3, j4⟩
end Go.Proofs.Ytcpjdgbnfjdakaa
