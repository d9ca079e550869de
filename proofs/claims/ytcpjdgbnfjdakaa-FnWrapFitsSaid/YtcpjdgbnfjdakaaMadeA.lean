/- The walks of NewFlagSet, VarPF, SetNormalizeFunc; a fresh set in memory. -/
import Derived.Test.YtcpjdgbnfjdakaaAddF
import Derived.Laws.IdiomRangeMap
namespace Go.Proofs.Ytcpjdgbnfjdakaa
open Go.RowKit
set_option linter.unusedVariables false
set_option linter.unusedSimpArgs false

/-- A set with nothing in it. -/
def St.start (w : World) : St where
  w0 := w
  F := w.heap.size
  Wb := w.heap.size + 1
  unk := false
  inter := true
  parsed := false
  dash := -1
  norm := .nilFunc
  act := none
  actL := []
  fm := none
  formL := []
  sm := none
  shortL := []
  oav := .slice none 0 0
  oaL := []
  ofv := .slice none 0 0
  ofL := []
  flv := .slice none 0 0
  flL := []
  argsV := .slice none 0 0
  args := []
  saidV := .slice none 0 0
  given := []
  rs := []
  bx := none
  bw := none
  xb := none
  fin := true

theorem Inv.start (w : World) : Inv (St.start w) ((w.alloc (.cells (fsCells (St.start w)) 136)).alloc (.cells (Go.Proofs.Ytcpjdgbnfjdakaa.whCells (St.start w)) 87)) where
  bel := ((Below.refl _ w).alloc (Nat.le_refl _) _).alloc (by rw [World.size_alloc]; exact Nat.le_succ _) _
  hF := heap_past' (by rw [World.size_alloc]; exact Nat.lt_succ_self _) (heap_at _ _ _ rfl)
  hW := heap_at _ _ _ (by rw [World.size_alloc]; rfl)
  hfm := .inl ⟨rfl, rfl⟩
  hsm := .inl ⟨rfl, rfl⟩
  hact := .inl ⟨rfl, rfl⟩
  hfl := fun i r hr => by simp [St.start] at hr
  hown := fun i r hr => by simp [St.start] at hr
  hbx := fun b e => nomatch e
  hbw := fun b e => nomatch e
  hxb := fun b e => nomatch e
  hbad := fun i r hr => by simp [St.start] at hr
  rArgs := World.ownsRow_nil _ _ _ _
  rSaid := World.ownsRow_nil _ _ _ _
  rOa := World.ownsRow_nil _ _ _ _
  rOf := World.ownsRow_nil _ _ _ _
  rFl := World.ownsRow_nil _ _ _ _
  inj := fun i j r r' hr => by simp [St.start] at hr
  bF := Nat.le_refl _
  bW := Nat.le_succ _
  bfl := fun i r hr => by simp [St.start] at hr
  bact := fun b e => nomatch e
  bfm := fun b e => nomatch e
  bsm := fun b e => nomatch e
  doa := fun g e => nomatch e
  dof := fun g e => nomatch e

theorem newSet_any (w : World) : Calls Try.prog 77 #[.string ⟨#[]⟩, .int .i64 0] w fun e w' => e = .returned (ptr w.heap.size) ∧ w' = w.alloc (.cells (fsCells (St.start w)) 136) := by
  go_enter Try.func77, Try.ntmps77
  go_wp2_with fail
  go_ret
  exact ⟨rfl, rfl⟩

theorem norm_put {D : St} {w : World} (h : Inv D w) (v : Value) : Inv { D with norm := v } (w.setCell ⟨D.F, 16, none⟩ v) :=
  h.setF { D with norm := v } 16 v rfl rfl rfl rfl rfl rfl rfl rfl rfl rfl rfl rfl rfl h.hact h.hfm h.hsm h.rArgs h.rOa h.rOf h.bact h.bfm h.bsm h.doa h.dof
theorem sorted_put {D : St} {w : World} (h : Inv D w) : Inv D (w.setCell ⟨D.F, 10, none⟩ (.slice none 0 0)) :=
  h.setF D 10 (.slice none 0 0) rfl rfl rfl rfl rfl rfl rfl rfl rfl rfl rfl rfl rfl h.hact h.hfm h.hsm h.rArgs h.rOa h.rOf h.bact h.bfm h.bsm h.doa h.dof
theorem inter_put {D : St} {w : World} (h : Inv D w) (b : Bool) : Inv { D with inter := b } (w.setCell ⟨D.F, 15, none⟩ (.bool b)) :=
  h.setF { D with inter := b } 15 (.bool b) rfl rfl rfl rfl rfl rfl rfl rfl rfl rfl rfl rfl rfl h.hact h.hfm h.hsm h.rArgs h.rOa h.rOf h.bact h.bfm h.bsm h.doa h.dof
theorem unk_put {D : St} {w : World} (h : Inv D w) (b : Bool) : Inv { D with unk := b } (w.setCell ⟨D.F, 1, none⟩ (.bool b)) :=
  h.setF { D with unk := b } 1 (.bool b) rfl rfl rfl rfl rfl rfl rfl rfl rfl rfl rfl rfl rfl h.hact h.hfm h.hsm h.rArgs h.rOa h.rOf h.bact h.bfm h.bsm h.doa h.dof

theorem setInter_any {D : St} {w : World} (h : Inv D w) (b : Bool) : Calls Try.prog 82 #[ptr D.F, .bool b] w fun e w' => e = .returned (.tuple #[]) ∧ w' = w.setCell ⟨D.F, 15, none⟩ (.bool b) := by
  have c := h.cellF 15 (.bool D.inter) rfl
  have z := h.freeF 15
  go_enter Try.func82, Try.ntmps82
  go_wp2_with fail
  go_end0
  exact ⟨rfl, rfl⟩

/-- A new flag, whose value is impl's own. -/
theorem varPF_any {D : St} {w : World} {lo da : Bool} (h : Inv D w) (hno : NormIs D lo da) (nm short : ByteArray) (ob : Nat) (bv : Value) (bad : List ByteArray) (ho1 : w.heap[ob]? = some (.cells (ownCells D D.rs.length ⟨nm, short, ⟨#[]⟩, 0, ob, bv, bad, false⟩) 124 (0, 0))) (hbv : Strs D.w0 bv bad)
    (hz : nm.size ≤ 4294967295) (hf : mapFind (foldG lo da nm) D.formL 0 = none)
    (hs : short.size = 0 ∨ ∃ h1 : short.size = 1, mapFind (short[0]'(by omega)) D.shortL 0 = none) (ho : D.ofL.length ≤ 1099511627776) :
    Calls Try.prog 81 #[ptr D.F, .iface 121 (ptr ob), .string nm, .string short, .string ⟨#[]⟩] w fun e w' => ∃ fb fm sm ofv, e = .returned (ptr fb) ∧
      Inv { D with rs := D.rs ++ [⟨foldG lo da nm, short, ⟨#[]⟩, fb, ob, bv, bad, false⟩], fm := fm, formL := D.formL ++ [(foldG lo da nm, ptr fb)], ofv := ofv, ofL := D.ofL ++ [ptr fb], sm := sm, shortL := D.shortL ++ ((byteO short 0).map fun c => (c, ptr fb)).toList } w' := by
  have hm : ∀ w, (method 305 121 (ptr ob) "String").run Try.prog w = .ok (151, ptr ob) w := fun _ => by kernel_rfl
  go_enter Try.func81, Try.ntmps81
  go_wp2_with (go_at_call 151; go_in)
  have i1 := h.later ((Below.refl _ w).alloc (Nat.le_refl _) (.cells (flagCells ⟨nm, short, ⟨#[]⟩, w.heap.size, ob, bv, bad, false⟩) 129))
  have i2 := i1.addFlag ⟨nm, short, ⟨#[]⟩, w.heap.size, ob, bv, bad, false⟩ (heap_at _ _ _ rfl) ((heap_past _ _ _ (lt_of_block ho1)).trans ho1) hbv h.bel.size (fun i r hr => Nat.ne_of_lt (lt_of_block (h.hfl i r hr)))
  have hx : (D.rs ++ [⟨nm, short, ⟨#[]⟩, w.heap.size, ob, bv, bad, false⟩])[D.rs.length]? = some (⟨nm, short, ⟨#[]⟩, w.heap.size, ob, bv, bad, false⟩ : FlagR) := by simp
  have hset : (D.rs ++ [(⟨nm, short, ⟨#[]⟩, w.heap.size, ob, bv, bad, false⟩ : FlagR)]).set D.rs.length ⟨foldG lo da nm, short, ⟨#[]⟩, w.heap.size, ob, bv, bad, false⟩ = D.rs ++ [⟨foldG lo da nm, short, ⟨#[]⟩, w.heap.size, ob, bv, bad, false⟩] := by
    rw [List.set_append_right _ _ (Nat.le_refl _)]; simp
  refine (addFlag_any i2 (lo := lo) (da := da) hno hx hz hf hs ho).mono ?_
  rintro e w3 ⟨rfl, fm, sm, ofv, i3⟩
  rw [hset] at i3
  clear i1 i2 h hx hset
  go_wp2_with fail
  go_ret
  exact ⟨_, fm, sm, ofv, rfl, i3⟩

set_option maxRecDepth 100000 in
theorem setNorm_any {D : St} {w : World} (h : Inv D w) (hfm : D.fm = none) (fn : Fn) (first cap : Array Value) :
    Calls Try.prog 78 #[ptr D.F, .func fn first cap] w fun e w' => e = .returned (.tuple #[]) ∧ Inv { D with norm := .func fn first cap } w' := by
  have c := h.cellF 16 D.norm rfl
  have z := h.freeF 16
  have c10 := h.cellF 10 (.slice none 0 0) rfl
  have z10 := h.freeF 10
  have c8 := h.cellF 8 (.map D.fm) rfl
  rw [hfm] at c8
  have hrg : ∀ w, (Instr.range 133 (.map none)).run Try.prog w = .ok (.pointer (some ⟨w.heap.size, 0, none⟩)) (w.alloc (.mapIter none 0 #[] 0)) := fun _ => by kernel_rfl
  have hnx : ∀ ty, (Instr.next (.pointer (some ⟨w.heap.size, 0, none⟩)) false ty).run Try.prog (((w.setCell ⟨D.F, 16, none⟩ (.func fn first cap)).setCell ⟨D.F, 10, none⟩ (.slice none 0 0)).alloc (.mapIter none 0 #[] 0)) = .ok (.tuple #[.bool false]) (((w.setCell ⟨D.F, 16, none⟩ (.func fn first cap)).setCell ⟨D.F, 10, none⟩ (.slice none 0 0)).alloc (.mapIter none 0 #[] 0)) := fun ty => by
    have q := run_next_nilMap (P := Try.prog) ((w.setCell ⟨D.F, 16, none⟩ (.func fn first cap)).setCell ⟨D.F, 10, none⟩ (.slice none 0 0)) ty 0 0 #[]
    rw [size_setCell, size_setCell] at q
    exact q
  have hst : ∀ w, (store ⟨D.F, 16, none⟩ (.func fn first cap)).run Try.prog w = stored Try.prog w ⟨D.F, 16, none⟩ (.func fn first cap) .plain := fun w => run_store _ w _ _ _ rfl
  go_enter Try.func78, Try.ntmps78
  go_wp2_with fail
  refine wp_loop_rounds 1 ?_
  rw [rounds_succ]
  go_wp2_with fail
  go_end0
  have i1 := sorted_put (norm_put h (.func fn first cap))
  exact ⟨rfl, i1.later ((Below.refl _ _).alloc (Nat.le_refl _) _)⟩
end Go.Proofs.Ytcpjdgbnfjdakaa
