/- The reference's turn that sets a flag (spec.NameSet's Do). -/
import Derived.Test.YtmmkebdaijmpiaaGreatVSpecA
import Derived.Laws.CopyOwn
import Derived.Laws.ResultCell
namespace Go.Proofs.YtmmkebdaijmpiaaGreat
open Go.RowKit
set_option linter.unusedVariables false
set_option linter.unusedSimpArgs false

theorem results_cell_row2 {P : Program} {fn : Func} {p u : Tmp} {ty : TypeId} (h : fn.results = #[.cell p ty, .tmp u]) (tmps : Array Value) (w : World) (g : Nat) (t : TypeId) (cs : Array Value) (fr : Nat × Nat) (d : TypeDesc)
    (hp : tmps.getD p undef = .pointer (some ⟨g, 0, none⟩)) (hg : w.heap[g]? = some (.cells cs t fr))
    (hu : P.underlying ty = some d) (hd : (match d with | .struct _ | .array _ _ => true | _ => false) = true) (hi : (P.info? ty).map (·.size) = some cs.size) :
    (results fn tmps).run P w = .ok (.tuple #[.agg cs, tmps.getD u undef]) w := by
  rw [results_cell_tmp h, hp]
  simp [asAddr, run_loadVar_row w g t ty cs fr d hg hu hd hi, Result.andThen]
/-- Where the blocks that the reference speaks of stay. -/
theorem RefV.move {w0 w w' : World} {N : Nat} {pl : Bool} {ls : List DefD} {acts : List Nat} (h : RefV w0 N pl ls acts w) (hb : Below w0.heap.size w0 w')
    (hk : ∀ (b : Nat) (c : Array Value) (t : TypeId), w.heap[b]? = some (Obj.cells c t (0, 0)) → t = 41 ∨ t = 62 ∨ t = 3 → w'.heap[b]? = some (Obj.cells c t (0, 0))) : RefV w0 N pl ls acts w' := by
  obtain ⟨fv, sv, l, hn, e, hc, hr⟩ := h.ex
  have row : ∀ {e : TypeId} {sz n : Nat} {v : Value} {xs : List Value}, w.ownsRow w0.heap.size e sz v n xs → e = 62 ∨ e = 3 → w'.ownsRow w0.heap.size e sz v n xs := fun {e sz n v xs} h he => by
    refine ⟨h.1, ?_⟩
    rcases h.2 with h0 | ⟨b, cap, cur, e', hb', hh, hrr⟩
    · exact .inl h0
    · exact .inr ⟨b, cap, cur, e', hb', hk _ _ _ hh (.inr he), hrr⟩
  exact ⟨fv, sv, l, ⟨hb, hk _ _ _ hn.hN (.inl rfl), row hn.row (.inl rfl), hn.lN⟩, e, hc, row hr (.inr rfl)⟩
theorem RefV.bel {w0 w : World} {N : Nat} {pl : Bool} {ls : List DefD} {acts : List Nat} (h : RefV w0 N pl ls acts w) : Below w0.heap.size w0 w := by
  obtain ⟨fv, sv, l, hn, e, hc, hr⟩ := h.ex
  exact hn.bel

set_option maxRecDepth 100000 in
set_option maxHeartbeats 6400000 in
theorem do_any {w0 w : World} {N : Nat} {pl : Bool} {ls : List DefD} {acts : List Nat} (h : RefV w0 N pl ls acts w) (nm : ByteArray) (hl : ls.length ≤ 1048576) (ha : acts.length ≤ 1048576) :
    Calls Tryz.prog 10 #[.pointer (some ⟨N, 0, none⟩), .agg #[.int .i64 3, .string nm, .string ⟨#[49]⟩, .bool false, .slice none 0 0, .slice none 0 0]] w fun e w' => (∃ v, e = .returned v) ∧ RefV w0 N pl ls (stepD ls nm acts) w' ∧ KeepR w w' := by
  have hbb : Below w.heap.size w ((w.alloc (.cells #[.int .i64 3, .string nm, .string ⟨#[49]⟩, .bool false, .slice none 0 0, .slice none 0 0] 37)).alloc (.cells #[.bool false, .bool false, .bool false, .bool false, .string ⟨#[]⟩, .string ⟨#[]⟩, .string ⟨#[]⟩, .int .i64 0, .slice none 0 0] 32)) :=
    ((Below.refl _ _).alloc (Nat.le_refl _) _).alloc (by simp only [World.size_alloc]; omega) _
  have HB := Lib.hid hbb
  have CS := Lib.hid (setN_any (h.later hbb) nm hl ha)
  have HN : Hid (((w.alloc (.cells #[.int .i64 3, .string nm, .string ⟨#[49]⟩, .bool false, .slice none 0 0, .slice none 0 0] 37)).alloc (.cells #[.bool false, .bool false, .bool false, .bool false, .string ⟨#[]⟩, .string ⟨#[]⟩, .string ⟨#[]⟩, .int .i64 0, .slice none 0 0] 32)).heap[w.heap.size + 1]? = some (.cells #[.bool false, .bool false, .bool false, .bool false, .string ⟨#[]⟩, .string ⟨#[]⟩, .string ⟨#[]⟩, .int .i64 0, .slice none 0 0] 32 (0, 0))) := Lib.hid (heap_at _ _ _ (by simp only [World.size_alloc]))
  have HS := Lib.hid h.bel.size
  clear h hbb
  go_enter Tryz.func10, Tryz.ntmps10
  go_wp2_with fail
  refine CS.out.mono ?_
  rintro e w3 ⟨⟨b, rfl⟩, hr, hk⟩
  have hn3 := hk.cells _ _ _ HN.out (by decide) (by decide) (by decide)
  have HN3 := Lib.hid hn3
  have HR := Lib.hid (hr.move (w' := w3.setRow (w.heap.size + 1) #[.bool b, .bool false, .bool false, .bool false, .string ⟨#[]⟩, .string ⟨#[]⟩, .string ⟨#[]⟩, .int .i64 0, .slice none 0 0]) (below_setRow hr.bel (Nat.le_succ_of_le HS.out) _) fun b' c t hb ht => (setRow_other _ _ _ _ (cells_ne hb hn3 (by rcases ht with rfl | rfl | rfl <;> decide))).trans hb)
  have HK : Hid (KeepR w (w3.setRow (w.heap.size + 1) #[.bool b, .bool false, .bool false, .bool false, .string ⟨#[]⟩, .string ⟨#[]⟩, .string ⟨#[]⟩, .int .i64 0, .slice none 0 0])) := Lib.hid ⟨by
      have := hk.size
      simp only [World.size_alloc] at this
      simp only [World.setRow, Array.size_modify]; omega, fun b' c t hb h1 h2 h3 => (setRow_other _ _ _ _ (by have := lt_of_block hb; omega)).trans (hk.cells _ _ _ ((HB.out.block _ (lt_of_block hb)).trans hb) h1 h2 h3)⟩
  clear hr hk hn3 CS HN
  go_wp2_with (refine wpList_store_row (by rfl) 32 (.tmp 4) (.tmp 40) (by rfl) (w.heap.size + 1) #[.bool b, .bool false, .bool false, .bool false, .string ⟨#[]⟩, .string ⟨#[]⟩, .string ⟨#[]⟩, .int .i64 0, .slice none 0 0] (by rfl) (by rfl) _ _ HN3.out (by kernel_rfl) (by rfl) (by simp [Value.oneCell']) ?_)
  (try simp only [Exit.inBlock, Exit.then])
  refine bodyPost_ret (results_cell_row2 rfl _ _ (w.heap.size + 1) _ _ (0, 0) _ rfl (setRow_heap _ _ _ _ _ _ HN3.out) Tryz.underlying32 rfl (by kernel_rfl)) rfl ⟨⟨_, rfl⟩, HR.out, HK.out⟩
end Go.Proofs.YtmmkebdaijmpiaaGreat
