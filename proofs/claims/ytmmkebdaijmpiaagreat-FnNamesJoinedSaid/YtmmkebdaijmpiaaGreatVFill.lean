/- A range over a map keyed by texts at the operations; a row of texts that is filled while its length is known alone. -/
import Derived.Test.YtmmkebdaijmpiaaGreatRg
import Derived.Test.YtmmkebdaijmpiaaGreatVSort
import Derived.Maps.RangeWalk
import Derived.Maps.OwnSet
import Derived.Test.YtmmkebdaijmpiaaGreatListV
namespace Go.Proofs.YtmmkebdaijmpiaaGreat
open Go.RowKit
set_option linter.unusedVariables false
set_option linter.unusedSimpArgs false

section
variable {P : Program} (w : World) {ops : Array Oper} {rest : List Oper} {o : Oper} {a : Act} {Q : Exit → Act → World → Prop}
theorem run_len_map {w : World} {b : Nat} {L : List (ByteArray × Value)} {T kt et : TypeId} (h : MapIs strKey w b L) (hT : P.underlying T = some (.map kt et)) (ty : TypeId) :
    (Builtin.len_ #[T] ty #[.map (some b)]).run P w = .ok (.int .i64 L.length) w := by
  obtain ⟨es, clock, hb, he, hbo⟩ := h
  have := entriesAre_len he
  simp only [Array.length_toList] at this
  simp [Builtin.len_, run_underlying hT, MapKept.run_getObj_map hb, Result.andThen, goInt, this]
theorem wpList_range_rg (hg : o.guard = none) (m : Operand) (t : TypeId) (hop : o.op = Op.range t m) (k e : TypeId) (ht : P.underlying t = some (.map k e)) (b : Nat) (L : List (ByteArray × Value))
    (hm : a.eval m = .map (some b)) (h : MapIs strKey w b L)
    (hK : ∀ o', Rg (w.alloc o') b w.heap.size L [] → wpList P ops Q rest (a.put o.dst (.pointer (some ⟨w.heap.size, 0, none⟩))) (w.alloc o')) :
    wpList P ops Q (o :: rest) a w := by
  refine wpList_plain hg fun K' hK' => ?_
  obtain ⟨o', hrun, hr⟩ := Rg.start (P := P) h ht
  unfold Oper.wp
  simp [execOp, hop, hm, hrun, Result.andThen]
  exact hK' _ _ (hK o' hr)
theorem wpList_next_rg (hg : o.guard = none) (it : Operand) (hop : o.op = Op.next it false) (b r : Nat) (L : List (ByteArray × Value)) (ks : List ByteArray)
    (hit : a.eval it = .pointer (some ⟨r, 0, none⟩)) (h : Rg w b r L ks)
    (hDone : ks.Perm (L.map (·.1)) → wpList P ops Q rest (a.put o.dst (.tuple #[.bool false])) w)
    (hMore : ∀ (k : ByteArray) (v : Value) (w' : World), ks.length < L.length → Rg w' b r L (ks ++ [k]) → w'.heap.size = w.heap.size → (∀ i, i ≠ r → w'.heap[i]? = w.heap[i]?) → (∀ B, B ≤ r → Below B w w') →
      (Instr.entry (.pointer (some ⟨r, 0, none⟩))).run P w' = .ok (.tuple #[.string k, v]) w' → wpList P ops Q rest (a.put o.dst (.tuple #[.bool true, .string k, v])) w') :
    wpList P ops Q (o :: rest) a w := by
  refine wpList_plain hg fun K' hK' => ?_
  unfold Oper.wp
  rcases h.next (P := P) o.type with ⟨hp, hrun⟩ | ⟨k, v, w', hlt, hrun, hrg, hsz, hne, hbel, hen⟩
  · simp [execOp, hop, hit, hrun, Result.andThen]
    exact hK' _ _ (hDone hp)
  · simp [execOp, hop, hit, hrun, Result.andThen]
    exact hK' _ _ (hMore k v w' hlt hrg hsz hne hbel hen)
end

/-- A row of n texts of which the first are written. -/
structure FillK (T : TypeId) (w0 : World) (g n : Nat) (ks : List ByteArray) (w : World) : Prop where
  bel : Below w0.heap.size w0 w
  row : w.heap[g]? = some (.cells ((ks.map Value.string) ++ List.replicate (n - ks.length) (Value.string ⟨#[]⟩)).toArray T (0, 0))
  lo : w0.heap.size ≤ g
section
variable {T : TypeId} {w0 w w' : World} {g n : Nat} {ks : List ByteArray}
theorem FillK.next (h : FillK T w0 g n ks w) (hl : ks.length < n) (k : ByteArray) : FillK T w0 g n (ks ++ [k]) (w.setCell ⟨g, ks.length, none⟩ (.string k)) := by
  refine ⟨h.bel.setCell h.lo _, ?_, h.lo⟩
  rw [heap_set h.row ks.length _]
  congr 2
  rw [List.setIfInBounds_toArray]
  congr 1
  rw [List.set_append_right _ _ (by simp), show n - ks.length = (n - (ks ++ [k]).length) + 1 by simp; omega, List.replicate_succ]
  simp
theorem FillK.keep (h : FillK T w0 g n ks w) (hb : Below w0.heap.size w w') (hk : w'.heap[g]? = w.heap[g]?) : FillK T w0 g n ks w' := ⟨h.bel.trans hb, hk.trans h.row, h.lo⟩
theorem FillK.full (h : FillK T w0 g n ks w) (hl : ks.length = n) : w.heap[g]? = some (.cells (ks.map Value.string).toArray T (0, 0)) := by
  have := h.row
  rw [hl, Nat.sub_self] at this
  simpa using this
theorem FillK.cell (h : FillK T w0 g n ks w) (hl : ks.length < n) : w.cell? ⟨g, ks.length, none⟩ = some (.string ⟨#[]⟩) := by
  refine cell_of h.row _ _ ?_
  rw [List.getElem?_toArray, List.getElem?_append_right (by simp), List.length_map, Nat.sub_self, List.getElem?_replicate, if_pos (by omega)]
theorem FillK.start (hb : Below w0.heap.size w0 w) (hw : w' = w.alloc (.cells (Array.replicate n (.string ⟨#[]⟩)) T)) : FillK T w0 w.heap.size n [] w' := by
  subst hw
  refine ⟨hb.alloc hb.size _, ?_, hb.size⟩
  rw [heap_at _ _ _ rfl]
  simp
end
/-- What a map holds under a key. -/
def valOf (L : List (ByteArray × Value)) (k : ByteArray) : Value := match mapFind k L 0 with
  | some (_, v) => v
  | none => .pointer none
theorem find_mem (k : ByteArray) : ∀ (L : List (ByteArray × Value)) (i : Nat), k ∈ L.map (·.1) → ∃ j v, mapFind k L i = some (j, v) ∧ (k, v) ∈ L
  | [], _, h => by simp at h
  | x :: L, i, h => by
    rw [mapFind]
    by_cases e : k = x.1
    · exact ⟨i, x.2, if_pos e, by rw [e]; exact List.mem_cons_self ..⟩
    · rw [if_neg e]
      rw [List.map_cons, List.mem_cons] at h
      obtain ⟨j, v, h1, h2⟩ := find_mem k L (i + 1) (h.resolve_left e)
      exact ⟨j, v, h1, List.mem_cons_of_mem _ h2⟩
end Go.Proofs.YtmmkebdaijmpiaaGreat
