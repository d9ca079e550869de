/- Rows of the law FnNamesJoined: definitions appended, turns, notes. -/
import Derived.Test.YtmmkebdaijmpiaaGreatJDo
import Derived.Test.YtmmkebdaijmpiaaGreatJNames
import Derived.Test.YtmmkebdaijmpiaaGreatNDefs
namespace Go.Proofs.YtmmkebdaijmpiaaGreat
open Go.RowKit
set_option linter.unusedVariables false
set_option linter.unusedSimpArgs false

theorem DefD.len6 (x : DefD) : x.cells.length = 6 := rfl
theorem flatD_at (l : List DefD) (i : Nat) (h : i < l.length) (j : Nat) (hj : j < 6) : (flatD l)[i * 6 + j]? = l[i].cells[j]? := flatMap_get DefD.cells 6 DefD.len6 l i h j hj
theorem flatD_append (l m : List DefD) : flatD (l ++ m) = flatD l ++ flatD m := by simp [flatD]
theorem flatD_one (l : List DefD) : ∀ u ∈ flatD l, u.oneCell' = true := by
  intro u hu
  obtain ⟨x, _, hx⟩ := List.mem_flatMap.1 hu
  simp only [DefD.cells, List.mem_cons, List.not_mem_nil, or_false] at hx
  rcases hx with rfl | rfl | rfl | rfl | rfl | rfl <;> rfl
theorem run_append_zero {P : Program} (w : World) (t ty e : TypeId) (i : TypeInfo) (ht : P.underlying t = some (.slice e)) (hi : P.info? e = some i) (q : Nat) (n c : Nat) (hle : n ≤ c) (a : Option Addr) (c2 : Nat) :
    (Builtin.append_ #[t, t] ty #[.slice (some ⟨q, 0, none⟩) n c, .slice a 0 c2]).run P w = .ok (.slice (some ⟨q, 0, none⟩) n c) w := by
  cases a with
  | none => simp [Builtin.append_, run_underlying ht, sizeOf, typeInfo, hi, Builtin.lenOf, Builtin.firstCells, storeCells, loadCells, loadCellsFrom, hle]
  | some a => simp [Builtin.append_, run_underlying ht, sizeOf, typeInfo, hi, Builtin.lenOf, Builtin.firstCells, storeCells, loadCells, loadCellsFrom, hle]
theorem infoDef : (Tryz.prog.info? 50).map (fun i => (i.zero, i.size, i.bytes)) = some (some (.agg #[.string ⟨#[]⟩, .string ⟨#[]⟩, .int .i64 0, .bool false, .int .i64 0, .string ⟨#[]⟩]), 6, 72) := by kernel_rfl
theorem infoTurn : (Tryz.prog.info? 37).map (fun i => (i.zero, i.size, i.bytes)) = some (some (.agg #[.int .i64 0, .string ⟨#[]⟩, .string ⟨#[]⟩, .bool false, .slice none 0 0, .slice none 0 0]), 6, 96) := by kernel_rfl
/-- append(s, defs...) where s is a row of the call's own. -/
theorem wpList_appendD {w : World} {ops : Array Oper} {rest : List Oper} {o : Oper} {a : Act} {Q : Exit → Act → World → Prop} (hgd : o.guard = none) (s x : Operand)
    (ho : o.op = .call { callee := .builtin .append, args := #[s, x], argTypes := #[22, 22] }) (base q n c : Nat) (xs : List DefD) (hs : a.eval s = .slice (some ⟨q, 0, none⟩) n c) (hown : w.ownsRow base 50 6 (.slice (some ⟨q, 0, none⟩) n c) n (flatD xs))
    (dv : Value) (m : List DefD) (hx : a.eval x = dv) (hd : Defs w dv m) (hbase : base ≤ w.heap.size) (hn : n + m.length ≤ 1000)
    (h : ∀ q' c' w', w'.ownsRow base 50 6 (.slice (some ⟨q', 0, none⟩) (n + m.length) c') (n + m.length) (flatD (xs ++ m)) → w.grownBy w' (some q) → wpList Tryz.prog ops Q rest (a.put o.dst (.slice (some ⟨q', 0, none⟩) (n + m.length) c')) w') : wpList Tryz.prog ops Q (o :: rest) a w := by
  obtain ⟨i0, hi0, hz0, hz1, hz2⟩ := info_parts infoDef
  obtain ⟨ad, cap, rfl, hcap⟩ := hd.len
  by_cases h0 : m = []
  · subst h0
    have hle : n ≤ c := by
      rcases hown.2 with ⟨e, _⟩ | ⟨b, cap', cur, e, _, _, h3, _⟩
      · cases e
      · cases e; exact h3
    have hrun := run_append_zero (P := Tryz.prog) w 22 o.type 50 i0 Tryz.underlying22 hi0 q n c hle ad cap
    refine wpList_plain hgd fun K hK => ?_
    unfold Oper.wp execOp
    simp only [ho, resolve, invoke, builtin, Sem.run_bind, Sem.run_pure, Result.andThen_ok, List.map_toArray, List.map_cons, List.map_nil, hs, hx, List.length_nil, hrun]
    refine hK _ _ ?_
    have := h q c w (by rw [List.append_nil]; exact hown) ⟨rfl, rfl, rfl, Nat.le_refl _, fun _ _ _ => rfl⟩
    exact this
  · have hpos : 0 < m.length := List.length_pos_iff.mpr h0
    obtain ⟨b, off, rfl, -⟩ := hd.at 0 hpos
    refine wpList_append_lies w hgd s x 22 ho base 50 i0 _ 6 72 Tryz.underlying22 hi0 hz0 hz1 hz2 rfl (by omega) _ n (flatD xs) hs hown ⟨b, off, none⟩ m.length cap (flatD m) hx (flatD_length m) (fun j u hj => ?_) (flatD_one m) hpos (by unfold maxLen; omega) (by omega) hbase w.heap.size rfl (fun g cap' w' h1 h2 _ _ => h g cap' w' (by rw [flatD_append]; exact h1) h2)
    have hjl : j < m.length * 6 := by
      rw [← flatD_length]
      exact (List.getElem?_eq_some_iff.1 hj).1
    have hi : j / 6 < m.length := by omega
    have hq := flatD_at m (j / 6) hi (j % 6) (Nat.mod_lt _ (by omega))
    rw [show j / 6 * 6 + j % 6 = j by omega] at hq
    rw [hq] at hj
    clear hq
    obtain ⟨b', off', e, d0, d1, d2, d3, d4, d5⟩ := hd.at (j / 6) hi
    cases e
    have hadd : (⟨b, off, none⟩ : Addr).add j = ⟨b, off + j / 6 * 6 + j % 6, none⟩ := by
      unfold Addr.add
      split
      · rename_i hz; subst hz; simp
      · exact congrArg (fun z => (⟨b, z, none⟩ : Addr)) (show off + j = off + j / 6 * 6 + j % 6 by omega)
    rw [hadd]
    have hr : j % 6 = 0 ∨ j % 6 = 1 ∨ j % 6 = 2 ∨ j % 6 = 3 ∨ j % 6 = 4 ∨ j % 6 = 5 := by omega
    rcases hr with hr | hr | hr | hr | hr | hr <;> rw [hr] at hj ⊢ <;> simp only [DefD.cells, List.getElem?_cons_zero, List.getElem?_cons_succ, Option.some.injEq] at hj <;> subst hj
    · exact d0
    · exact d1
    · exact d2
    · exact d3
    · exact d4
    · exact d5
/-- A cell of a row of definitions. -/
theorem rowD_at {w : World} {base q n c : Nat} {xs : List DefD} (h : w.ownsRow base 50 6 (.slice (some ⟨q, 0, none⟩) n c) n (flatD xs)) (hn : n = xs.length) (k : Nat) (hk : k < xs.length) (j : Nat) (v : Value) (hj : j < 6) (hv : xs[k].cells[j]? = some v) : w.cell? ⟨q, k * 6 + j, none⟩ = some v := by
  rcases h.2 with ⟨e, _⟩ | ⟨b, cap, cur, e, hb, hh, hnc, hcm, hcs, ht⟩
  · cases e
  · cases e
    refine cell_of hh _ _ ?_
    have := flatD_at xs k hk j hj
    rw [hv, ← ht, List.getElem?_take, if_pos (by omega), Array.getElem?_toList] at this
    exact this
/-- Cells of rows of turns. -/
def turnsOf (dv : Value) (names : List ByteArray) : List (Array Value) := turnA dv :: names.map turnL
theorem turnsOf_size (dv : Value) (names : List ByteArray) : ∀ t ∈ turnsOf dv names, t.toList.length = 6 := by
  intro t ht
  rcases List.mem_cons.1 ht with rfl | ht
  · rfl
  · obtain ⟨nm, _, rfl⟩ := List.mem_map.1 ht; rfl
theorem flatN_at (ts : List (Array Value)) (sz : Nat) : (∀ t ∈ ts, t.toList.length = sz) → ∀ (i : Nat) (h : i < ts.length) (j : Nat), j < sz → (flatN ts)[i * sz + j]? = ts[i][j]? := by
  intro hs
  induction ts with
  | nil => intro i h; simp at h
  | cons t ts ih =>
    intro i h j hj
    have e : flatN (t :: ts) = t.toList ++ flatN ts := by simp [flatN]
    have ht := hs t (List.mem_cons_self ..)
    cases i with
    | zero =>
      rw [e, List.getElem?_append_left (by rw [ht]; omega)]
      simp
    | succ i =>
      rw [e, show (i + 1) * sz + j = t.toList.length + (i * sz + j) by rw [ht, Nat.add_mul]; omega, List.getElem?_append_right (by omega), Nat.add_sub_cancel_left, ih (fun t' ht' => hs t' (List.mem_cons_of_mem _ ht')) i (by simpa using h) j hj]
      simp
/-- A cell of a row of structs. -/
theorem rowN_at {w : World} {base n c sz : Nat} {e : TypeId} {a : Option Addr} {ts : List (Array Value)} (h : w.ownsRow base e sz (.slice a n c) n (flatN ts)) (hn : n = ts.length) (hs : ∀ t ∈ ts, t.toList.length = sz) (k : Nat) (hk : k < ts.length) : ∃ q, a = some ⟨q, 0, none⟩ ∧ ∀ j v, j < sz → ts[k][j]? = some v → w.cell? ⟨q, k * sz + j, none⟩ = some v := by
  rcases h.2 with ⟨e, h0⟩ | ⟨b, cap, cur, e, hb, hh, hnc, hcm, hcs, ht⟩
  · exact absurd h0 (by omega)
  · cases e
    refine ⟨b, rfl, fun j v hj hv => cell_of hh _ _ ?_⟩
    have := flatN_at ts sz hs k hk j hj
    have hlt : k * sz + j < n * sz := by
      have : (k + 1) * sz ≤ n * sz := Nat.mul_le_mul_right _ (by omega)
      rw [Nat.add_mul] at this
      omega
    rw [hv, ← ht, List.getElem?_take, if_pos hlt, Array.getElem?_toList] at this
    exact this
theorem notesOf_size (J : List DefD) (names : List ByteArray) : ∀ t ∈ notesOf J names, t.toList.length = 9 := by
  intro t ht
  rcases List.mem_cons.1 ht with rfl | ht
  · rfl
  · obtain ⟨nm, _, rfl⟩ := List.mem_map.1 ht; rfl
theorem turnsAt_of {w : World} {base n c q : Nat} {dv : Value} {names : List ByteArray} (h : w.ownsRow base 37 6 (.slice (some ⟨q, 0, none⟩) n c) n (flatN (turnsOf dv names))) (hn : n = names.length + 1) : TurnsAt w q n dv names := by
  have hl : n = (turnsOf dv names).length := by rw [hn]; simp [turnsOf]
  refine ⟨hn, fun j v hj => ?_, fun k hk j v hj => ?_⟩
  · obtain ⟨q', e, hc⟩ := rowN_at h hl (turnsOf_size dv names) 0 (by simp [turnsOf])
    cases e
    have hj6 : j < 6 := (Array.getElem?_eq_some_iff.1 hj).1
    have := hc j v hj6 hj
    rw [Nat.zero_mul, Nat.zero_add] at this
    exact this
  · obtain ⟨q', e, hc⟩ := rowN_at h hl (turnsOf_size dv names) (k + 1) (by simp [turnsOf]; omega)
    cases e
    have hj6 : j < 6 := (Array.getElem?_eq_some_iff.1 hj).1
    exact hc j v hj6 (by simpa [turnsOf] using hj)
/-- Every name is found behind the joining. -/
theorem placeD_of_mem {l : List DefD} {k : ByteArray} (h : k ∈ l.map fun x => x.nm) : ∃ i, placeD l k = some i := by
  obtain ⟨i, _, h, _⟩ := placeD_mem h
  exact ⟨i, h⟩
theorem mem_of_place {l : List DefD} {k : ByteArray} {i : Nat} (h : placeD l k = some i) : k ∈ l.map fun x => x.nm := by
  rw [placeD, List.findIdx?_eq_some_iff_getElem] at h
  obtain ⟨hi, he, _⟩ := h
  exact List.mem_map.2 ⟨l[i], List.getElem_mem hi, by simpa using he⟩
theorem offerD_mono (l : List DefD) (x : DefD) {k : ByteArray} (h : k ∈ l.map fun x => x.nm) : k ∈ (offerD l x).map fun x => x.nm := by
  unfold offerD
  split
  · exact h
  · rw [List.map_append]; exact List.mem_append_left _ h
theorem offerD_has (l : List DefD) (x : DefD) : x.nm ∈ (offerD l x).map fun x => x.nm := by
  unfold offerD
  split
  · rename_i i hp; exact mem_of_place hp
  · rw [List.map_append]; exact List.mem_append_right _ (by simp)
theorem joinD_names (xs : List DefD) : ∀ (l : List DefD) (k : ByteArray), (k ∈ l.map (fun x => x.nm) ∨ k ∈ xs.map (fun x => x.nm)) → k ∈ (joinD l xs).map fun x => x.nm := by
  induction xs with
  | nil => intro l k h; rcases h with h | h; exact h; simp at h
  | cons x xs ih =>
    intro l k h
    refine ih (offerD l x) k ?_
    rcases h with h | h
    · exact .inl (offerD_mono l x h)
    · rcases List.mem_cons.1 h with rfl | h
      · exact .inl (offerD_has l x)
      · exact .inr h
theorem join_found (l m : List DefD) : ∀ nm ∈ (l ++ m).map (fun x => x.nm), ∃ i, placeD (joinD l (sortD m)) nm = some i := by
  intro nm h
  refine placeD_of_mem (joinD_names (sortD m) l nm ?_)
  rw [List.map_append, List.mem_append] at h
  rcases h with h | h
  · exact .inl h
  · right
    obtain ⟨k, hk, e⟩ := List.getElem_of_mem ((srt_perm (m.map fun x => x.nm)).mem_iff.2 h)
    have hk' : k < (sortD m).length := by rw [sortD_length]; rw [srt_length, List.length_map] at hk; exact hk
    obtain ⟨p, hp, _, _, h2⟩ := sortD_at m k hk'
    rw [List.getElem?_eq_getElem hk, e, Option.some.injEq] at h2
    rw [h2]
    exact List.mem_map.2 ⟨_, List.getElem_mem hk', rfl⟩
end Go.Proofs.YtmmkebdaijmpiaaGreat
