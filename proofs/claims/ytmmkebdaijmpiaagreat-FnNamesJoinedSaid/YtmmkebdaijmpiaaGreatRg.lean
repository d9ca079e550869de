/- A range loop over a map keyed by texts: the keys that came out, whichever the order. Over any program. -/
import Derived.Test.YtmmkebdaijmpiaaGreatMany
import Derived.Maps.RangeRun
namespace Go.Proofs.YtmmkebdaijmpiaaGreat
open Go.RowKit
set_option linter.unusedVariables false
set_option linter.unusedSimpArgs false
open Go.ChangeMaps (setBlock)

/-- The iterator in block r over the map in block b, behind these keys. -/
def Rg (w : World) (b r : Nat) (L : List (ByteArray × Value)) (ks : List ByteArray) : Prop :=
  ∃ (es : Array MapEntry) (clock since : Nat) (seen : Array Nat) (c0 : Nat) (ds : List MapEntry), w.heap[b]? = some (.map es clock) ∧ entriesAre strKey es.toList L ∧ bornOk es.toList clock ∧
    w.heap[r]? = some (.mapIter (some b) since seen c0) ∧ (∀ x ∈ es.toList, x.born < since) ∧ since ≤ c0 ∧ since ≤ clock ∧
    (∀ x ∈ ds, x ∈ es.toList) ∧ (ds.map (·.born)).Nodup ∧ (∀ x ∈ es.toList, seen.contains x.born = true ↔ x ∈ ds) ∧ ds.map (·.key) = ks.map Value.string
theorem Rg.keep {w w' : World} {b r : Nat} {L : List (ByteArray × Value)} {ks : List ByteArray} (h : Rg w b r L ks) (h1 : w'.heap[b]? = w.heap[b]?) (h2 : w'.heap[r]? = w.heap[r]?) : Rg w' b r L ks := by
  obtain ⟨es, clock, since, seen, c0, ds, a1, a2, a3, a4, rest⟩ := h
  exact ⟨es, clock, since, seen, c0, ds, h1.trans a1, a2, a3, h2.trans a4, rest⟩
theorem Rg.mapIs {w : World} {b r : Nat} {L : List (ByteArray × Value)} {ks : List ByteArray} (h : Rg w b r L ks) : MapIs strKey w b L := by
  obtain ⟨es, clock, since, seen, c0, ds, a1, a2, a3, a4, rest⟩ := h
  exact ⟨es, clock, a1, a2, a3⟩
theorem Rg.cells {w : World} {b r : Nat} {L : List (ByteArray × Value)} {ks : List ByteArray} (h : Rg w b r L ks) {g : Nat} {c : Array Value} {t : TypeId} {z : Nat × Nat} (hg : w.heap[g]? = some (.cells c t z)) : b ≠ g ∧ r ≠ g := by
  obtain ⟨es, clock, since, seen, c0, ds, a1, a2, a3, a4, rest⟩ := h
  refine ⟨?_, ?_⟩
  · rintro rfl; rw [a1] at hg; cases hg
  · rintro rfl; rw [a4] at hg; cases hg
theorem Rg.lt {w : World} {b r : Nat} {L : List (ByteArray × Value)} {ks : List ByteArray} (h : Rg w b r L ks) : b < w.heap.size ∧ r < w.heap.size := by
  obtain ⟨es, clock, since, seen, c0, ds, a1, a2, a3, a4, rest⟩ := h
  exact ⟨lt_of_block a1, lt_of_block a4⟩
/-- How many came out: for a loop's measure. -/
def seenN (w : World) (r : Nat) : Nat := (w.iterSeen r).size
theorem keys_perm {L : List (ByteArray × Value)} {es ds : List MapEntry} {ks : List ByteArray} (he : entriesAre strKey es L) (hp : ds.Perm es) (hk : ds.map (·.key) = ks.map Value.string) : ks.Perm (L.map (·.1)) := by
  have h1 : es.map (·.key) = (L.map (·.1)).map Value.string := by
    have := congrArg (fun l => l.map Prod.fst) he
    simpa [List.map_map, Function.comp_def, strKey] using this
  have h2 : (ks.map Value.string).Perm ((L.map (·.1)).map Value.string) := by rw [← h1, ← hk]; exact hp.map _
  have inj : ∀ l : List ByteArray, (l.map Value.string).map (fun v => match v with | .string s => s | _ => ⟨#[]⟩) = l := fun l => by simp [List.map_map, Function.comp_def]
  have h3 := h2.map (fun v => match v with | .string s => s | _ => ⟨#[]⟩)
  rwa [inj, inj] at h3
theorem entriesAre_len {L : List (ByteArray × Value)} {es : List MapEntry} (he : entriesAre strKey es L) : es.length = L.length := by
  have := congrArg List.length he
  simpa using this
theorem born_mem {es : List MapEntry} (hn : (es.map (·.born)).Nodup) {ds : List MapEntry} (hds : ∀ x ∈ ds, x ∈ es) {e : MapEntry} (he : e ∈ es) (h : e.born ∈ ds.map (·.born)) : e ∈ ds := by
  obtain ⟨x, hx, hxe⟩ := List.mem_map.1 h
  rw [← born_inj hn (hds x hx) he hxe]
  exact hx
theorem nodup_of_map {α β : Type} {f : α → β} : ∀ {l : List α}, (l.map f).Nodup → l.Nodup
  | [], _ => List.nodup_nil
  | a :: l, h => by
    rw [List.map_cons, List.nodup_cons] at h
    rw [List.nodup_cons]
    exact ⟨fun ha => h.1 (List.mem_map.2 ⟨a, ha, rfl⟩), nodup_of_map h.2⟩
theorem len_sub : ∀ (l m : List Nat), l.Nodup → (∀ x ∈ l, x ∈ m) → l.length ≤ m.length
  | [], _, _, _ => Nat.zero_le _
  | a :: l, m, hn, h => by
    rw [List.nodup_cons] at hn
    have ha := h a (List.mem_cons_self ..)
    have := len_sub l (m.erase a) hn.2 (fun x hx => (List.mem_erase_of_ne (fun (e : x = a) => hn.1 (by rw [← e]; exact hx))).2 (h x (List.mem_cons_of_mem _ hx)))
    rw [List.length_erase_of_mem ha] at this
    have := List.length_pos_of_mem ha
    simp only [List.length_cons]
    omega
theorem len_born {ds es : List MapEntry} (hn : (ds.map (·.born)).Nodup) (h : ∀ x ∈ ds, x ∈ es) : ds.length ≤ es.length := by
  have := len_sub (ds.map (·.born)) (es.map (·.born)) hn (fun x hx => by
    obtain ⟨y, hy, rfl⟩ := List.mem_map.1 hx
    exact List.mem_map.2 ⟨y, h y hy, rfl⟩)
  simpa using this
theorem Rg.len {w : World} {b r : Nat} {L : List (ByteArray × Value)} {ks : List ByteArray} (h : Rg w b r L ks) : ks.length ≤ L.length := by
  obtain ⟨es, clock, since, seen, c0, ds, a1, a2, a3, a4, a5, a6, a7, a8, a9, a10, a11⟩ := h
  have e1 := congrArg List.length a11
  simp only [List.length_map] at e1
  rw [← e1, ← entriesAre_len a2]
  exact len_born a9 a8
section
variable {P : Program}
theorem Rg.start {w : World} {b : Nat} {L : List (ByteArray × Value)} {t k e : TypeId} (h : MapIs strKey w b L) (ht : P.underlying t = some (.map k e)) :
    ∃ o, (Instr.range t (.map (some b))).run P w = .ok (.pointer (some ⟨w.heap.size, 0, none⟩)) (w.alloc o) ∧ Rg (w.alloc o) b w.heap.size L [] := by
  have hlt := h.lt
  obtain ⟨es, clock, hb, he, hbo⟩ := h
  exact ⟨_, run_range_map w t k e b es clock ht hb, es, clock, clock, #[], clock, [], (heap_alloc_old w _ hlt).trans hb, he, hbo, heap_alloc_new w _, hbo.1, Nat.le_refl _, Nat.le_refl _, fun x hx => (by simp at hx), by simp, fun x hx => (by simp), rfl⟩
theorem Rg.next {w : World} {b r : Nat} {L : List (ByteArray × Value)} {ks : List ByteArray} (h : Rg w b r L ks) (ty : TypeId) :
    (ks.Perm (L.map (·.1)) ∧ (Instr.next (.pointer (some ⟨r, 0, none⟩)) false ty).run P w = .ok (.tuple #[.bool false]) w) ∨
    ∃ (k : ByteArray) (v : Value) (w' : World), ks.length < L.length ∧ (Instr.next (.pointer (some ⟨r, 0, none⟩)) false ty).run P w = .ok (.tuple #[.bool true, .string k, v]) w' ∧ Rg w' b r L (ks ++ [k]) ∧ w'.heap.size = w.heap.size ∧ (∀ i, i ≠ r → w'.heap[i]? = w.heap[i]?) ∧ (∀ B, B ≤ r → Below B w w') ∧
      (Instr.entry (.pointer (some ⟨r, 0, none⟩))).run P w' = .ok (.tuple #[.string k, v]) w' := by
  have hh := h
  obtain ⟨es, clock, since, seen, c0, ds, hb, he, hbo, hr, hold, hsc, hsk, a8, a9, a10, a11⟩ := h
  have hrb : b ≠ r := by rintro rfl; rw [hb] at hr; cases hr
  rcases run_next_at (P := P) w ty r b since c0 seen es clock hr hb hold hsc with ⟨h0, hrun⟩ | ⟨e, hel, w1, hal, hrun⟩
  · refine .inl ⟨keys_perm he ?_ a11, hrun⟩
    refine (List.perm_ext_iff_of_nodup (nodup_of_map a9) (nodup_of_map hbo.2)).2 fun x => ⟨a8 x, fun hx => (a10 x hx).1 (all_seen es seen h0 x hx)⟩
  · obtain ⟨hem, hes⟩ := mem_left hel
    have hnd : e ∉ ds := fun hx => by rw [(a10 e hem).2 hx] at hes; cases hes
    obtain ⟨k, hk⟩ : ∃ k : ByteArray, e.key = .string k := by
      obtain ⟨i, hi, rfl⟩ := List.getElem_of_mem hem
      have := entriesAre_getElem he i
      rw [List.getElem?_eq_getElem hi] at this
      cases hL : L[i]? with
      | none => rw [hL] at this; simp at this
      | some y => rw [hL] at this; simp [strKey] at this; exact ⟨_, this⟩
    have hr1 : w1.heap[r]? = some (.mapIter (some b) since seen c0) := by rcases hal with rfl | rfl <;> exact hr
    have hb1 : w1.heap[b]? = some (.map es clock) := by rcases hal with rfl | rfl <;> exact hb
    have s1 : ∀ o, (setBlock w1 r o).heap[r]? = some o := fun o => by
      have hlt := lt_of_block hr1
      simp [setBlock, Array.getElem?_setIfInBounds, hlt]
    have s2 : ∀ o i, i ≠ r → (setBlock w1 r o).heap[i]? = w.heap[i]? := fun o i hi => by
      have : w1.heap = w.heap := by rcases hal with rfl | rfl <;> rfl
      simp [setBlock, Array.getElem?_setIfInBounds, Ne.symm hi, this]
    have hb2 := (s2 (.mapIter (some b) since (seen.push e.born) clock) b hrb).trans hb
    have hlen : ks.length < L.length := by
      have e1 := congrArg List.length a11
      simp only [List.length_map] at e1
      rw [← e1, ← entriesAre_len he]
      have : (e :: ds).length ≤ es.toList.length := len_born (by rw [List.map_cons, List.nodup_cons]; exact ⟨fun hx => hnd (born_mem hbo.2 a8 hem hx), a9⟩) (fun x hx => by
        rcases List.mem_cons.1 hx with rfl | hx
        · exact hem
        · exact a8 x hx)
      simp only [List.length_cons] at this
      omega
    have hrg : Rg (setBlock w1 r (.mapIter (some b) since (seen.push e.born) clock)) b r L (ks ++ [k]) := by
      refine ⟨es, clock, since, seen.push e.born, clock, ds ++ [e], hb2, he, hbo, s1 _, hold, hsk, hsk, fun x hx => ?_, ?_, fun x hx => ?_, ?_⟩
      · rcases List.mem_append.1 hx with hx | hx
        · exact a8 x hx
        · rw [List.mem_singleton.1 hx]; exact hem
      · rw [List.map_append, List.nodup_append]
        refine ⟨a9, by simp, ?_⟩
        intro x hx y hy e'
        simp only [List.map_cons, List.map_nil, List.mem_singleton] at hy
        subst hy; subst e'
        exact hnd (born_mem hbo.2 a8 hem hx)
      · rw [contains_push, List.mem_append, Bool.or_eq_true, a10 x hx, List.mem_singleton, beq_iff_eq]
        exact or_congr Iff.rfl ⟨fun q => born_inj hbo.2 hx hem q, fun q => by rw [q]⟩
      · rw [List.map_append, List.map_append, a11]
        simp [hk]
    rw [hk] at hrun
    refine .inr ⟨k, e.val, _, hlen, hrun, hrg, ?_, s2 _, fun B hB => ?_, ?_⟩
    · rcases hal with rfl | rfl <;> simp [setBlock]
    · rcases hal with rfl | rfl <;> exact ⟨rfl, rfl, rfl, by simp [setBlock], fun i hi => s2 _ i (by omega)⟩
    · rw [run_entry_at _ r b since seen es clock e (s1 _) hb2 hem hbo.2, hk]
end
end Go.Proofs.YtmmkebdaijmpiaaGreat
