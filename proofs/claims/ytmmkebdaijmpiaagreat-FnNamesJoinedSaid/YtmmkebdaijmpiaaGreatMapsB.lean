/- Maps keyed by texts or bytes, as lists of entries, with their stamps: what a look-up finds, what an update leaves. Over any program. -/
import Derived.WalkKit
import Derived.MapKept
import Derived.Maps.Own
import Derived.Maps.OwnOps
namespace Go.Proofs.YtmmkebdaijmpiaaGreat
open Go.RowKit
set_option linter.unusedVariables false
set_option linter.unusedSimpArgs false

/-- What a list of entries holds under a key, and where. -/
def mapFind {κ : Type} [DecidableEq κ] (k : κ) : List (κ × Value) → Nat → Option (Nat × Value)
  | [], _ => none
  | x :: l, i => if k = x.1 then some (i, x.2) else mapFind k l (i + 1)

/-- What a list of entries is behind an update. -/
def mapPut {κ : Type} [DecidableEq κ] (k : κ) (v : Value) : List (κ × Value) → List (κ × Value)
  | [] => [(k, v)]
  | x :: l => if k = x.1 then (x.1, v) :: l else x :: mapPut k v l

/-- A kind of keys: how they are written as values. -/
structure KeyKind (κ : Type) [DecidableEq κ] where
  desc : TypeDesc
  emb : κ → Value
  same : ∀ a b, Instr.sameNow desc (emb a) (emb b) = some (decide (a = b))
  bits : ∀ a, Instr.sameBits 10000 (emb a) (emb a) = true
  plain : ∀ (P : Program) (t : TypeId) (e : Bool) (a : κ) (w : World), P.underlying t = some desc → (Instr.checkKey e 10000 t (emb a)).run P w = .ok () w

theorem beq_bytes (a b : ByteArray) : (a == b) = decide (a = b) := by
  show ByteArray.beq a b = _
  unfold ByteArray.beq
  rw [Bool.eq_iff_iff]; simp [ByteArray.ext_iff]
theorem toList_beq (a b : ByteArray) : (a.toList == b.toList) = decide (a = b) := by
  rw [ByteArray.toList_eq, ByteArray.toList_eq, Bool.eq_iff_iff]
  simp [ByteArray.ext_iff]

def strKey : KeyKind ByteArray where
  desc := .string
  emb := .string
  same := fun a b => by
    simp only [Instr.sameNow, beq_bytes]
  bits := fun a => by
    show (a == a) = true
    rw [beq_bytes]
    exact decide_eq_true rfl
  plain := fun P t e a w h => by
    show (Instr.checkKey e (Nat.succ 9999) t (.string a)).run P w = _
    rw [Instr.checkKey]
    simp only [Sem.run_bind, run_underlying h, Result.andThen_ok, Sem.run_pure]

def byteKey : KeyKind UInt8 where
  desc := .int .u8
  emb := fun c => .int .u8 c.toNat
  same := fun a b => by
    simp only [Instr.sameNow, if_true]
    congr 1
    rw [Bool.eq_iff_iff]
    simp only [beq_iff_eq, decide_eq_true_eq]
    constructor
    · intro h; exact UInt8.toNat_inj.mp (by omega)
    · intro h; rw [h]
  bits := fun a => by simp [Instr.sameBits]
  plain := fun P t e a w h => by
    show (Instr.checkKey e (Nat.succ 9999) t (.int .u8 a.toNat)).run P w = _
    rw [Instr.checkKey]
    simp only [Sem.run_bind, run_underlying h, Result.andThen_ok, Sem.run_pure]

section
variable {κ : Type} [DecidableEq κ] (K : KeyKind κ) {P : Program}

def entriesAre (es : List MapEntry) (L : List (κ × Value)) : Prop := es.map (fun e => (e.key, e.val)) = L.map fun x => (K.emb x.1, x.2)

theorem findNow_is (k : κ) : ∀ (es : List MapEntry) (L : List (κ × Value)) (i : Nat), entriesAre K es L → Instr.findNow K.desc (K.emb k) es i = some (mapFind k L i)
  | [], [], i, _ => rfl
  | [], y :: L, i, h => by simp [entriesAre] at h
  | e :: es, [], i, h => by simp [entriesAre] at h
  | e :: es, y :: L, i, h => by
    simp only [entriesAre, List.map_cons, List.cons.injEq, Prod.mk.injEq] at h
    obtain ⟨⟨h1, h2⟩, h3⟩ := h
    rw [Instr.findNow, h1, K.same, mapFind]
    by_cases c : k = y.1
    · simp [c, h2]
    · simp only [c, decide_false, if_false]
      exact findNow_is k es L (i + 1) h3

/-- No two entries bear one stamp, and all stamps are elder than the clock. -/
def bornOk (es : List MapEntry) (clock : Nat) : Prop := (∀ x ∈ es, x.born < clock) ∧ (es.map (·.born)).Nodup
/-- A block is a map of these entries. -/
def MapIs (w : World) (m : Nat) (L : List (κ × Value)) : Prop := ∃ es clock, w.heap[m]? = some (.map es clock) ∧ entriesAre K es.toList L ∧ bornOk es.toList clock

variable {K}
theorem MapIs.later {w w' : World} {m : Nat} {L : List (κ × Value)} (h : MapIs K w m L) (hk : ∀ b, b < w.heap.size → w'.heap[b]? = w.heap[b]?) : MapIs K w' m L := by
  obtain ⟨es, clock, hm, he⟩ := h
  exact ⟨es, clock, (hk m (lt_of_block hm)).trans hm, he⟩
theorem MapIs.at {w w' : World} {m : Nat} {L : List (κ × Value)} (h : MapIs K w m L) (hk : w'.heap[m]? = w.heap[m]?) : MapIs K w' m L := by
  obtain ⟨es, clock, hm, he⟩ := h
  exact ⟨es, clock, hk.trans hm, he⟩
theorem MapIs.lt {w : World} {m : Nat} {L : List (κ × Value)} (h : MapIs K w m L) : m < w.heap.size := by
  obtain ⟨es, clock, hm, he⟩ := h
  exact lt_of_block hm
theorem MapIs.empty (w : World) : MapIs K (w.alloc (.map #[] 0)) w.heap.size [] :=
  ⟨#[], 0, by show (w.heap.push _)[w.heap.size]? = _; simp, rfl, by simp [bornOk]⟩
theorem MapIs.ne {w : World} {m b : Nat} {L : List (κ × Value)} (h : MapIs K w m L) {c : Array Value} {t : TypeId} {z : Nat × Nat} (hb : w.heap[b]? = some (.cells c t z)) : m ≠ b := by
  obtain ⟨es, clock, hm, he⟩ := h
  intro e
  subst e
  rw [hm] at hb
  cases hb

/-- What a look-up answers. -/
def lookedUp (z : Value) (ok : Bool) (r : Option (Nat × Value)) : Value :=
  match r with
  | some (_, v) => if ok then .tuple #[v, .bool true] else v
  | none => if ok then .tuple #[z, .bool false] else z

theorem run_lookup_map {w : World} {m : Nat} {L : List (κ × Value)} {T kt et : TypeId} {z : Value} (h : MapIs K w m L) (hT : P.underlying T = some (.map kt et)) (hk : P.underlying kt = some K.desc)
    (hz : (zeroValue et).run P w = .ok z w) (k : κ) (ok : Bool) :
    (Instr.lookup T (.map (some m)) (K.emb k) ok).run P w = .ok (lookedUp z ok (mapFind k L 0)) w := by
  obtain ⟨es, clock, hm, he⟩ := h
  obtain ⟨he, hbo⟩ := he
  have hf := findNow_is K k es.toList L 0 he
  unfold Instr.lookup
  simp only [Sem.run_bind, run_underlying hT, Result.andThen_ok, MapKept.run_getObj_map hm, Sem.run_pure, K.plain P kt _ k w hk]
  unfold Instr.findKey
  simp only [Sem.run_bind, run_underlying hk, Result.andThen_ok, hf, Sem.run_pure]
  cases hr : mapFind k L 0 with
  | none => simp [lookedUp, hz]
  | some r => obtain ⟨i, v⟩ := r; simp [lookedUp]

theorem run_lookup_nilmap {w : World} {T kt et : TypeId} {z : Value} (hT : P.underlying T = some (.map kt et)) (hk : P.underlying kt = some K.desc)
    (hz : (zeroValue et).run P w = .ok z w) (k : κ) (ok : Bool) :
    (Instr.lookup T (.map none) (K.emb k) ok).run P w = .ok (lookedUp z ok none) w := by
  unfold Instr.lookup
  simp only [Sem.run_bind, run_underlying hT, Result.andThen_ok, Sem.run_pure, K.plain P kt _ k w hk]
  unfold Instr.findKey
  simp [Sem.run_bind, run_underlying hk, Instr.findNow, lookedUp, hz]

theorem mapFind_lt (k : κ) : ∀ (L : List (κ × Value)) (i j : Nat) (v : Value), mapFind k L i = some (j, v) → i ≤ j ∧ j < i + L.length
  | [], i, j, v, h => by simp [mapFind] at h
  | x :: L, i, j, v, h => by
    rw [mapFind] at h
    split at h
    · cases h; simp
    · have := mapFind_lt k L (i + 1) j v h; simp; omega

theorem mapFind_key (k : κ) : ∀ (L : List (κ × Value)) (i j : Nat) (v : Value), mapFind k L i = some (j, v) → (L[j - i]?).map (·.1) = some k
  | [], i, j, v, h => by simp [mapFind] at h
  | x :: L, i, j, v, h => by
    rw [mapFind] at h
    split at h
    · rename_i c; cases h; simp [c]
    · have h1 := mapFind_lt k L (i + 1) j v h
      have h2 := mapFind_key k L (i + 1) j v h
      rw [show j - i = (j - (i + 1)) + 1 by omega]
      simpa using h2

theorem mapPut_at (k : κ) (v : Value) : ∀ (L : List (κ × Value)) (i j : Nat) (u : Value), mapFind k L i = some (j, u) → mapPut k v L = L.modify (j - i) fun x => (x.1, v)
  | [], i, j, u, h => by simp [mapFind] at h
  | x :: L, i, j, u, h => by
    rw [mapFind] at h
    rw [mapPut]
    split at h
    · rename_i c; cases h; simp [c]
    · rename_i c
      have h1 := mapFind_lt k L (i + 1) j u h
      rw [if_neg c, mapPut_at k v L (i + 1) j u h, show j - i = (j - (i + 1)) + 1 by omega]
      simp

theorem mapPut_new (k : κ) (v : Value) : ∀ (L : List (κ × Value)) (i : Nat), mapFind k L i = none → mapPut k v L = L ++ [(k, v)]
  | [], i, _ => rfl
  | x :: L, i, h => by
    rw [mapFind] at h
    rw [mapPut]
    split at h
    · cases h
    · rename_i c
      rw [if_neg c, mapPut_new k v L (i + 1) h]
      rfl

theorem setBlock_at {w : World} {m : Nat} {o o' : Obj} (hm : w.heap[m]? = some o) : ({ w with heap := w.heap.setIfInBounds m o' } : World).heap[m]? = some o' := by
  have hlt := lt_of_block hm
  simp [Array.getElem?_setIfInBounds, hlt]
theorem setBlock_ne {w : World} {m n : Nat} {o' : Obj} (hn : n ≠ m) : ({ w with heap := w.heap.setIfInBounds m o' } : World).heap[n]? = w.heap[n]? := by
  simp [Array.getElem?_setIfInBounds, Ne.symm hn]

theorem entriesAre_getElem {es : List MapEntry} {L : List (κ × Value)} (h : entriesAre K es L) (j : Nat) : (es[j]?).map (·.key) = (L[j]?).map fun x => K.emb x.1 := by
  have := congrArg (fun l => (l[j]?).map Prod.fst) h
  simpa [List.getElem?_map, Option.map_map, Function.comp_def] using this

theorem entriesAre_modify {es : List MapEntry} {L : List (κ × Value)} (h : entriesAre K es L) (j : Nat) (k : κ) (v : Value) (hk : (L[j]?).map (·.1) = some k) :
    entriesAre K (es.modify j fun e => { e with key := K.emb k, val := v }) (L.modify j fun x => (x.1, v)) := by
  unfold entriesAre at *
  apply List.ext_getElem?
  intro i
  have hi := congrArg (fun l => l[i]?) h
  simp only [List.getElem?_map, List.getElem?_modify] at hi ⊢
  by_cases c : j = i
  · subst c
    simp only [if_true, Option.map_map] at hi ⊢
    cases hL : L[j]? with
    | none => rw [hL] at hk; simp at hk
    | some y =>
      rw [hL] at hk hi
      simp only [Option.map_some, Option.some.injEq] at hk
      cases hE : es[j]? with
      | none => rw [hE] at hi; simp at hi
      | some e => simp [hk]
  · simpa [c] using hi

/-- What an update does: the world's one block. -/
theorem run_mapUpdate_map {w : World} {m : Nat} {L : List (κ × Value)} {T kt et : TypeId} (h : MapIs K w m L) (hT : P.underlying T = some (.map kt et)) (hk : P.underlying kt = some K.desc) (k : κ) (v : Value) :
    ∃ o', (Instr.mapUpdate T (.map (some m)) (K.emb k) v).run P w = .ok () { w with heap := w.heap.setIfInBounds m o' } ∧ MapIs K { w with heap := w.heap.setIfInBounds m o' } m (mapPut k v L) := by
  obtain ⟨es, clock, hm, he⟩ := h
  obtain ⟨he, hbo⟩ := he
  have hf := findNow_is K k es.toList L 0 he
  unfold Instr.mapUpdate
  simp only [Sem.run_bind, run_underlying hT, Result.andThen_ok, MapKept.run_getObj_map hm, K.plain P kt _ k w hk]
  unfold Instr.findKey
  simp only [Sem.run_bind, run_underlying hk, Result.andThen_ok, hf, Sem.run_pure]
  cases hr : mapFind k L 0 with
  | none =>
    refine ⟨.map (es.push { key := K.emb k, val := v, born := clock }) (clock + 1), ?_, ?_⟩
    · simp only [MapKept.run_setObj_map _ hm]
    · refine ⟨_, _, setBlock_at hm, ?_⟩
      rw [mapPut_new k v L 0 hr]
      refine ⟨?_, ?_⟩
      · unfold entriesAre at *
        simp [he]
      · refine ⟨fun x hx => ?_, ?_⟩
        · rw [Array.toList_push] at hx
          rcases List.mem_append.1 hx with hx | hx
          · exact Nat.lt_succ_of_lt (hbo.1 x hx)
          · rw [List.mem_singleton.1 hx]; exact Nat.lt_succ_self _
        · rw [Array.toList_push, List.map_append, List.nodup_append]
          refine ⟨hbo.2, by simp, ?_⟩
          intro a ha b hb e
          simp only [List.map_cons, List.map_nil, List.mem_singleton] at hb
          obtain ⟨x, hx, rfl⟩ := List.mem_map.1 ha
          have := hbo.1 x hx
          omega
  | some r =>
    obtain ⟨j, u⟩ := r
    have hkey := mapFind_key k L 0 j u hr
    rw [Nat.sub_zero] at hkey
    have hek : ((es[j]?).map (·.key)).getD (K.emb k) = K.emb k := by
      have := entriesAre_getElem he j
      rw [Array.getElem?_toList] at this
      rw [this]
      cases hL : L[j]? with
      | none => rfl
      | some y => rw [hL] at hkey; simp at hkey; simp [hkey]
    refine ⟨.map (es.modify j fun e => { e with key := K.emb k, val := v }) clock, ?_, ?_⟩
    · simp only [hek, Instr.keyThatStays, K.bits, if_true, Sem.run_pure, Sem.run_bind, Result.andThen_ok, MapKept.run_setObj_map _ hm]
    · refine ⟨_, _, setBlock_at hm, ?_⟩
      rw [mapPut_at k v L 0 j u hr, Array.toList_modify]
      refine ⟨entriesAre_modify he j k v hkey, fun x hx => ?_, ?_⟩
      · obtain ⟨i, hi, rfl⟩ := List.getElem_of_mem hx
        rw [List.getElem_modify]
        have hi' : i < es.toList.length := by simpa using hi
        have q := hbo.1 _ (List.getElem_mem hi')
        split
        · exact q
        · exact q
      · have e : (es.toList.modify j fun e => { e with key := K.emb k, val := v }).map (·.born) = es.toList.map (·.born) := by
          apply List.ext_getElem?
          intro i
          simp only [List.getElem?_map, List.getElem?_modify]
          by_cases c : j = i
          · subst c
            cases es.toList[j]? <;> simp
          · simp [c]
        rw [e]
        exact hbo.2
end
end Go.Proofs.YtmmkebdaijmpiaaGreat
