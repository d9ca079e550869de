/- few's VisitAll and AddFlagSet: the flags of another set, by rising names, that are not there by their names. -/
import Derived.Test.YtmmkebdaijmpiaaGreatJAdd
import Derived.Test.YtmmkebdaijmpiaaGreatVImpl
namespace Go.Proofs.YtmmkebdaijmpiaaGreat
open Go.RowKit
set_option linter.unusedVariables false
set_option linter.unusedSimpArgs false

def offerD (l : List DefD) (x : DefD) : List DefD := match placeD l x.nm with
  | some _ => l
  | none => l ++ [x]
def joinD (l xs : List DefD) : List DefD := xs.foldl offerD l
def JoinOk (l xs : List DefD) : Prop := ∀ k (hk : k < xs.length), placeD (joinD l (xs.take k)) xs[k].nm = none → okP xs[k] (joinD l (xs.take k))
theorem joinD_snoc (l xs : List DefD) (x : DefD) : joinD l (xs ++ [x]) = offerD (joinD l xs) x := by rw [joinD, List.foldl_append]; rfl
theorem offer_map (es : List (DefD × Nat)) (x : DefD) (G : Nat) : (offer es x G).map (·.1) = offerD (es.map (·.1)) x := by
  rw [offer, offerD, placeE_eq]
  cases placeD (es.map (·.1)) x.nm <;> simp
theorem offerD_length (l : List DefD) (x : DefD) : (offerD l x).length ≤ l.length + 1 := by
  unfold offerD
  split
  · omega
  · simp
theorem joinD_length (l : List DefD) : ∀ xs : List DefD, (joinD l xs).length ≤ l.length + xs.length := by
  intro xs
  suffices h : ∀ (xs l : List DefD), (xs.foldl offerD l).length ≤ l.length + xs.length from h xs l
  intro xs
  induction xs with
  | nil => intro l; simp
  | cons x xs ih =>
    intro l
    have h1 := ih (offerD l x)
    have h2 := offerD_length l x
    simp only [List.foldl_cons, List.length_cons]
    omega
theorem joinOk_all {l xs : List DefD} (hl : AllOk l) (h : JoinOk l xs) : ∀ k, k ≤ xs.length → AllOk (joinD l (xs.take k)) := by
  intro k
  induction k with
  | zero => intro _; simpa [joinD] using hl
  | succ k ih =>
    intro hk
    have hk' : k < xs.length := by omega
    rw [List.take_succ_eq_append_getElem hk', joinD_snoc, offerD]
    cases hp : placeD (joinD l (xs.take k)) xs[k].nm with
    | some i => exact ih (by omega)
    | none => exact allOk_snoc (ih (by omega)) (h k hk' hp)
/-- Flags as they lie. -/
def FlagsIn (w0 : World) (es : List (DefD × Nat)) (w : World) : Prop := ∀ e ∈ es, FlagD w0 e.1.nm e.1.sh e.1.k e.1.on e.1.tx e.2 w
theorem FlagsIn.keep {w0 w w' : World} {es : List (DefD × Nat)} (h : FlagsIn w0 es w) (hk : KeepT w w') : FlagsIn w0 es w' := fun e he => (h e he).keep hk
theorem FlagD.base {w0 wx w : World} {nm sh : ByteArray} {k : Int} {on : Bool} {tx : ByteArray} {G : Nat} (h : FlagD wx nm sh k on tx G w) (hw : w0.heap.size ≤ wx.heap.size) : FlagD w0 nm sh k on tx G w := by
  rcases h with ⟨e, h⟩ | ⟨e, h⟩
  · obtain ⟨P, lP, hG, hP⟩ := h.val
    exact .inl ⟨e, ⟨P, Nat.le_trans hw lP, hG, hP⟩⟩
  · obtain ⟨P, lP, hG, hP⟩ := h.val
    exact .inr ⟨e, ⟨P, Nat.le_trans hw lP, hG, hP⟩⟩
/-- The flags of a set, by rising names. -/
def sortE (es : List (DefD × Nat)) : List (DefD × Nat) := (srt (es.map fun e => e.1.nm)).map fun k => es[(placeE es k).getD 0]!
theorem sortE_length (es : List (DefD × Nat)) : (sortE es).length = es.length := by rw [sortE, List.length_map, srt_length, List.length_map]
theorem place_of_mem {es : List (DefD × Nat)} {k : ByteArray} (h : k ∈ es.map fun e => e.1.nm) : ∃ i, placeE es k = some i := by
  cases hp : placeE es k with
  | some i => exact ⟨i, rfl⟩
  | none =>
    rw [placeE, List.findIdx?_eq_none_iff] at hp
    obtain ⟨e, he, rfl⟩ := List.mem_map.1 h
    have := hp e he
    simp at this
theorem sortE_mem {es : List (DefD × Nat)} : ∀ e ∈ sortE es, e ∈ es := by
  intro e he
  obtain ⟨k, hk, rfl⟩ := List.mem_map.1 he
  obtain ⟨i, hp⟩ := place_of_mem ((srt_perm _).mem_iff.1 hk)
  obtain ⟨hi, _⟩ := place_some hp
  rw [hp, Option.getD_some, getElem!_pos es i hi]
  exact List.getElem_mem hi
theorem sortE_vals (es : List (DefD × Nat)) : (srt ((flE es).map (·.1))).map (valOf (flE es)) = (sortE es).map fun e => ptr e.2 := by
  have e1 : (flE es).map (·.1) = es.map fun e => e.1.nm := by simp [flE]
  rw [e1, sortE, List.map_map]
  refine List.map_congr_left fun k hk => ?_
  obtain ⟨i, hp⟩ := place_of_mem ((srt_perm _).mem_iff.1 hk)
  rw [valOf, find_place, hp]
  simp [hp]
def joinE (es xs : List (DefD × Nat)) : List (DefD × Nat) := xs.foldl (fun a e => offer a e.1 e.2) es
theorem joinE_snoc (es xs : List (DefD × Nat)) (e : DefD × Nat) : joinE es (xs ++ [e]) = offer (joinE es xs) e.1 e.2 := by rw [joinE, List.foldl_append]; rfl
theorem joinE_map (es : List (DefD × Nat)) : ∀ xs : List (DefD × Nat), (joinE es xs).map (·.1) = joinD (es.map (·.1)) (xs.map (·.1)) := by
  intro xs
  suffices h : ∀ (xs es : List (DefD × Nat)), (xs.foldl (fun a e => offer a e.1 e.2) es).map (·.1) = (xs.map (·.1)).foldl offerD (es.map (·.1)) from h xs es
  intro xs
  induction xs with
  | nil => intro es; rfl
  | cons x xs ih =>
    intro es
    rw [List.foldl_cons, ih, List.map_cons, List.foldl_cons, offer_map]
theorem mem_offer {es : List (DefD × Nat)} {x : DefD} {G : Nat} {e : DefD × Nat} (h : e ∈ offer es x G) : e ∈ es ∨ e = (x, G) := by
  unfold offer at h
  split at h
  · exact .inl h
  · rcases List.mem_append.1 h with h | h
    · exact .inl h
    · exact .inr (List.mem_singleton.1 h)
/-- Another set's cell is written. -/
theorem ManyE.other {w0 w : World} {F : Nat} {es : List (DefD × Nat)} (h : ManyE w0 F es w) {F2 : Nat} {c : Array Value} (h2 : w.heap[F2]? = some (.cells c 75 (0, 0))) (hne : F ≠ F2) (hb : w0.heap.size ≤ F2) (j : Nat) (v : Value) : ManyE w0 F es (w.setCell ⟨F2, j, none⟩ v) := by
  obtain ⟨fm, sm, ofv, h⟩ := h
  have k : ∀ b, b ≠ F2 → (w.setCell ⟨F2, j, none⟩ v).heap[b]? = w.heap[b]? := fun b hb => heap_ne _ _ _ _ hb
  refine ⟨fm, sm, ofv, h.move (h.bel.setCell hb _) (k F hne) (fun b e => k b (h.hfm.ne h2 b e)) (fun b e => k b (h.hsm.ne h2 b e)) (fun g e => ?_) (fun b c hb => k b (cells_ne hb h2 (by decide)))⟩
  obtain ⟨_, c', hc⟩ := ownsRow_cells h.rOf e
  exact k g (cells_ne hc h2 (by decide))
end Go.Proofs.YtmmkebdaijmpiaaGreat
