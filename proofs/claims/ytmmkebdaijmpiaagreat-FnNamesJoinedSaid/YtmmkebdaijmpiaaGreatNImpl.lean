/- impl.define over a set with any flags. -/
import Derived.Test.YtmmkebdaijmpiaaGreatNDef2
import Derived.Test.YtmmkebdaijmpiaaGreatNDefs
namespace Go.Proofs.YtmmkebdaijmpiaaGreat
open Go.RowKit
set_option linter.unusedVariables false
set_option linter.unusedSimpArgs false

/-- The flags of a set: their definitions, where they lie. -/
def flE (es : List (DefD × Nat)) : List (ByteArray × Value) := es.map fun e => (e.1.nm, ptr e.2)
def slE (es : List (DefD × Nat)) : List (UInt8 × Value) := es.flatMap fun e => ((firstB e.1.sh).map fun c => (c, ptr e.2)).toList
def olE (es : List (DefD × Nat)) : List Value := es.map fun e => ptr e.2
def ManyE (w0 : World) (F : Nat) (es : List (DefD × Nat)) (w : World) : Prop := ∃ fm sm ofv, Many w0 F fm (flE es) sm (slE es) ofv (olE es) w
theorem flE_snoc (es : List (DefD × Nat)) (x : DefD) (G : Nat) : flE (es ++ [(x, G)]) = flE es ++ [(x.nm, ptr G)] := by simp [flE]
theorem slE_snoc (es : List (DefD × Nat)) (x : DefD) (G : Nat) : slE (es ++ [(x, G)]) = slE es ++ ((firstB x.sh).map fun c => (c, ptr G)).toList := by simp [slE]
theorem olE_snoc (es : List (DefD × Nat)) (x : DefD) (G : Nat) : olE (es ++ [(x, G)]) = olE es ++ [ptr G] := by simp [olE]
theorem ManyE.later {w0 : World} {F : Nat} {es : List (DefD × Nat)} {w w' : World} (h : ManyE w0 F es w) (hb : Below w.heap.size w w') : ManyE w0 F es w' := by
  obtain ⟨fm, sm, ofv, h⟩ := h
  exact ⟨fm, sm, ofv, h.later hb⟩
theorem ManyE.bel {w0 : World} {F : Nat} {es : List (DefD × Nat)} {w : World} (h : ManyE w0 F es w) : Below w0.heap.size w0 w := by
  obtain ⟨fm, sm, ofv, h⟩ := h
  exact h.bel

/-- May x be added to these? -/
def okP (x : DefD) (l : List DefD) : Prop := (∀ y ∈ l, y.nm ≠ x.nm) ∧ (x.sh.size = 0 ∨ (x.sh.size = 1 ∧ ∀ y ∈ l, y.sh ≠ x.sh))
/-- All of a row could be added, one behind the other. -/
def AllOk (l : List DefD) : Prop := ∀ i (h : i < l.length), okP l[i] (l.take i)
theorem find_none {κ : Type} [DecidableEq κ] (k : κ) : ∀ (l : List (κ × Value)) (i : Nat), mapFind k l i = none ↔ ∀ x ∈ l, x.1 ≠ k
  | [], _ => by simp [mapFind]
  | x :: l, i => by
    rw [mapFind]
    by_cases h : k = x.1
    · simp [h]
    · rw [if_neg h, find_none k l]
      simp [Ne.symm h]
theorem one_byte {a b : ByteArray} (ha : a.size = 1) (hb : b.size = 1) (h : a[0] = b[0]) : a = b := by
  refine ByteArray.ext (Array.ext (by show a.size = b.size; omega) ?_)
  intro i h1 h2
  have : i = 0 := by
    have : i < a.size := h1
    omega
  subst this
  exact h
theorem allOk_le {l : List DefD} (h : AllOk l) : ∀ y ∈ l, y.sh.size ≤ 1 := by
  intro y hy
  obtain ⟨i, hi, rfl⟩ := List.getElem_of_mem hy
  rcases (h i hi).2 with h | ⟨h, _⟩ <;> omega
theorem ok_iff (x : DefD) (es : List (DefD × Nat)) (h : AllOk (es.map (·.1))) : addOk x.nm x.sh (flE es) (slE es) ↔ okP x (es.map (·.1)) := by
  unfold addOk okP
  refine and_congr ?_ (or_congr Iff.rfl ?_)
  · rw [find_none]
    constructor
    · intro k y hy
      obtain ⟨e, he, rfl⟩ := List.mem_map.1 hy
      exact k (e.1.nm, ptr e.2) (List.mem_map.2 ⟨e, he, rfl⟩)
    · intro k y hy
      obtain ⟨e, he, rfl⟩ := List.mem_map.1 hy
      exact k e.1 (List.mem_map.2 ⟨e, he, rfl⟩)
  · constructor
    · rintro ⟨h1, k⟩
      refine ⟨h1, fun y hy e => ?_⟩
      obtain ⟨q, hq, rfl⟩ := List.mem_map.1 hy
      rw [find_none] at k
      refine k (x.sh[0]'(by omega), ptr q.2) ?_ rfl
      refine List.mem_flatMap.2 ⟨q, hq, ?_⟩
      have e' : q.1.sh = x.sh := e
      rw [e', firstB_some (by omega)]
      simp
    · rintro ⟨h1, k⟩
      refine ⟨h1, ?_⟩
      rw [find_none]
      intro y hy e
      obtain ⟨q, hq, hy⟩ := List.mem_flatMap.1 hy
      have hq1 : q.1.sh.size ≤ 1 := allOk_le h _ (List.mem_map.2 ⟨q, hq, rfl⟩)
      by_cases h0 : q.1.sh.size = 0
      · rw [firstB_none h0] at hy; simp at hy
      · rw [firstB_some (by omega)] at hy
        simp only [Option.map_some, Option.toList_some, List.mem_singleton] at hy
        subst hy
        exact k q.1 (List.mem_map.2 ⟨q, hq, rfl⟩) (one_byte (by omega) h1 e)
theorem allOk_snoc {l : List DefD} {x : DefD} (h : AllOk l) (hx : okP x l) : AllOk (l ++ [x]) := by
  intro i hi
  simp only [List.length_append, List.length_singleton] at hi
  by_cases hlt : i < l.length
  · rw [List.getElem_append_left hlt, List.take_append_of_le_length (by omega)]
    exact h i hlt
  · obtain rfl : i = l.length := by omega
    simp only [List.getElem_concat_length, List.take_left']
    simpa using hx

/-- What comes of define. -/
structure EndE (w0 w : World) (F : Nat) (x : DefD) (es : List (DefD × Nat)) (e : Ending) (w' : World) : Prop where
  keep : KeepT w w'
  bel : Below w0.heap.size w0 w'
  good : okP x (es.map (·.1)) → e = .returned (.tuple #[]) ∧ ∃ G, w.heap.size ≤ G ∧ w0.heap.size ≤ G ∧ FlagD w0 x.nm x.sh x.k x.on x.tx G w' ∧ ManyE w0 F (es ++ [(x, G)]) w'
  bad : ¬ okP x (es.map (·.1)) → Dies e

set_option maxRecDepth 100000 in
theorem define_any {w0 w : World} {F : Nat} {es : List (DefD × Nat)} (h : ManyE w0 F es w) (hok : AllOk (es.map (·.1))) (x : DefD) (hk : x.k = 0 ∨ x.k = 1) (hsz : x.sh.size ≤ 60) (hes : es.length ≤ 1099511627776) :
    Calls Tryz.prog 43 #[ptr F, .agg #[.string x.nm, .string x.sh, .int .i64 x.k, .bool x.on, .int .i64 x.n, .string x.tx]] w (EndE w0 w F x es) := by
  obtain ⟨fm, sm, ofv, h⟩ := h
  have HI := Lib.hid (ok_iff x es hok)
  have hlen : (olE es).length ≤ 1099511627776 := by simpa [olE] using hes
  have h1 := h.later ((Below.refl _ w).alloc (Nat.le_refl _) (.cells #[.string x.nm, .string x.sh, .int .i64 x.k, .bool x.on, .int .i64 x.n, .string x.tx] 50))
  have HK := Lib.hid (KeepT.below ((Below.refl _ w).alloc (Nat.le_refl _) (.cells #[.string x.nm, .string x.sh, .int .i64 x.k, .bool x.on, .int .i64 x.n, .string x.tx] 50)))
  have CB := Lib.hid (boolP_any h1 x.nm x.sh hlen (by omega) x.on)
  have CS := Lib.hid (strP_any h1 x.nm x.sh hlen (by omega) x.tx)
  clear h h1 hok
  obtain ⟨nm, sh, k, on, n, tx⟩ := x
  simp only at hk HI HK CB CS hsz
  unfold ptr at *
  rcases hk with rfl | rfl
  · go_enter Tryz.func43, Tryz.ntmps43
    go_wp2_with fail
    refine CS.out.mono ?_
    intro e w3 h3
    have H3 := Lib.hid h3
    clear CS CB
    by_cases ok : addOk nm sh (flE es) (slE es)
    · obtain ⟨G, lW, lG, hR, hA⟩ := h3.good ok
      obtain ⟨⟨v, rfl⟩, hf⟩ := hR
      have HF := Lib.hid hf
      have HA := Lib.hid hA
      clear h3 hf hA
      go_wp2_with fail
      go_end0
      refine ⟨HK.out.trans H3.out.keep, H3.out.bel, fun _ => ⟨rfl, G, Nat.le_trans HK.out.size lW, lG, .inl ⟨rfl, HF.out⟩, ?_⟩, fun hh => absurd (HI.out.1 ok) hh⟩
      unfold ManyE
      rw [flE_snoc, slE_snoc, olE_snoc]
      exact HA.out
    · obtain ⟨u, pv, rfl⟩ := h3.bad ok
      clear h3
      go_wp2_with fail
      exact ⟨rfl, HK.out.trans H3.out.keep, H3.out.bel, fun hh => absurd (HI.out.2 hh) ok, fun _ => ⟨_, _, rfl⟩⟩
  · go_enter Tryz.func43, Tryz.ntmps43
    go_wp2_with fail
    refine CB.out.mono ?_
    intro e w3 h3
    have H3 := Lib.hid h3
    clear CS CB
    by_cases ok : addOk nm sh (flE es) (slE es)
    · obtain ⟨G, lW, lG, hR, hA⟩ := h3.good ok
      obtain ⟨⟨v, rfl⟩, hf⟩ := hR
      have HF := Lib.hid hf
      have HA := Lib.hid hA
      clear h3 hf hA
      go_wp2_with fail
      go_end0
      refine ⟨HK.out.trans H3.out.keep, H3.out.bel, fun _ => ⟨rfl, G, Nat.le_trans HK.out.size lW, lG, .inr ⟨rfl, HF.out⟩, ?_⟩, fun hh => absurd (HI.out.1 ok) hh⟩
      unfold ManyE
      rw [flE_snoc, slE_snoc, olE_snoc]
      exact HA.out
    · obtain ⟨u, pv, rfl⟩ := h3.bad ok
      clear h3
      go_wp2_with fail
      exact ⟨rfl, HK.out.trans H3.out.keep, H3.out.bel, fun hh => absurd (HI.out.2 hh) ok, fun _ => ⟨_, _, rfl⟩⟩
end Go.Proofs.YtmmkebdaijmpiaaGreat
