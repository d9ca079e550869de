/- append([]T{}, l...): a copy of a list. -/
import Derived.Test.YtlnnmionbflolaaDoorListV
import Derived.Laws.OwnMore
namespace Go.Proofs.YtlnnmionbflolaaDoor
open Go.RowKit
set_option linter.unusedVariables false
set_option linter.unusedSimpArgs false

theorem run_append_empty {P : Program} (w : World) (t ty e : TypeId) (i : TypeInfo) (ht : P.underlying t = some (.slice e)) (hi : P.info? e = some i) (q : Nat) (a : Option Addr) (c : Nat) :
    (Builtin.append_ #[t, t] ty #[.slice (some ⟨q, 0, none⟩) 0 0, .slice a 0 c]).run P w = .ok (.slice (some ⟨q, 0, none⟩) 0 0) w := by
  cases a with
  | none => simp [Builtin.append_, run_underlying ht, sizeOf, typeInfo, hi, Builtin.lenOf, Builtin.firstCells, storeCells, loadCells, loadCellsFrom]
  | some a => simp [Builtin.append_, run_underlying ht, sizeOf, typeInfo, hi, Builtin.lenOf, Builtin.firstCells, storeCells, loadCells, loadCellsFrom]

/-- What the copy is. -/
def Fresh (e : TypeId) (q : Nat) (news : List Value) (w : World) (v' : Value) (w' : World) : Prop :=
  Below w.heap.size w w' ∧ w'.ownsRow q e 1 v' news.length news ∧ ∀ b, v'.ownBlock = some b → news ≠ [] → b = w.heap.size

theorem run_append_fresh {P : Program} (w : World) (t ty e : TypeId) {z : Value} {bytes : Nat} (ht : P.underlying t = some (.slice e)) (hi : (P.info? e).map (fun i => (i.zero, i.size, i.bytes)) = some (some z, 1, bytes)) (hz : z.cells.size = 1)
    (q : Nat) {fz : Nat × Nat} (hq : w.heap[q]? = some (.cells #[] e (0, 0))) (src : Value) (news : List Value) (hs : Vals w src news) (h1 : ∀ u ∈ news, u.oneCell' = true) (hl : news.length ≤ maxLen) (hb : news.length * bytes ≤ 140737488355328) :
    ∃ v' w', (Builtin.append_ #[t, t] ty #[.slice (some ⟨q, 0, none⟩) 0 0, src]).run P w = .ok v' w' ∧ Fresh e q news w v' w' := by
  obtain ⟨i, hi1, hz0, hz1, hz2⟩ := info_parts hi
  obtain ⟨a, cap, rfl, h⟩ := hs
  have hown : w.ownsRow q e 1 (.slice (some ⟨q, 0, none⟩) 0 0) 0 [] := ⟨rfl, .inr ⟨q, 0, #[], rfl, Nat.le_refl _, hq, Nat.le_refl _, Nat.zero_le _, rfl, rfl⟩⟩
  rcases h with rfl | ⟨b, off, cs, ty2, fz2, rfl, hbk, hc⟩
  · exact ⟨_, w, run_append_empty w t ty e i ht hi1 q a cap, Below.refl _ _, hown, fun _ _ h => absurd rfl h⟩
  · by_cases h0 : news = []
    · subst h0
      exact ⟨_, w, run_append_empty w t ty e i ht hi1 q _ cap, Below.refl _ _, hown, fun _ _ h => absurd rfl h⟩
    · have hpos : 0 < news.length := List.length_pos_iff.mpr h0
      have hnews : ∀ j u, news[j]? = some u → w.cell? ((⟨b, off, none⟩ : Addr).add j) = some u := by
        intro j u hj
        have hjl : j < news.length := (List.getElem?_eq_some_iff.1 hj).1
        have e1 : (⟨b, off, none⟩ : Addr).add j = ⟨b, off + j, none⟩ := by unfold Addr.add; split <;> simp_all
        rw [e1]
        rw [List.getElem?_eq_getElem hjl] at hj
        cases hj
        simp [World.cell?, hbk, hc j hjl]
      obtain ⟨v', w', hr, h2, h3, -, h5⟩ := run_append_own_at (P := P) w q t ty e i z 1 bytes ht hi1 hz0 hz1 hz2 hz (by omega) _ 0 [] hown ⟨b, off, none⟩ news.length cap news (by simp) hnews h1 (by omega) (by rw [Nat.zero_add]; exact hb) (Nat.le_of_lt (lt_of_block hq))
      have hr2 := run_append_grow (P := P) w t ty e i z ht hi1 hz0 ⟨q, 0, none⟩ 0 0 [] (by simp) (by simp) ⟨b, off, none⟩ news.length cap news (by rw [hz1]; simp) hnews (by omega) (by unfold maxLen at hl; omega) (growslice_fits (by omega) (by rw [hz2, Nat.zero_add]; exact hb))
      simp only [Nat.zero_add, List.nil_append] at h2 hr hr2
      rw [hr] at hr2
      cases hr2
      refine ⟨_, _, hr, (Below.refl _ _).drew.alloc (Nat.le_refl _) _, h2, fun b hb _ => ?_⟩
      cases hb
      rfl

theorem Fresh.below {e : TypeId} {q : Nat} {news : List Value} {w w' : World} {v' : Value} (h : Fresh e q news w v' w') : Below w.heap.size w w' := h.1
theorem Fresh.vals {e : TypeId} {q : Nat} {news : List Value} {w w' : World} {v' : Value} (h : Fresh e q news w v' w') : Vals w' v' news := Vals.owned h.2.1
/-- The copy is none of the blocks that there were. -/
theorem Fresh.snap {e : TypeId} {q : Nat} {news : List Value} {w w' : World} {v' : Value} (h : Fresh e q news w v' w') {A : Nat → Prop} (hX : ∀ b, A b → b < w.heap.size) : Snap e w' A v' news := by
  obtain ⟨hb, ho, hn⟩ := h
  rcases ho.2 with ⟨e1, h0⟩ | ⟨g, cap, cur, e1, hg, hh, hnc, hcm, hcs, ht⟩
  · have : news = [] := List.eq_nil_of_length_eq_zero h0
    subst this
    exact ⟨none, 0, e1, .inl rfl⟩
  · subst e1
    by_cases h0 : news = []
    · subst h0
      exact ⟨_, _, rfl, .inl rfl⟩
    · have hgs := hn g rfl h0
      refine ⟨_, cap, rfl, .inr ⟨g, cur, (0, 0), rfl, hh, ?_, fun i hi => ?_⟩⟩
      · intro q
        have := hX g q
        omega
      · have : (cur.toList.take (news.length * 1))[i]? = some news[i] := by rw [ht]; simp [hi]
        rw [List.getElem?_take, if_pos (by omega), Array.getElem?_toList] at this
        exact this

/-- At the operation. -/
theorem wp_append_fresh {P : Program} {w : World} {o : Oper} {a : Act} {K : Act → World → Prop} {Q : Exit → Act → World → Prop} (s x : Operand) (t e : TypeId) {z : Value} {bytes : Nat}
    (ho : o.op = .call { callee := .builtin .append, args := #[s, x], argTypes := #[t, t] }) (ht : P.underlying t = some (.slice e)) (hi : (P.info? e).map (fun i => (i.zero, i.size, i.bytes)) = some (some z, 1, bytes)) (hz : z.cells.size = 1)
    (q : Nat) (hsv : a.eval s = .slice (some ⟨q, 0, none⟩) 0 0) (hq : w.heap[q]? = some (.cells #[] e (0, 0))) (src : Value) (hx : a.eval x = src) (news : List Value) (hs : Vals w src news) (h1 : ∀ u ∈ news, u.oneCell' = true) (hl : news.length ≤ maxLen) (hb : news.length * bytes ≤ 140737488355328)
    (h : ∀ v' w', Fresh e q news w v' w' → K (a.put o.dst v') w') : o.wp P a w K Q := by
  obtain ⟨v', w', hr, hf⟩ := run_append_fresh (fz := (0, 0)) (P := P) w t o.type e ht hi hz q hq src news hs h1 hl hb
  unfold Oper.wp execOp
  simp only [ho, resolve, invoke, builtin, Sem.run_bind, Sem.run_pure, Result.andThen_ok, List.map_toArray, List.map_cons, List.map_nil, hsv, hx, hr]
  exact h v' w' hf
/-- At the list of a plain region's operations. -/
theorem wpList_append_fresh {P : Program} {w : World} {ops : Array Oper} {rest : List Oper} {o : Oper} {a : Act} {Q : Exit → Act → World → Prop} (hgd : o.guard = none) (s x : Operand) (t e : TypeId) {z : Value} {bytes : Nat}
    (ho : o.op = .call { callee := .builtin .append, args := #[s, x], argTypes := #[t, t] }) (ht : P.underlying t = some (.slice e)) (hi : (P.info? e).map (fun i => (i.zero, i.size, i.bytes)) = some (some z, 1, bytes)) (hz : z.cells.size = 1)
    (q : Nat) (hsv : a.eval s = .slice (some ⟨q, 0, none⟩) 0 0) (hq : w.heap[q]? = some (.cells #[] e (0, 0))) (src : Value) (hx : a.eval x = src) (news : List Value) (hs : Vals w src news) (h1 : ∀ u ∈ news, u.oneCell' = true) (hl : news.length ≤ maxLen) (hb : news.length * bytes ≤ 140737488355328)
    (h : ∀ v' w', Fresh e q news w v' w' → wpList P ops Q rest (a.put o.dst v') w') : wpList P ops Q (o :: rest) a w :=
  wpList_plain hgd fun _ hK => wp_append_fresh s x t e ho ht hi hz q hsv hq src hx news hs h1 hl hb fun v' w' hf => hK _ _ (h v' w' hf)

theorem run_append_zero {P : Program} (w : World) (t ty e : TypeId) (i : TypeInfo) (ht : P.underlying t = some (.slice e)) (hi : P.info? e = some i) (base size : Nat) (v : Value) (n : Nat) (xs : List Value) (hown : w.ownsRow base e size v n xs) (c : Nat) :
    (Builtin.append_ #[t, t] ty #[v, .slice none 0 c]).run P w = .ok v w := by
  rcases hown.2 with ⟨rfl, rfl⟩ | ⟨g, cap, cur, rfl, _, _, hnc, _⟩
  · simp [Builtin.append_, run_underlying ht, sizeOf, typeInfo, hi, Builtin.lenOf, Builtin.firstCells]
  · simp [Builtin.append_, run_underlying ht, sizeOf, typeInfo, hi, Builtin.lenOf, Builtin.firstCells, hnc, storeCells]

/-- Any list of elements behind a row of the call's own. -/
theorem run_append_vals {P : Program} (w : World) (t ty e : TypeId) {z : Value} {bytes : Nat} (ht : P.underlying t = some (.slice e)) (hi : (P.info? e).map (fun i => (i.zero, i.size, i.bytes)) = some (some z, 1, bytes)) (hz : z.cells.size = 1)
    (base : Nat) (v : Value) (n : Nat) (xs : List Value) (hown : w.ownsRow base e 1 v n xs) (hbase : base ≤ w.heap.size) (src : Value) (news : List Value) (hs : Vals w src news) (h1 : ∀ u ∈ news, u.oneCell' = true) (hl : n + news.length ≤ maxLen) (hb : (n + news.length) * bytes ≤ 140737488355328) :
    ∃ v' w', (Builtin.append_ #[t, t] ty #[v, src]).run P w = .ok v' w' ∧ w'.ownsRow base e 1 v' (n + news.length) (xs ++ news) ∧ w.grownBy w' v.ownBlock ∧ (v'.ownBlock = v.ownBlock ∨ v'.ownBlock = some w.heap.size) := by
  obtain ⟨i, hi1, hz0, hz1, hz2⟩ := info_parts hi
  obtain ⟨a, cap, rfl, h⟩ := hs
  cases a with
  | none =>
    have hn : news = [] := by
      rcases h with h | ⟨b, off, cs, ty2, fz2, e2, -⟩
      · exact h
      · cases e2
    subst hn
    exact ⟨v, w, run_append_zero w t ty e i ht hi1 base 1 v n xs hown cap, by simpa using hown, grown_refl _ _, .inl rfl⟩
  | some ad =>
    have hnews : ∀ j u, news[j]? = some u → w.cell? (ad.add j) = some u := by
      intro j u hj
      rcases h with h | ⟨b, off, cs, ty2, fz2, e2, hbk, hc⟩
      · subst h; simp at hj
      · cases e2
        have hjl : j < news.length := (List.getElem?_eq_some_iff.1 hj).1
        have e1 : (⟨b, off, none⟩ : Addr).add j = ⟨b, off + j, none⟩ := by unfold Addr.add; split <;> simp_all
        rw [e1]
        rw [List.getElem?_eq_getElem hjl] at hj
        cases hj
        simp [World.cell?, hbk, hc j hjl]
    obtain ⟨v', w', hr, h2, h3, -, h5⟩ := run_append_own_at (P := P) w base t ty e i z 1 bytes ht hi1 hz0 hz1 hz2 hz (by omega) v n xs hown ad news.length cap news (by simp) hnews h1 hl hb hbase
    exact ⟨v', w', hr, h2, h3, h5⟩
theorem wp_append_vals {P : Program} {w : World} {o : Oper} {a : Act} {K : Act → World → Prop} {Q : Exit → Act → World → Prop} (s x : Operand) (t e : TypeId) {z : Value} {bytes : Nat}
    (ho : o.op = .call { callee := .builtin .append, args := #[s, x], argTypes := #[t, t] }) (ht : P.underlying t = some (.slice e)) (hi : (P.info? e).map (fun i => (i.zero, i.size, i.bytes)) = some (some z, 1, bytes)) (hz : z.cells.size = 1)
    (base : Nat) (v : Value) (n : Nat) (xs : List Value) (hsv : a.eval s = v) (hown : w.ownsRow base e 1 v n xs) (hbase : base ≤ w.heap.size) (src : Value) (hx : a.eval x = src) (news : List Value) (hs : Vals w src news) (h1 : ∀ u ∈ news, u.oneCell' = true) (hl : n + news.length ≤ maxLen) (hb : (n + news.length) * bytes ≤ 140737488355328)
    (h : ∀ v' w', w'.ownsRow base e 1 v' (n + news.length) (xs ++ news) → w.grownBy w' v.ownBlock → (v'.ownBlock = v.ownBlock ∨ v'.ownBlock = some w.heap.size) → K (a.put o.dst v') w') : o.wp P a w K Q := by
  obtain ⟨v', w', hr, h2, h3, h4⟩ := run_append_vals (P := P) w t o.type e ht hi hz base v n xs hown hbase src news hs h1 hl hb
  unfold Oper.wp execOp
  simp only [ho, resolve, invoke, builtin, Sem.run_bind, Sem.run_pure, Result.andThen_ok, List.map_toArray, List.map_cons, List.map_nil, hsv, hx, hr]
  exact h v' w' h2 h3 h4
theorem wpList_append_vals {P : Program} {w : World} {ops : Array Oper} {rest : List Oper} {o : Oper} {a : Act} {Q : Exit → Act → World → Prop} (hgd : o.guard = none) (s x : Operand) (t e : TypeId) {z : Value} {bytes : Nat}
    (ho : o.op = .call { callee := .builtin .append, args := #[s, x], argTypes := #[t, t] }) (ht : P.underlying t = some (.slice e)) (hi : (P.info? e).map (fun i => (i.zero, i.size, i.bytes)) = some (some z, 1, bytes)) (hz : z.cells.size = 1)
    (base : Nat) (v : Value) (n : Nat) (xs : List Value) (hsv : a.eval s = v) (hown : w.ownsRow base e 1 v n xs) (hbase : base ≤ w.heap.size) (src : Value) (hx : a.eval x = src) (news : List Value) (hs : Vals w src news) (h1 : ∀ u ∈ news, u.oneCell' = true) (hl : n + news.length ≤ maxLen) (hb : (n + news.length) * bytes ≤ 140737488355328)
    (h : ∀ v' w', w'.ownsRow base e 1 v' (n + news.length) (xs ++ news) → w.grownBy w' v.ownBlock → (v'.ownBlock = v.ownBlock ∨ v'.ownBlock = some w.heap.size) → wpList P ops Q rest (a.put o.dst v') w') : wpList P ops Q (o :: rest) a w :=
  wpList_plain hgd fun _ hK => wp_append_vals s x t e ho ht hi hz base v n xs hsv hown hbase src hx news hs h1 hl hb fun v' w' a1 a2 a3 => hK _ _ (h v' w' a1 a2 a3)
theorem Snap.owned {w : World} {base : Nat} {e : TypeId} {v : Value} {n : Nat} {xs : List Value} (h : w.ownsRow base e 1 v n xs) : Snap e w (fun _ => False) v xs := by
  have hl : xs.length = n := by simpa using h.1
  rcases h.2 with ⟨e, h0⟩ | ⟨g, cap, cur, e, hb, hh, hnc, hcm, hcs, ht⟩
  · have : xs = [] := List.eq_nil_of_length_eq_zero (by omega)
    subst this
    exact ⟨none, 0, by rw [e]; rfl, .inl rfl⟩
  · refine ⟨_, cap, by rw [e, hl], ?_⟩
    by_cases h0 : xs = []
    · exact .inl h0
    · refine .inr ⟨g, cur, _, rfl, hh, fun q => q, fun i hi => ?_⟩
      have : (cur.toList.take (n * 1))[i]? = some xs[i] := by rw [ht]; simp [hi]
      rw [List.getElem?_take, if_pos (by omega), Array.getElem?_toList] at this
      exact this
end Go.Proofs.YtlnnmionbflolaaDoor
