/- The functions that parsing hands flags and values to: what they keep (Parse's own, the method value of Short). -/
import Derived.Test.YtcpjdgbnfjdakaaSetW
import Derived.StillTailTactics
namespace Go.Proofs.Ytcpjdgbnfjdakaa
open Go.RowKit
set_option linter.unusedVariables false
set_option linter.unusedSimpArgs false

/-- A function value takes a flag and a value as a way of giving says. -/
structure Hands (fid : FuncId) (first cap : Array Value) (D0 : St) (s : SetD) (way : Way) : Prop where
  enter : ∀ args w, (callFunc fid args).run Try.prog w = .ok (.enter fid args) w
  gives : ∀ (D : St) (w : World) (r : RunD) (i : Nat) (x : FlagR) (v : ByteArray), Near D0 D → Inv D w → Runs D s way r → r.err = .none → D.rs[i]? = some x → r.given.length ≤ 1099511627776 →
    Calls Try.prog fid (first ++ (#[ptr x.fb, .string v] ++ cap)) w fun e w' => ∃ ev D', e = .returned ev ∧ Inv D' w' ∧ Near D D' ∧ Runs D' s way (giveF s way i v r) ∧ ErrIs D' w' ev (giveF s way i v r).err

theorem any_snoc (l : List (Nat × ByteArray)) (i j : Nat) (v : ByteArray) : (l ++ [(i, v)]).any (fun g => g.1 == j) = (l.any (fun g => g.1 == j) || (i == j)) := by
  simp

/-- The set's own Set is a way of giving. -/
theorem set_gives {D : St} {w : World} {s : SetD} {r : RunD} (h : Inv D w) (k : Runs D s .sets r) (he : r.err = .none) {i : Nat} {x : FlagR} (hx : D.rs[i]? = some x) (v : ByteArray) (hg : r.given.length ≤ 1099511627776) :
    Calls Try.prog 95 #[ptr D.F, .string x.nm, .string v] w fun e w' => ∃ ev D', e = .returned ev ∧ Inv D' w' ∧ Near D D' ∧ Runs D' s .sets (giveF s .sets i v r) ∧ ErrIs D' w' ev (giveF s .sets i v r).err := by
  have hbad := k.ready.bad hx
  have hgl : D.given.length ≤ 1099511627776 := by rw [k.given]; exact hg
  cases hb : hasB x.bad v with
  | true =>
    have e1 : giveF s .sets i v r = { r with err := .invalid i v } := by simp [giveF, hbad, hb]
    rw [e1]
    refine (set_no h k.ready hx v hb).mono ?_
    rintro e w1 ⟨b, y, rfl, i1, hh⟩
    exact ⟨_, D, rfl, i1, Near.refl D, ⟨k.ready, k.given, k.args, k.dash, k.parsed, k.chg, k.oa⟩, b, x, y, rfl, hx, hh⟩
  | false =>
    have e1 : giveF s .sets i v r = { r with given := r.given ++ [(i, v)] } := by simp [giveF, hbad, hb]
    rw [e1]
    cases hc : x.chg with
    | true =>
      refine (set_had h k.ready hx v hb hgl hc).mono ?_
      rintro e w1 ⟨rfl, sv, i1⟩
      have hn : Near D { D with saidV := sv, given := D.given ++ [(i, v)] } := ⟨rfl, rfl⟩
      refine ⟨_, _, rfl, i1, hn, ⟨k.ready.near hn, by rw [← k.given], k.args, k.dash, k.parsed, ?_, ?_⟩, by simp [ErrIs, he]⟩
      · intro j y hy
        have this' := k.chg j y hy
        simp only at this' ⊢
        rw [any_snoc, this']
        by_cases e : i = j
        · subst e
          have : x = y := by rw [hx] at hy; exact Option.some.inj hy
          subst this
          rw [← this', hc]; rfl
        · simp [e]
      · have := k.oa
        simp only [List.length_append, List.length_singleton]
        omega
    | false =>
      have ho : D.oaL.length ≤ 1099511627776 := Nat.le_trans k.oa hgl
      refine (set_new h k.ready hx v hb hgl ho hc).mono ?_
      rintro e w1 ⟨rfl, sv, a, al, ov, i1⟩
      have hn : Near D { D with saidV := sv, given := D.given ++ [(i, v)], act := a, actL := al, oav := ov, oaL := D.oaL ++ [ptr x.fb], rs := D.rs.set i { x with chg := true } } := ⟨rfl, set_core _ _ _ _ hx rfl⟩
      refine ⟨_, _, rfl, i1, hn, ⟨k.ready.near hn, by rw [← k.given], k.args, k.dash, k.parsed, ?_, ?_⟩, by simp [ErrIs, he]⟩
      · intro j y hy
        simp only at hy ⊢
        rw [any_snoc]
        obtain ⟨hlt, hgx⟩ := List.getElem?_eq_some_iff.1 hx
        by_cases e : i = j
        · subst e
          rw [List.getElem?_set_self hlt] at hy
          cases hy
          simp
        · rw [List.getElem?_set_ne e] at hy
          have := k.chg j y hy
          simp only at this
          rw [this]; simp [e]
      · have := k.oa
        simp only [List.length_append, List.length_singleton]
        omega

theorem near_nm {D0 D : St} (h : Near D0 D) : D.F = D0.F ∧ D.Wb = D0.Wb ∧ D.bx = D0.bx ∧ D.bw = D0.bw := by
  rw [h.eq]
  exact ⟨rfl, rfl, rfl, rfl⟩

set_option maxRecDepth 100000 in
/-- Parse's own function. -/
theorem parse1_hands {D0 : St} {s : SetD} {b : Nat} (hb : D0.bx = some b) : Hands 94 #[] #[ptr b] D0 s .sets := by
  refine ⟨fun args w => by kernel_rfl, fun D w r i x v hn h k he hx hg => ?_⟩
  obtain ⟨e1, e2, e3, e4⟩ := near_nm hn
  have hbx := h.hbx b (e3.trans hb)
  have c0 : w.cell? ⟨b, 0, none⟩ = some (ptr D.F) := cell_of_one hbx
  clear e1 e2 e3 e4
  have c1 := h.cellFlag hx 0 (.string x.nm) rfl
  show Calls Try.prog 94 #[ptr x.fb, .string v, ptr b] w _
  go_enter Try.func94, Try.ntmps94
  go_wp2_with fail
  go_still_tail 6, (by kernel_rfl)
  change wpList _ _ _ _ _ w.drew
  have h2 : Inv D w.drew := h.drewN 1
  generalize w.drew = w2 at h2
  clear c0 c1 hbx h
  go_wp2_with fail
  refine (set_gives h2 k he hx v hg).mono ?_
  rintro e w3 ⟨ev, D', rfl, i1, i2, i3, i4⟩
  go_wp2_with fail
  go_ret
  exact ⟨ev, D', rfl, i1, i2, i3, i4⟩

set_option maxRecDepth 100000 in
/-- The method value of Short. -/
theorem sets_hands {D0 : St} {s : SetD} : Hands 62 #[ptr D0.Wb] #[] D0 s .sets := by
  refine ⟨fun args w => by kernel_rfl, fun D w r i x v hn h k he hx hg => ?_⟩
  obtain ⟨-, e2, -, -⟩ := near_nm hn
  obtain ⟨c0, -, -⟩ := h.whCells
  have c1 := h.cellFlag hx 0 (.string x.nm) rfl
  show Calls Try.prog 62 #[ptr D0.Wb, ptr x.fb, .string v] w _
  rw [← e2]
  clear e2
  go_enter Try.func62, Try.ntmps62
  go_wp2_with fail
  go_still_tail 9, (by kernel_rfl)
  change wpList _ _ _ _ _ w.drew
  have h2 : Inv D w.drew := h.drewN 1
  generalize w.drew = w2 at h2
  clear c0 c1 h
  go_wp2_with fail
  refine (set_gives h2 k he hx v hg).mono ?_
  rintro e w3 ⟨ev, D', rfl, i1, i2, i3, i4⟩
  go_wp2_with fail
  go_ret
  exact ⟨ev, D', rfl, i1, i2, i3, i4⟩
end Go.Proofs.Ytcpjdgbnfjdakaa
