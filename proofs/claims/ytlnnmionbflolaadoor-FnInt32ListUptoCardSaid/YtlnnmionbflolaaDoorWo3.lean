/- Numerals with underscores: what the reference says of all texts is what strconv says, in plain Lean. -/
import Derived.Test.YtlnnmionbflolaaDoorWo2
namespace Go.Proofs.YtlnnmionbflolaaDoor
set_option linter.unusedVariables false
set_option linter.unusedSimpArgs false

theorem woB_first {hx bs : Bool} {c : UInt8} {r : List UInt8} : woB hx bs 0 none (c :: r) = if c.toNat = 95 then false else woB hx bs 1 (some c) r := by
  rw [woB]
  by_cases h : c.toNat = 95
  · rw [if_pos h, if_pos h]; rfl
  · rw [if_neg h, if_neg h]; rfl
theorem DU.mono {B C : Nat} {r : List UInt8} (h : DU B r) (hle : B ≤ C) : DU C r := fun c hc => (h c hc).imp id fun h => by omega
theorem okDig95 {hx : Bool} {c : UInt8} (h : c.toNat = 95) : okDig hx c = false := by
  have := lw_eq c
  unfold okDig
  rw [this, h]
  cases hx <;> simp
theorem dec_ahead {hx bs : Bool} {k : Nat} {c : UInt8} (h : 48 ≤ c.toNat ∧ c.toNat ≤ 57) : aheadB hx bs k (some c) = true := by
  simp [aheadB, isDec, h]
theorem dig_small {c : UInt8} {B : Nat} (hB : B ≤ 10) (h : dig0 c < B) : 48 ≤ c.toNat ∧ c.toNat ≤ 57 := by
  have := dig0_ways c
  omega
theorem ok_und {l r : List UInt8} {B : Nat} {hx bs : Bool} (hs : Shape l B hx bs r) (hd : DU B r) : woB hx bs 0 none l = und0 l := by
  cases hs with
  | one a h =>
    rw [woB_first]
    rcases hd a (by simp) with h95 | hdg
    · rw [if_pos h95, und0, und_usc (okDig95 h95) h95]; rfl
      intro x y z e; cases e
    · obtain ⟨h1, h2, h3⟩ := okDig_of (hx := false) (c := a) (by simpa using hdg)
      rw [if_neg h2, und0, und_dg h1]
      · rfl
      · intro x y z e; cases e
  | dec a b r h =>
    rw [woB_first]
    have e : und0 (a :: b :: r) = undGo false 94 (a :: b :: r) := by
      rw [und0, if_neg (fun q => h q.1)]
    rw [e]
    rcases hd a (by simp) with h95 | hdg
    · rw [if_pos h95, und_usc (okDig95 h95) h95]; rfl
    · obtain ⟨h1, h2, h3⟩ := okDig_of (hx := false) (c := a) (by simpa using hdg)
      rw [if_neg h2, und_dg h1]
      exact (wo_und (hx := false) (bs := false) (b :: r) 1 (fun h => by cases h) (fun c hc => by
        have := hd c (by simp [List.mem_cons.1 hc])
        simpa using this)).1 a (dec_ahead (dig_small (Nat.le_refl _) hdg))
  | oct a b r h hb =>
    have hlw : lw b ≠ 98 ∧ lw b ≠ 111 ∧ lw b ≠ 120 ∧ (decide (10 ≤ dig0 b) && decide (dig0 b < 36)) = false := by
      have hw := dig0_ways b
      have hl := lw_eq b
      have hbl := b.toNat_lt
      rw [hl]
      rcases hd b (by simp) with h95 | hdg
      · rw [dig95 h95, h95]; decide
      · have := dig_small (by omega) hdg
        refine ⟨?_, ?_, ?_, ?_⟩
        · split <;> omega
        · split <;> omega
        · split <;> omega
        · simp; omega
    rw [hlw.2.2.2, show decide (lw b = 120) = false from decide_eq_false hlw.2.2.1, woB_first, if_neg (by omega)]
    have e : und0 (a :: b :: r) = undGo false 94 (a :: b :: r) := by
      rw [und0, if_neg (fun q => by have := q.2; omega)]
    obtain ⟨h1, -, -⟩ := okDig_of (hx := false) (c := a) (by
      have := dig0_ways a
      simp only [Bool.false_eq_true, if_false]
      omega)
    rw [e, und_dg h1]
    exact (wo_und (hx := false) (bs := false) (b :: r) 1 (fun h => by cases h) (fun c hc => by
      have := (hd c hc)
      simp only [Bool.false_eq_true, if_false]
      exact this.imp id fun h => by omega)).1 a (dec_ahead (by omega))
  | pre a b c r B h hb =>
    obtain ⟨x1, x2, x3, x4⟩ := let_of (b := b) (by omega)
    rw [woB_first, if_neg (by omega), woB, if_neg x1, Bool.true_and]
    have e : und0 (a :: b :: c :: r) = undGo (decide (lw b = 120)) 48 (c :: r) := by
      rw [und0, if_pos ⟨h, by omega⟩]
    rw [e]
    have hA : aheadB (decide (lw b = 120)) true 2 (some b) = true := by simp [aheadB]
    refine (wo_und (hx := decide (lw b = 120)) (bs := true) (c :: r) 2 (fun _ => Nat.le_refl _) (hd.mono ?_)).1 b hA
    by_cases q : lw b = 120
    · have : B = 16 := by omega
      simp [q, this]
    · simp only [decide_eq_true_eq, q, if_false]
      omega
theorem behind_cons {hx : Bool} {r : List UInt8} (h : behindB hx r = true) : ∃ d r', r = d :: r' ∧ d.toNat ≠ 95 ∧ (hx = false → 48 ≤ d.toNat ∧ d.toNat ≤ 57) := by
  cases r with
  | nil => cases h
  | cons d r' =>
    refine ⟨d, r', rfl, ?_, ?_⟩
    · intro h95
      simp only [behindB, isDec, isHex, h95, dig95 h95] at h
      simp at h
    · intro hx'
      subst hx'
      simpa [behindB, isDec] using h
theorem pre29_10 {a : UInt8} {x : List UInt8} (h : a.toNat ≠ 48) : pre29 (a :: x) = (10, a :: x) := by
  match x with
  | [] => rfl
  | [b] => simp [pre29, h]
  | b :: c :: r => simp [pre29, h]
theorem pre29_8 {a b : UInt8} {x : List UInt8} (h : a.toNat = 48) (hb : x = [] ∨ (lw b ≠ 98 ∧ lw b ≠ 111 ∧ lw b ≠ 120)) : pre29 (a :: b :: x) = (8, b :: x) := by
  match x with
  | [] => simp [pre29, h]
  | c :: r =>
    rcases hb with hb | ⟨h1, h2, h3⟩
    · cases hb
    · simp [pre29, h, h1, h2, h3]
theorem pre_bare {l r : List UInt8} {B : Nat} {hx bs : Bool} (hs : Shape l B hx bs r) (hok : woB hx bs 0 none l = true) : pre29 (bare l) = (B, bare r) ∧ bare r ≠ [] := by
  cases hs with
  | one a h =>
    rw [woB_first] at hok
    have h95 : a.toNat ≠ 95 := fun q => by rw [if_pos q] at hok; cases hok
    have e : bare [a] = [a] := by rw [bare_cons, if_neg h95]; rfl
    rw [e]
    exact ⟨rfl, by simp⟩
  | dec a b r h =>
    rw [woB_first] at hok
    have h95 : a.toNat ≠ 95 := fun q => by rw [if_pos q] at hok; cases hok
    rw [bare_cons, if_neg h95]
    exact ⟨pre29_10 h, by simp⟩
  | oct a b r h hb =>
    rw [woB_first, if_neg (by omega)] at hok
    have ea : bare (a :: b :: r) = a :: bare (b :: r) := by rw [bare_cons, if_neg (by omega)]
    rw [ea]
    by_cases h95 : b.toNat = 95
    · rw [woB, if_pos h95] at hok
      simp only [Bool.and_eq_true] at hok
      have hl : lw b = 127 := by rw [lw_eq, h95]; rfl
      rw [show decide (lw b = 120) = false by rw [hl]; rfl] at hok
      obtain ⟨d, r', rfl, hd, hdec⟩ := behind_cons hok.1.2
      have hdd := hdec rfl
      have eb : bare (b :: d :: r') = d :: bare r' := by rw [bare_cons, if_pos h95, bare_cons, if_neg hd]
      rw [eb]
      refine ⟨pre29_8 h (.inr ?_), by simp⟩
      have hld := lw_eq d
      rw [hld]
      refine ⟨?_, ?_, ?_⟩ <;> (split <;> omega)
    · have eb : bare (b :: r) = b :: bare r := by rw [bare_cons, if_neg h95]
      rw [eb]
      refine ⟨pre29_8 h ?_, by simp⟩
      rcases hb with rfl | hb
      · exact .inl rfl
      · exact .inr hb
  | pre a b c r B h hb =>
    obtain ⟨x1, x2, x3, x4⟩ := let_of (b := b) (by omega)
    rw [woB_first, if_neg (by omega), woB, if_neg x1, Bool.true_and] at hok
    have hne : ∃ y ys, bare (c :: r) = y :: ys := by
      by_cases h95 : c.toNat = 95
      · rw [woB, if_pos h95] at hok
        simp only [Bool.and_eq_true] at hok
        obtain ⟨d, r', rfl, hd, -⟩ := behind_cons hok.1.2
        exact ⟨d, bare r', by rw [bare_cons, if_pos h95, bare_cons, if_neg hd]⟩
      · exact ⟨c, bare r, by rw [bare_cons, if_neg h95]⟩
    obtain ⟨y, ys, ey⟩ := hne
    have ea : bare (a :: b :: c :: r) = a :: b :: bare (c :: r) := by rw [bare_cons, if_neg (by omega), bare_cons, if_neg x1]
    rw [ea, ey]
    refine ⟨?_, by simp⟩
    rcases hb with ⟨q, rfl⟩ | ⟨q, rfl⟩ | ⟨q, rfl⟩ <;> simp [pre29, h, q]
theorem shape_le {l r : List UInt8} {B : Nat} {hx bs : Bool} (hs : Shape l B hx bs r) : B ≤ 36 ∧ l ≠ [] := by
  cases hs <;> refine ⟨by omega, by simp⟩
theorem wo_none {hx bs : Bool} : ∀ (r : List UInt8) (k : Nat) (p : Option UInt8), (∀ c ∈ r, c.toNat ≠ 95) → woB hx bs k p r = true
  | [], _, _, _ => rfl
  | c :: r, k, p, h => by
    rw [woB, if_neg (h c (by simp)), Bool.true_and]
    exact wo_none r _ _ fun x hx => h x (by simp [hx])
theorem shape_none {l r : List UInt8} {B : Nat} {hx bs : Bool} (hs : Shape l B hx bs r) (h : ∀ c ∈ r, c.toNat ≠ 95) : ∀ c ∈ l, c.toNat ≠ 95 := by
  cases hs with
  | one a ha => exact h
  | dec a b r ha => exact h
  | oct a b r ha hb =>
    intro c hc
    rcases List.mem_cons.1 hc with rfl | hc
    · omega
    · exact h c hc
  | pre a b c r B ha hb =>
    obtain ⟨x1, x2, x3, x4⟩ := let_of (b := b) (by omega)
    intro x hx
    rcases List.mem_cons.1 hx with rfl | hx
    · omega
    · rcases List.mem_cons.1 hx with rfl | hx
      · exact x1
      · exact h x hx

/-- What the reference says of all texts. -/
def nAll (M : Nat) (l : List UInt8) : Nat × Nat := if okW l then dres (pre29 (bare l)).1 M (pre29 (bare l)).2 else (0, 2)
theorem nAll_ok {M : Nat} {l : List UInt8} {n : Nat} {us : Bool} (h : pu0 M l = .ok n us) : nAll M l = (n, 1) := by
  by_cases h48 : ∃ a, l = [a] ∧ a.toNat = 48
  · obtain ⟨a, rfl, ha⟩ := h48
    have hd : dig0 a = 0 := by have := dig0_ways a; omega
    have e : pu0 M [a] = .ok 0 false := by simp [pu0, pre0, ha, go0, fin0]
    rw [e] at h
    cases h
    have e1 : okW [a] = true := by simp [okW, woB, ha]
    have e2 : bare [a] = [a] := by rw [bare_cons, if_neg (by omega)]; rfl
    rw [nAll, if_pos e1, e2]
    simp [pre29, dres, dgs, hd, dend]
  · have hl : l ≠ [] := fun e => by subst e; simp [pu0] at h
    have hs := shape_of hl fun a e ha => h48 ⟨a, e, ha⟩
    rw [pu0, if_neg hl] at h
    cases hg : go0 (pre0 l).1 M 0 false (pre0 l).2 with
    | ok m v =>
      rw [hg] at h
      obtain ⟨d1, d2, d3⟩ := go0_bare (shape_le hs).1 hg
      have hok : okW l = true := by
        rcases d3 with d3 | rfl
        · exact wo_none _ _ _ (shape_none hs d3)
        · have := ok_und hs d1
          rw [okW, this]
          cases hu : und0 l with
          | true => rfl
          | false => rw [hu] at h; simp [fin0] at h
      have hmn : m = n := by
        simp only [fin0] at h
        split at h
        · cases h
        · cases h; rfl
      subst hmn
      obtain ⟨p1, p2⟩ := pre_bare hs hok
      rw [nAll, if_pos hok, p1, dres, if_neg p2, d2]
      rfl
    | syn => rw [hg] at h; cases h
    | rng => rw [hg] at h; cases h
theorem nAll_fits {M : Nat} {l : List UInt8} (h : (nAll M l).2 = 1) : ∃ n us, pu0 M l = .ok n us := by
  by_cases hok : okW l = true
  · rw [nAll, if_pos hok] at h
    by_cases h48 : ∃ a, l = [a] ∧ a.toNat = 48
    · obtain ⟨a, rfl, ha⟩ := h48
      exact ⟨0, false, by simp [pu0, pre0, ha, go0, fin0]⟩
    · by_cases hl : l = []
      · subst hl; simp [bare, pre29, dres] at h
      · have hs := shape_of hl fun a e ha => h48 ⟨a, e, ha⟩
        obtain ⟨p1, p2⟩ := pre_bare hs hok
        rw [p1, dres, if_neg p2] at h
        cases hd : dgs (pre0 l).1 M 0 false (bare (pre0 l).2) with
        | none => rw [hd] at h; cases h
        | some x =>
          obtain ⟨m, o⟩ := x
          cases o with
          | true => rw [hd] at h; cases h
          | false =>
            obtain ⟨v, hg⟩ := go0_of_bare (us := false) (shape_le hs).1 hd
            have hu : und0 l = true := by
              rw [← ok_und hs (go0_bare (shape_le hs).1 hg).1]
              exact hok
            exact ⟨m, v, by rw [pu0, if_neg hl, hg, fin0, hu]; simp⟩
  · rw [nAll, if_neg hok] at h; cases h
theorem nAll_two (M : Nat) (l : List UInt8) : (nAll M l).2 = 1 ∨ (nAll M l).2 = 2 := by
  unfold nAll
  split
  · exact dres_two _ _ _
  · exact .inr rfl
end Go.Proofs.YtlnnmionbflolaaDoor
