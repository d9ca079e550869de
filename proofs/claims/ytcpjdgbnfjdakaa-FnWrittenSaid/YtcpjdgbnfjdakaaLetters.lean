/- Plain laws of shorthands and their values. No program here. -/
import Derived.Test.YtcpjdgbnfjdakaaGoes
namespace Go.Proofs.Ytcpjdgbnfjdakaa

theorem shortsN_fin (s : SetD) (w : Way) (rest : List ByteArray) (n : Nat) (x : ByteArray) (r : RunD) (left : List ByteArray) (h : x.size = 0) : shortsN s w rest n x r left = (r, left) := by
  cases n with
  | zero => rfl
  | succ n => rw [shortsN, if_pos h]
/-- One shorthand that leaves none. -/
theorem shorts_one {s : SetD} {w : Way} {x : ByteArray} {l left : List ByteArray} {r r' : RunD} {m : ByteArray} (he : r.err.isNone = true) (hx : 0 < x.size) (hm : m.size = 0) (h : shortF s w x l r = (r', m, left)) : shortsF s w x l r = (r', left) := by
  obtain ⟨n, hn⟩ : ∃ n, x.size = n + 1 := ⟨x.size - 1, by omega⟩
  rw [shortsF, hn, shortsN, if_neg (by omega), if_neg (by simp [he]), h]
  exact shortsN_fin _ _ _ _ _ _ _ hm
theorem d_size : (⟨#[45]⟩ : ByteArray).size = 1 := rfl
theorem d_text (t : ByteArray) : ((⟨#[45]⟩ : ByteArray) ++ t).extract 1 ((⟨#[45]⟩ : ByteArray) ++ t).size = t :=
  ByteArray.extract_append_eq_right rfl (by simp only [ByteArray.size_append, d_size])
theorem bare_d (t : ByteArray) (h : 0 < t.size) : bareF ((⟨#[45]⟩ : ByteArray) ++ t) = false := by
  have e : byteO ((⟨#[45]⟩ : ByteArray) ++ t) 0 = some 45 := (byteO_left _ _ 0 (by decide)).trans rfl
  have hs : ¬ ((⟨#[45]⟩ : ByteArray) ++ t).size ≤ 1 := by rw [ByteArray.size_append, d_size]; omega
  simp only [bareF, e, decide_eq_false hs]
  rfl
theorem byteO_right (a b : ByteArray) (i j : Nat) (hj : j = a.size + i) (h : i < b.size) : byteO (a ++ b) j = byteO b i := by
  subst hj
  rw [byteO_some (by rw [ByteArray.size_append]; omega), byteO_some h]
  refine congrArg some ?_
  rw [ByteArray.getElem_append_right (by omega)]
  congr 1
  omega
/-- A shorthand of a right set. -/
theorem short_first {s : SetD} (R : RightP s s.flags) {F : ByteArray → ByteArray} (q : RQ F s.flags) {k : Nat} (hk : k < s.flags.length) (hs : 0 < s.flags[k].short.size) : ∃ c, byteO s.flags[k].short 0 = some c ∧ s.flags[k].short.size = 1 ∧ letterF c = true ∧ s.lettered c = some k := by
  rcases q.one s.flags[k] (List.getElem_mem hk) with h | ⟨h1, hl⟩
  · omega
  · have hc := byteO_some hs
    refine ⟨s.flags[k].short[0], hc, h1, hl, ?_⟩
    generalize hcc : s.flags[k].short[0] = c at *
    cases e : s.lettered c with
    | none =>
      have := findAt_none _ _ _ e s.flags[k] (List.getElem_mem hk)
      simp [hc] at this
    | some i =>
      obtain ⟨x, hx, hp⟩ := findAt_sat _ _ _ _ e
      rw [Nat.sub_zero] at hx
      have hp' : byteO x.short 0 = some c := by simpa using hp
      rw [R.sh i k x s.flags[k] c hx (List.getElem?_eq_getElem hk) hp' hc]
theorem goes_short {s : SetD} {w : Way} {t m : ByteArray} {c : UInt8} {l left : List ByteArray} {r r' : RunD} (he : r.err.isNone = true) (h0 : byteO t 0 = some c) (hc : letterF c = true) (hm : m.size = 0) (h : shortF s w t l r = (r', m, left)) : goesF s w (((⟨#[45]⟩ : ByteArray) ++ t) :: l) r = goesF s w left r' := by
  have ht : 0 < t.size := by
    by_cases q : 0 < t.size
    · exact q
    · rw [byteO_none (by omega)] at h0; cases h0
  have h1 : (byteO ((⟨#[45]⟩ : ByteArray) ++ t) 1 == some 45) = false := by
    rw [byteO_right _ _ 0 1 (by rw [d_size]) ht, h0, beq_eq_false_iff_ne]
    intro e
    have e2 : c = 45 := by simpa using e
    rw [e2] at hc
    exact absurd hc (by decide)
  rw [goesF_short he (bare_d _ ht) h1, d_text, shorts_one he ht hm h]
theorem five_list (t : ByteArray) (h : (t.extract 0 5).toList = [116, 101, 115, 116, 46]) : byteO t 1 = some 101 ∧ 5 ≤ t.size := by
  rw [ByteArray.toList_eq] at h
  have hl : (t.extract 0 5).size = 5 := by
    show (t.extract 0 5).data.size = 5
    rw [← Array.length_toList, h]; rfl
  have hsz : 5 ≤ t.size := by rw [ByteArray.size_extract] at hl; omega
  refine ⟨?_, hsz⟩
  have e : (t.extract 0 5).data.toList[1]? = some 101 := by rw [h]; rfl
  rw [Array.getElem?_toList] at e
  have h1 : 1 < (t.extract 0 5).size := by omega
  have h1' : 1 < (t.extract 0 5).data.size := h1
  rw [Array.getElem?_eq_getElem h1'] at e
  have e3 : (t.extract 0 5)[1] = 101 := Option.some.inj e
  rw [ByteArray.getElem_extract] at e3
  rw [byteO_some (by omega)]
  exact congrArg some e3
theorem test_of {t : ByteArray} (h : ((((⟨#[45]⟩ : ByteArray) ++ t).extract 0 6).toList == [45, 116, 101, 115, 116, 46]) = false) : ¬ (t.extract 0 5).toList = [116, 101, 115, 116, 46] := by
  intro e
  rw [beq_eq_false_iff_ne] at h
  apply h
  rw [ByteArray.toList_eq] at e ⊢
  rw [ByteArray.data_extract, Array.toList_extract, List.extract, List.drop_zero, Nat.sub_zero] at e
  rw [ByteArray.data_extract, Array.toList_extract, List.extract, List.drop_zero, Nat.sub_zero, ByteArray.data_append, Array.toList_append]
  show (45 :: t.data.toList).take 6 = _
  rw [List.take_succ_cons, e]
theorem first_not {v : ByteArray} (h : 0 < v.size) (h61 : ¬ ((v[0].toNat : Int) = 61)) : byteO v 0 ≠ some 61 := by
  rw [byteO_some h]
  intro e
  apply h61
  rw [Option.some.inj e]
  rfl
theorem eqS_size : (⟨#[61]⟩ : ByteArray).size = 1 := rfl
/-- A shorthand with = and a value. -/
theorem goes_letter_eq {s : SetD} {w : Way} (R : RightP s s.flags) {F : ByteArray → ByteArray} (q : RQ F s.flags) {k : Nat} (hk : k < s.flags.length) (hs : 0 < s.flags[k].short.size) (v : ByteArray) (hv : 0 < v.size) (l : List ByteArray) (r : RunD) (he : r.err.isNone = true) : goesF s w ((((⟨#[45]⟩ : ByteArray) ++ s.flags[k].short) ++ ⟨#[61]⟩ ++ v) :: l) r = goesF s w l (giveF s w k v r) := by
  obtain ⟨c, h0, h1, hl, hn⟩ := short_first R q hk hs
  generalize s.flags[k].short = sh at *
  have e : (((⟨#[45]⟩ : ByteArray) ++ sh) ++ ⟨#[61]⟩ ++ v) = (⟨#[45]⟩ : ByteArray) ++ ((sh ++ ⟨#[61]⟩) ++ v) := by simp only [ByteArray.append_assoc]
  have b0 : byteO ((sh ++ ⟨#[61]⟩) ++ v) 0 = some c := by rw [byteO_left _ _ 0 (by simp only [ByteArray.size_append, eqS_size]; omega), byteO_left _ _ 0 (by omega), h0]
  have b1 : byteO ((sh ++ ⟨#[61]⟩) ++ v) 1 = some 61 := by rw [byteO_left _ _ 1 (by simp only [ByteArray.size_append, eqS_size]; omega), byteO_right _ _ 0 1 (by omega) (by rw [eqS_size]; omega)]; rfl
  have e2 : ((sh ++ ⟨#[61]⟩) ++ v).extract 2 ((sh ++ ⟨#[61]⟩) ++ v).size = v := ByteArray.extract_append_eq_right (by simp only [ByteArray.size_append, eqS_size]; omega) (by simp only [ByteArray.size_append])
  have e5 : ((((sh ++ ⟨#[61]⟩) ++ v).extract 0 5).toList == [116, 101, 115, 116, 46]) = false := by
    rw [beq_eq_false_iff_ne]
    intro h
    have := (five_list _ h).1
    rw [b1] at this
    exact absurd this (by decide)
  have e6 : decide (2 < ((sh ++ ⟨#[61]⟩) ++ v).size) = true := by simp only [ByteArray.size_append, eqS_size]; exact decide_eq_true (by omega)
  rw [e]
  refine goes_short he b0 hl (m := ⟨#[]⟩) rfl ?_
  simp only [shortF, e5, b0, b1, e6, Option.getD_some, hn, e2]
  rfl
/-- A shorthand, its value behind it. -/
theorem goes_letter_next {s : SetD} {w : Way} (R : RightP s s.flags) {F : ByteArray → ByteArray} (q : RQ F s.flags) {k : Nat} (hk : k < s.flags.length) (hs : 0 < s.flags[k].short.size) (hno : s.flags[k].noopt.size = 0) (v : ByteArray) (l : List ByteArray) (r : RunD) (he : r.err.isNone = true) : goesF s w (((⟨#[45]⟩ : ByteArray) ++ s.flags[k].short) :: v :: l) r = goesF s w l (giveF s w k v r) := by
  obtain ⟨c, h0, h1, hl, hn⟩ := short_first R q hk hs
  have e3 : s.nooptOf k = s.flags[k].noopt := by simp [SetD.nooptOf, hk]
  rw [← e3] at hno
  generalize s.flags[k].short = sh at *
  have e5 : ((sh.extract 0 5).toList == [116, 101, 115, 116, 46]) = false := by
    rw [beq_eq_false_iff_ne]
    intro h
    have := (five_list _ h).2
    omega
  have e6 : decide (2 < sh.size) = false := decide_eq_false (by omega)
  have e7 : (sh.extract 1 sh.size).size = 0 := by rw [ByteArray.size_extract]; omega
  refine goes_short he h0 hl (m := ⟨#[]⟩) rfl ?_
  simp only [shortF, e5, h0, e6, Option.getD_some, hn, hno, e7, wantsF]
  rfl
/-- A shorthand, its value in the same argument. -/
theorem goes_letter_glued {s : SetD} {w : Way} (R : RightP s s.flags) {F : ByteArray → ByteArray} (q : RQ F s.flags) {k : Nat} (hk : k < s.flags.length) (hs : 0 < s.flags[k].short.size) (hno : s.flags[k].noopt.size = 0) (v : ByteArray) (hv : 0 < v.size) (hve : byteO v 0 ≠ some 61) (hte : ¬ ((s.flags[k].short ++ v).extract 0 5).toList = [116, 101, 115, 116, 46]) (l : List ByteArray) (r : RunD) (he : r.err.isNone = true) : goesF s w ((((⟨#[45]⟩ : ByteArray) ++ s.flags[k].short) ++ v) :: l) r = goesF s w l (giveF s w k v r) := by
  obtain ⟨c, h0, h1, hl, hn⟩ := short_first R q hk hs
  have e3 : s.nooptOf k = s.flags[k].noopt := by simp [SetD.nooptOf, hk]
  rw [← e3] at hno
  generalize s.flags[k].short = sh at *
  have e : (((⟨#[45]⟩ : ByteArray) ++ sh) ++ v) = (⟨#[45]⟩ : ByteArray) ++ (sh ++ v) := by simp only [ByteArray.append_assoc]
  have b0 : byteO (sh ++ v) 0 = some c := by rw [byteO_left _ _ 0 (by omega), h0]
  have b1 : (byteO (sh ++ v) 1 == some 61) = false := by rw [byteO_right _ _ 0 1 (by omega) hv, beq_eq_false_iff_ne]; exact hve
  have e5 : (((sh ++ v).extract 0 5).toList == [116, 101, 115, 116, 46]) = false := by rw [beq_eq_false_iff_ne]; exact hte
  have e2 : (sh ++ v).extract 1 (sh ++ v).size = v := ByteArray.extract_append_eq_right h1.symm (by simp only [ByteArray.size_append])
  have e7 : v.size ≠ 0 := by omega
  rw [e]
  refine goes_short he b0 hl (m := ⟨#[]⟩) rfl ?_
  simp only [shortF, e5, b0, b1, Option.getD_some, hn, hno, e2, Bool.and_false]
  simp [e7]

end Go.Proofs.Ytcpjdgbnfjdakaa
