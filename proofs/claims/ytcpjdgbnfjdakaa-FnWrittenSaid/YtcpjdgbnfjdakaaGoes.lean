/- Plain laws on what parsing comes to: no program here. -/
import Derived.Test.YtcpjdgbnfjdakaaSpecR
import Derived.Test.YtcpjdgbnfjdakaaArgLaw
import Derived.Test.YtcpjdgbnfjdakaaLives
namespace Go.Proofs.Ytcpjdgbnfjdakaa

/-- More steps than arguments change nothing. -/
theorem goesN_more (s : SetD) (w : Way) : ∀ (n m : Nat) (l : List ByteArray) (r : RunD), l.length ≤ n → l.length ≤ m → goesN s w n l r = goesN s w m l r
  | n, m, [], r, _, _ => by rw [goesN_nil, goesN_nil]
  | 0, m, x :: l, r, h, _ => by simp at h
  | n + 1, 0, x :: l, r, _, h => by simp at h
  | n + 1, m + 1, x :: l, r, h1, h2 => by
    simp only [List.length_cons] at h1 h2
    have q1 : (longF s w x l r).2.length ≤ l.length := (longF_suffix s w x l r).length_le
    have q2 : (shortsF s w (x.extract 1 x.size) l r).2.length ≤ l.length := (shortsN_suffix s w l _ _ _ _ (List.suffix_refl _)).length_le
    rw [goesN, goesN]
    rw [goesN_more s w n m l { r with args := r.args ++ [x] } (by omega) (by omega), goesN_more s w n m (longF s w x l r).2 (longF s w x l r).1 (by omega) (by omega), goesN_more s w n m (shortsF s w (x.extract 1 x.size) l r).2 (shortsF s w (x.extract 1 x.size) l r).1 (by omega) (by omega)]

/-- A long argument is gone through. -/
theorem goesF_long {s : SetD} {w : Way} {x : ByteArray} {l : List ByteArray} {r : RunD} (he : r.err.isNone = true) (hb : bareF x = false) (h1 : byteO x 1 = some 45) (h2 : x.size ≠ 2) : goesF s w (x :: l) r = goesF s w (longF s w x l r).2 (longF s w x l r).1 := by
  rw [goesF, List.length_cons, goesN, if_neg (by simp [he]), if_neg (by simp [hb]), if_pos (by simp [h1]), if_neg h2]
  exact goesN_more s w _ _ _ _ (longF_suffix s w x l r).length_le (Nat.le_refl _)
/-- Shorthands are gone through. -/
theorem goesF_short {s : SetD} {w : Way} {x : ByteArray} {l : List ByteArray} {r : RunD} (he : r.err.isNone = true) (hb : bareF x = false) (h1 : (byteO x 1 == some 45) = false) : goesF s w (x :: l) r = goesF s w (shortsF s w (x.extract 1 x.size) l r).2 (shortsF s w (x.extract 1 x.size) l r).1 := by
  rw [goesF, List.length_cons, goesN, if_neg (by simp [he]), if_neg (by simp [hb]), if_neg (by simp [h1])]
  exact goesN_more s w _ _ _ _ (shortsN_suffix s w l _ _ _ _ (List.suffix_refl _)).length_le (Nat.le_refl _)

/-- A flag's own name names it. -/
theorem named_own {s : SetD} (R : RightP s s.flags) {k : Nat} (hk : k < s.flags.length) : s.named s.flags[k].name = some k := by
  cases c : s.named s.flags[k].name with
  | none =>
    have := findAt_none _ _ _ c s.flags[k] (List.getElem_mem hk)
    rw [eqB_eq] at this
    simp at this
  | some i =>
    obtain ⟨x, hx, hp⟩ := findAt_sat _ _ _ _ c
    rw [eqB_eq] at hp
    rw [Nat.sub_zero] at hx
    rw [R.nm i k x s.flags[k] hx (List.getElem?_eq_getElem hk) (of_decide_eq_true hp)]

theorem firstFrom_not (p : UInt8 → Bool) (s : ByteArray) (k : Nat) : ∀ j, k ≤ j → j < firstFrom p s k → ∃ h : j < s.size, p s[j] = false := by
  intro j hkj hj
  have hs : j < s.size := Nat.lt_of_lt_of_le hj (firstFrom_le p s k)
  refine ⟨hs, ?_⟩
  induction hd : j - k generalizing k with
  | zero =>
    have : k = j := by omega
    subst this
    cases c : p s[k] with
    | false => rfl
    | true => rw [firstFrom_yes p s k hs c] at hj; omega
  | succ d ih =>
    have hk : k < s.size := by omega
    cases c : p s[k] with
    | true => rw [firstFrom_yes p s k hk c] at hj; omega
    | false =>
      rw [firstFrom_no p s k hk c] at hj
      exact ih (k + 1) (by omega) hj (by omega)
theorem firstFrom_at (p : UInt8 → Bool) (s : ByteArray) (n : Nat) (hn : n ≤ s.size) (hno : ∀ j (h : j < n), p (s[j]'(by omega)) = false) (hyes : n = s.size ∨ ∃ h : n < s.size, p s[n] = true) : ∀ k, k ≤ n → firstFrom p s k = n := by
  intro k hk
  induction hd : n - k generalizing k with
  | zero =>
    have : k = n := by omega
    subst this
    rcases hyes with h | ⟨h, hp⟩
    · rw [firstFrom_end p s k (by omega)]; omega
    · exact firstFrom_yes p s k h hp
  | succ d ih =>
    rw [firstFrom_no p s k (by omega) (hno k (by omega))]
    exact ih (k + 1) (by omega) (by omega)

theorem dd_size : (⟨#[45, 45]⟩ : ByteArray).size = 2 := rfl
theorem eq_size : (⟨#[61]⟩ : ByteArray).size = 1 := rfl
theorem longT_size (n v : ByteArray) : (longT n v).size = 2 + n.size + 1 + v.size := by simp only [longT, ByteArray.size_append, dd_size, eq_size]
theorem longT_form (n v : ByteArray) : longT n v = (⟨#[45, 45]⟩ : ByteArray) ++ ((n ++ ⟨#[61]⟩) ++ v) := by simp only [longT, ByteArray.append_assoc]
theorem longT_text (n v : ByteArray) : (longT n v).extract 2 (longT n v).size = (n ++ ⟨#[61]⟩) ++ v := by
  rw [longT_form]
  exact ByteArray.extract_append_eq_right rfl (by simp only [ByteArray.size_append, dd_size])
theorem eqText_name (n v : ByteArray) : ((n ++ ⟨#[61]⟩) ++ v).extract 0 n.size = n := by
  apply ByteArray.ext
  simp
theorem eqText_value (n v : ByteArray) : ((n ++ ⟨#[61]⟩) ++ v).extract (n.size + 1) ((n ++ ⟨#[61]⟩) ++ v).size = v :=
  ByteArray.extract_append_eq_right (by simp only [ByteArray.size_append, eq_size]) (by simp only [ByteArray.size_append])
theorem ddName_text (n : ByteArray) : ((⟨#[45, 45]⟩ : ByteArray) ++ n).extract 2 ((⟨#[45, 45]⟩ : ByteArray) ++ n).size = n :=
  ByteArray.extract_append_eq_right rfl (by simp only [ByteArray.size_append, dd_size])

theorem byteO_left (a b : ByteArray) (i : Nat) (h : i < a.size) : byteO (a ++ b) i = byteO a i := by
  rw [byteO_some (by rw [ByteArray.size_append]; omega), byteO_some h]
  exact congrArg some (ByteArray.getElem_append_left h)

theorem bare_dd (b : ByteArray) : bareF ((⟨#[45, 45]⟩ : ByteArray) ++ b) = false := by
  have h : byteO ((⟨#[45, 45]⟩ : ByteArray) ++ b) 0 = some 45 := (byteO_left _ _ 0 (by decide)).trans rfl
  have hs : ¬ ((⟨#[45, 45]⟩ : ByteArray) ++ b).size ≤ 1 := by rw [ByteArray.size_append, dd_size]; omega
  simp only [bareF, h, decide_eq_false hs]
  rfl
theorem one_dd (b : ByteArray) : byteO ((⟨#[45, 45]⟩ : ByteArray) ++ b) 1 = some 45 := (byteO_left _ _ 1 (by decide)).trans rfl

/-- A name of a right set: its first byte. -/
theorem name_first {F : ByteArray → ByteArray} {fs : List FlagD} (q : RQ F fs) {f : FlagD} (hf : f ∈ fs) : ∃ c, byteO f.name 0 = some c ∧ c ≠ 45 ∧ c ≠ 61 ∧ 0 < f.name.size := by
  obtain ⟨h, hl⟩ := q.letter f hf
  refine ⟨f.name[0], byteO_some h, ?_, ?_, h⟩
  · intro e; rw [e] at hl; exact absurd hl (by decide)
  · intro e; rw [e] at hl; exact absurd hl (by decide)

theorem first_of_name {F : ByteArray → ByteArray} {fs : List FlagD} (q : RQ F fs) {f : FlagD} (hf : f ∈ fs) : firstFrom isEq f.name 0 = f.name.size := by
  have h1 := q.noeq f hf
  have h2 := firstFrom_le isEq f.name 0
  omega
theorem first_of_text {F : ByteArray → ByteArray} {fs : List FlagD} (q : RQ F fs) {f : FlagD} (hf : f ∈ fs) (v : ByteArray) : firstFrom isEq ((f.name ++ ⟨#[61]⟩) ++ v) 0 = f.name.size := by
  have h1 := q.noeq f hf
  refine firstFrom_at isEq _ f.name.size (by simp only [ByteArray.size_append]; omega) (fun j hj => ?_) (.inr ⟨by simp only [ByteArray.size_append, eq_size]; omega, ?_⟩) 0 (Nat.zero_le _)
  · obtain ⟨hs, hp⟩ := firstFrom_not isEq f.name 0 j (Nat.zero_le _) (by omega)
    rw [ByteArray.getElem_append_left (by simp only [ByteArray.size_append]; omega), ByteArray.getElem_append_left hs]
    exact hp
  · rw [ByteArray.getElem_append_left (by simp only [ByteArray.size_append, eq_size]; omega), ByteArray.getElem_append_right (Nat.le_refl _)]
    simp [isEq]
    rfl

/-- A long argument with a value of its own. -/
theorem longF_eq {s : SetD} {w : Way} (R : RightP s s.flags) {F : ByteArray → ByteArray} (q : RQ F s.flags) {k : Nat} (hk : k < s.flags.length) (v : ByteArray) (l : List ByteArray) (r : RunD) : longF s w (longT s.flags[k].name v) l r = (giveF s w k v r, l) := by
  obtain ⟨c, hc, h45, h61, h0⟩ := name_first q (List.getElem_mem hk)
  have e0 : byteO ((s.flags[k].name ++ ⟨#[61]⟩) ++ v) 0 = some c := by
    rw [byteO_left _ _ 0 (by simp only [ByteArray.size_append]; omega), byteO_left _ _ 0 h0]; exact hc
  have e1 := first_of_text q (List.getElem_mem hk) v
  have e2 : s.flags[k].name.size < ((s.flags[k].name ++ ⟨#[61]⟩) ++ v).size := by simp only [ByteArray.size_append, eq_size]; omega
  simp only [longF, longT_text, e0, e1, eqText_name, eqText_value, named_own R hk]
  rw [if_neg (by simp [h45, h61]), if_pos e2]

/-- A long argument whose value comes next. -/
theorem longF_next {s : SetD} {w : Way} (R : RightP s s.flags) {F : ByteArray → ByteArray} (q : RQ F s.flags) {k : Nat} (hk : k < s.flags.length) (hno : s.flags[k].noopt.size = 0) (v : ByteArray) (l : List ByteArray) (r : RunD) : longF s w ((⟨#[45, 45]⟩ : ByteArray) ++ s.flags[k].name) (v :: l) r = (giveF s w k v r, l) := by
  obtain ⟨c, hc, h45, h61, h0⟩ := name_first q (List.getElem_mem hk)
  have e1 := first_of_name q (List.getElem_mem hk)
  have e3 : s.nooptOf k = s.flags[k].noopt := by simp [SetD.nooptOf, hk]
  have e4 : s.flags[k].name.extract 0 s.flags[k].name.size = s.flags[k].name := ByteArray.extract_zero_size
  simp only [longF, ddName_text, hc, e1, e4, named_own R hk, e3, hno, wantsF]
  rw [if_neg (by simp [h45, h61]), if_neg (by omega), if_neg (by simp)]

theorem goes_eq {s : SetD} {w : Way} (R : RightP s s.flags) {F : ByteArray → ByteArray} (q : RQ F s.flags) {k : Nat} (hk : k < s.flags.length) (v : ByteArray) (l : List ByteArray) (r : RunD) (he : r.err.isNone = true) : goesF s w (longT s.flags[k].name v :: l) r = goesF s w l (giveF s w k v r) := by
  have hs := longT_size s.flags[k].name v
  rw [goesF_long he (by rw [longT_form]; exact bare_dd _) (by rw [longT_form]; exact one_dd _) (by omega), longF_eq R q hk]
theorem goes_next {s : SetD} {w : Way} (R : RightP s s.flags) {F : ByteArray → ByteArray} (q : RQ F s.flags) {k : Nat} (hk : k < s.flags.length) (hno : s.flags[k].noopt.size = 0) (v : ByteArray) (l : List ByteArray) (r : RunD) (he : r.err.isNone = true) : goesF s w (((⟨#[45, 45]⟩ : ByteArray) ++ s.flags[k].name) :: v :: l) r = goesF s w l (giveF s w k v r) := by
  obtain ⟨c, hc, h45, h61, h0⟩ := name_first q (List.getElem_mem hk)
  rw [goesF_long he (bare_dd _) (one_dd _) (by rw [ByteArray.size_append, dd_size]; omega), longF_next R q hk hno]
end Go.Proofs.Ytcpjdgbnfjdakaa
