/- Plain laws: more arguments; where arguments may be cut. No program here. -/
import Derived.Test.YtcpjdgbnfjdakaaGoes
namespace Go.Proofs.Ytcpjdgbnfjdakaa
open Go.RowKit
set_option linter.unusedVariables false
set_option linter.unusedSimpArgs false

theorem giveF_pre (s : SetD) (w : Way) (i : Nat) (v : ByteArray) (r : RunD) : r.given <+: (giveF s w i v r).given := by
  cases w with
  | sets =>
    simp only [giveF]
    split
    · exact List.prefix_refl _
    · exact List.prefix_append _ _
  | hands bad => exact List.prefix_append _ _
theorem wantsF_pre (s : SetD) (w : Way) (i : Nat) (n sh : ByteArray) (l : List ByteArray) (r : RunD) : r.given <+: (wantsF s w i n sh l r).1.given := by
  cases l with
  | nil => exact List.prefix_refl _
  | cons v l => exact giveF_pre _ _ _ _ _
theorem longF_pre (s : SetD) (w : Way) (x : ByteArray) (l : List ByteArray) (r : RunD) : r.given <+: (longF s w x l r).1.given := by
  simp only [longF]
  repeat' split
  all_goals first | exact List.prefix_refl _ | exact giveF_pre _ _ _ _ _ | exact wantsF_pre _ _ _ _ _ _ _
theorem shortF_pre (s : SetD) (w : Way) (x : ByteArray) (l : List ByteArray) (r : RunD) : r.given <+: (shortF s w x l r).1.given := by
  simp only [shortF]
  repeat' split
  all_goals first | exact List.prefix_refl _ | exact giveF_pre _ _ _ _ _ | exact wantsF_pre _ _ _ _ _ _ _
theorem shortsN_pre (s : SetD) (w : Way) (rest : List ByteArray) : ∀ (n : Nat) (x : ByteArray) (r : RunD) (left : List ByteArray), r.given <+: (shortsN s w rest n x r left).1.given
  | 0, x, r, left => List.prefix_refl _
  | n + 1, x, r, left => by
    rw [shortsN]
    split
    · exact List.prefix_refl _
    · split
      · exact List.prefix_refl _
      · exact (shortF_pre s w x rest r).trans (shortsN_pre s w rest n _ _ _)
theorem goesN_pre (s : SetD) (w : Way) : ∀ (n : Nat) (l : List ByteArray) (r : RunD), r.given <+: (goesN s w n l r).given
  | 0, l, r => List.prefix_refl _
  | n + 1, [], r => List.prefix_refl _
  | n + 1, x :: l, r => by
    rw [goesN]
    split
    · exact List.prefix_refl _
    · split
      · split
        · exact List.prefix_refl _
        · exact goesN_pre s w n l { r with args := r.args ++ [x] }
      · split
        · split
          · exact List.prefix_refl _
          · exact (longF_pre s w x l r).trans (goesN_pre s w n _ _)
        · exact (shortsN_pre s w l _ _ _ _).trans (goesN_pre s w n _ _)
theorem goesF_pre (s : SetD) (w : Way) (l : List ByteArray) (r : RunD) : r.given <+: (goesF s w l r).given := goesN_pre s w _ l r

theorem stripF_cons (y : ByteArray) (l c : List ByteArray) : stripF (y :: (l ++ c)) = stripF (y :: l) ++ c := by
  simp only [stripF]
  split <;> rfl

def isReq : ErrD → Bool
  | .valueReq _ _ _ => true
  | _ => false

/-- Arguments behind a long one do not matter to it, if there is one. -/
theorem longF_cons (s : SetD) (w : Way) (x y : ByteArray) (l c : List ByteArray) (r : RunD) : longF s w x (y :: l ++ c) r = ((longF s w x (y :: l) r).1, (longF s w x (y :: l) r).2 ++ c) := by
  have hs := stripF_cons y l c
  simp only [longF, List.cons_append, hs, wantsF]
  repeat' split
  all_goals rfl
theorem longF_nil (s : SetD) (w : Way) (x : ByteArray) (c : List ByteArray) (r : RunD) : ((longF s w x c r).1 = (longF s w x [] r).1) ∨ (isReq (longF s w x [] r).1.err = true ∧ (longF s w x [] r).1.given = r.given) := by
  cases c with
  | nil => exact .inl rfl
  | cons y c =>
    simp only [longF, wantsF]
    repeat' split
    all_goals first | exact .inl rfl | exact .inr ⟨rfl, rfl⟩
theorem shortF_cons (s : SetD) (w : Way) (x y : ByteArray) (l c : List ByteArray) (r : RunD) : shortF s w x (y :: l ++ c) r = ((shortF s w x (y :: l) r).1, (shortF s w x (y :: l) r).2.1, (shortF s w x (y :: l) r).2.2 ++ c) := by
  have hs := stripF_cons y l c
  simp only [shortF, List.cons_append, hs, wantsF]
  repeat' split
  all_goals rfl
theorem shortF_nil (s : SetD) (w : Way) (x : ByteArray) (c : List ByteArray) (r : RunD) : ((shortF s w x c r).1 = (shortF s w x [] r).1 ∧ (shortF s w x c r).2.1 = (shortF s w x [] r).2.1) ∨ (isReq (shortF s w x [] r).1.err = true ∧ (shortF s w x [] r).1.given = r.given ∧ (shortF s w x [] r).2.1.size = 0) := by
  cases c with
  | nil => exact .inl ⟨rfl, rfl⟩
  | cons y c =>
    simp only [shortF, wantsF]
    repeat' split
    all_goals first | exact .inl ⟨rfl, rfl⟩ | exact .inr ⟨rfl, rfl, rfl⟩
theorem shortsN_cons (s : SetD) (w : Way) (y : ByteArray) (l c : List ByteArray) : ∀ (n : Nat) (x : ByteArray) (r : RunD) (left : List ByteArray), shortsN s w (y :: l ++ c) n x r (left ++ c) = ((shortsN s w (y :: l) n x r left).1, (shortsN s w (y :: l) n x r left).2 ++ c)
  | 0, x, r, left => rfl
  | n + 1, x, r, left => by
    rw [shortsN, shortsN, shortF_cons]
    split
    · rfl
    · split
      · rfl
      · exact shortsN_cons s w y l c n _ _ _
theorem shortsN_end (s : SetD) (w : Way) (rest : List ByteArray) (n : Nat) (x : ByteArray) (r : RunD) (left : List ByteArray) (h : x.size = 0) : shortsN s w rest n x r left = (r, left) := by
  cases n with
  | zero => rfl
  | succ n => rw [shortsN, if_pos h]
theorem shortsN_nil (s : SetD) (w : Way) (c : List ByteArray) : ∀ (n : Nat) (x : ByteArray) (r : RunD) (left1 left2 : List ByteArray),
    (shortsN s w c n x r left2).1 = (shortsN s w [] n x r left1).1 ∨ (isReq (shortsN s w [] n x r left1).1.err = true ∧ (shortsN s w [] n x r left1).1.given <+: (shortsN s w c n x r left2).1.given)
  | 0, x, r, left1, left2 => .inl rfl
  | n + 1, x, r, left1, left2 => by
    rw [shortsN, shortsN]
    split
    · exact .inl rfl
    · split
      · exact .inl rfl
      · rcases shortF_nil s w x c r with ⟨h1, h2⟩ | ⟨h1, h2, h3⟩
        · rw [h1, h2]
          exact shortsN_nil s w c n _ _ _ _
        · right
          rw [shortsN_end s w [] n _ _ _ h3]
          refine ⟨h1, ?_⟩
          show (shortF s w x [] r).1.given <+: _
          rw [h2]
          exact (shortF_pre s w x c r).trans (shortsN_pre s w c n _ _ _)

/-- What more arguments may change. -/
def Grown (h g : RunD) : Prop := h.given <+: g.given ∧ (h.err.isNone = true ∨ isReq h.err = true ∨ g = h)

theorem goes_grown (s : SetD) (w : Way) (c : List ByteArray) : ∀ (n : Nat) (a : List ByteArray) (r : RunD), a.length ≤ n → Grown (goesF s w a r) (goesF s w (a ++ c) r)
  | n, [], r, _ => by
    rw [show goesF s w [] r = r from rfl, List.nil_append]
    cases he : r.err.isNone with
    | true => exact ⟨goesF_pre s w c r, .inl he⟩
    | false => rw [goesF, goesN_stop s w _ _ _ he]; exact ⟨List.prefix_refl _, .inr (.inr rfl)⟩
  | 0, x :: l, r, h => by simp at h
  | n + 1, x :: l, r, h => by
    simp only [List.length_cons] at h
    cases he : r.err.isNone with
    | false =>
      rw [goesF, goesF, goesN_stop s w _ _ _ he, goesN_stop s w _ _ _ he]
      exact ⟨List.prefix_refl _, .inr (.inr rfl)⟩
    | true =>
      cases hb : bareF x with
      | true =>
        cases hp : s.plain with
        | true =>
          have e : ∀ l', goesF s w (x :: l') r = { r with args := r.args ++ (x :: l') } := fun l' => by rw [goesF, List.length_cons, goesN, if_neg (by simp [he]), if_pos hb, if_pos hp]
          rw [List.cons_append, e, e]
          exact ⟨List.prefix_refl _, .inl he⟩
        | false =>
          have e : ∀ l', goesF s w (x :: l') r = goesF s w l' { r with args := r.args ++ [x] } := fun l' => by rw [goesF, List.length_cons, goesN, if_neg (by simp [he]), if_pos hb, if_neg (by simp [hp])]; rfl
          rw [List.cons_append, e, e]
          exact goes_grown s w c n l _ (by omega)
      | false =>
        cases h1 : (byteO x 1 == some 45) with
        | true =>
          have h1' : byteO x 1 = some 45 := by simpa using h1
          by_cases h2 : x.size = 2
          · have e : ∀ l', goesF s w (x :: l') r = { r with dash := r.args.length, args := r.args ++ l' } := fun l' => by rw [goesF, List.length_cons, goesN, if_neg (by simp [he]), if_neg (by simp [hb]), if_pos h1, if_pos h2]
            rw [List.cons_append, e, e]
            exact ⟨List.prefix_refl _, .inl he⟩
          · rw [List.cons_append, goesF_long he hb h1' h2, goesF_long he hb h1' h2]
            cases l with
            | cons y l =>
              rw [longF_cons]
              refine goes_grown s w c n _ _ ?_
              have := (longF_suffix s w x (y :: l) r).length_le
              omega
            | nil =>
              have e0 : (longF s w x [] r).2 = [] := List.suffix_nil.1 (longF_suffix s w x [] r)
              rw [e0, List.nil_append]
              rcases longF_nil s w x c r with q | ⟨q1, q2⟩
              · rw [q]
                exact goes_grown_nil _ _ _ _
              · refine ⟨?_, .inr (.inl q1)⟩
                show (longF s w x [] r).1.given <+: _
                rw [q2]
                exact (longF_pre s w x c r).trans (goesF_pre s w _ _)
        | false =>
          rw [List.cons_append, goesF_short he hb h1, goesF_short he hb h1]
          cases l with
          | cons y l =>
            rw [shortsF, shortsF, shortsN_cons s w y l c]
            refine goes_grown s w c n _ _ ?_
            have := (shortsN_suffix s w (y :: l) (x.extract 1 x.size).size (x.extract 1 x.size) r (y :: l) (List.suffix_refl _)).length_le
            omega
          | nil =>
            have e0 : (shortsF s w (x.extract 1 x.size) [] r).2 = [] := List.suffix_nil.1 (shortsN_suffix s w [] _ _ _ _ (List.suffix_refl _))
            rw [e0, List.nil_append]
            rcases shortsN_nil s w c (x.extract 1 x.size).size (x.extract 1 x.size) r [] c with q | ⟨q1, q2⟩
            · rw [show (shortsF s w (x.extract 1 x.size) c r).1 = (shortsF s w (x.extract 1 x.size) [] r).1 from q]
              exact goes_grown_nil _ _ _ _
            · exact ⟨q2.trans (goesF_pre s w _ _), .inr (.inl q1)⟩
where
  goes_grown_nil (s : SetD) (w : Way) (c : List ByteArray) (r : RunD) : Grown (goesF s w [] r) (goesF s w c r) := by
    rw [show goesF s w [] r = r from rfl]
    cases he : r.err.isNone with
    | true => exact ⟨goesF_pre s w c r, .inl he⟩
    | false => rw [goesF, goesN_stop s w _ _ _ he]; exact ⟨List.prefix_refl _, .inr (.inr rfl)⟩

/-- What becomes of the arguments behind: all are left, or all without the first one that is no flag. -/
inductive LeftBy : (List ByteArray → List ByteArray) → Prop where
  | all : LeftBy fun c => c
  | strip : LeftBy stripF

theorem longF_left (s : SetD) (w : Way) (x : ByteArray) (r : RunD) : (∃ f, LeftBy f ∧ ∀ c, longF s w x c r = ((longF s w x [] r).1, f c)) ∨ (longF s w x [] r).1.err.isNone = false := by
  simp only [longF, wantsF]
  repeat' split
  all_goals first
    | exact .inl ⟨_, .all, fun c => rfl⟩
    | exact .inl ⟨_, .strip, fun c => rfl⟩
    | exact .inr rfl
theorem shortF_left (s : SetD) (w : Way) (x : ByteArray) (r : RunD) : (∃ f, LeftBy f ∧ ∀ c, shortF s w x c r = ((shortF s w x [] r).1, (shortF s w x [] r).2.1, f c)) ∨ (isReq (shortF s w x [] r).1.err = true ∧ (shortF s w x [] r).2.1.size = 0) := by
  simp only [shortF, wantsF]
  repeat' split
  all_goals first
    | exact .inl ⟨_, .all, fun c => rfl⟩
    | exact .inl ⟨_, .strip, fun c => rfl⟩
    | exact .inr ⟨rfl, rfl⟩
theorem req_not {e : ErrD} (h : isReq e = true) : e.isNone = false := by
  cases e <;> simp_all [isReq, ErrD.isNone]
theorem shortsN_left (s : SetD) (w : Way) : ∀ (n : Nat) (x : ByteArray) (r : RunD) (g : List ByteArray → List ByteArray) (_ : LeftBy g) (l0 : List ByteArray),
    (∃ f, LeftBy f ∧ ∀ c, shortsN s w c n x r (g c) = ((shortsN s w [] n x r l0).1, f c)) ∨ (shortsN s w [] n x r l0).1.err.isNone = false
  | 0, x, r, g, hg, l0 => .inl ⟨g, hg, fun c => rfl⟩
  | n + 1, x, r, g, hg, l0 => by
    by_cases h0 : x.size = 0
    · exact .inl ⟨g, hg, fun c => by rw [shortsN_end _ _ _ _ _ _ _ h0, shortsN_end _ _ _ _ _ _ _ h0]⟩
    · cases he : r.err.isNone with
      | false => right; rw [shortsN, if_neg h0, if_pos he]; exact he
      | true =>
        rcases shortF_left s w x r with ⟨f, hf, hc⟩ | ⟨q1, q2⟩
        · rcases shortsN_left s w n (shortF s w x [] r).2.1 (shortF s w x [] r).1 f hf (shortF s w x [] r).2.2 with ⟨f', hf', hc'⟩ | q
          · refine .inl ⟨f', hf', fun c => ?_⟩
            rw [shortsN, if_neg h0, if_neg (by simp [he]), hc c]
            rw [hc' c]
            conv => rhs; rw [shortsN, if_neg h0, if_neg (by simp [he])]
          · right
            rw [shortsN, if_neg h0, if_neg (by simp [he])]
            exact q
        · right
          rw [shortsN, if_neg h0, if_neg (by simp [he]), shortsN_end _ _ _ _ _ _ _ q2]
          exact req_not q1
theorem shortsF_left (s : SetD) (w : Way) (x : ByteArray) (r : RunD) : (∃ f, LeftBy f ∧ ∀ c, shortsF s w x c r = ((shortsF s w x [] r).1, f c)) ∨ (shortsF s w x [] r).1.err.isNone = false :=
  shortsN_left s w x.size x r (fun c => c) .all []

theorem goes_err {s : SetD} {w : Way} {l : List ByteArray} {r : RunD} (h : r.err.isNone = false) : goesF s w l r = r := goesN_stop s w _ _ _ h

/-- Where a run stands without an error, and flags have not ended: what comes behind goes on from there. -/
theorem goes_cut (s : SetD) (w : Way) : ∀ (n : Nat) (a : List ByteArray) (r : RunD), a.length ≤ n → (goesF s w a r).err.isNone = true →
    (∃ f, LeftBy f ∧ ∀ c, goesF s w (a ++ c) r = goesF s w (f c) (goesF s w a r)) ∨ 0 ≤ (goesF s w a r).dash ∨ (s.plain = true ∧ 0 < (goesF s w a r).args.length)
  | n, [], r, _, _ => .inl ⟨_, .all, fun c => rfl⟩
  | 0, x :: l, r, h, _ => by simp at h
  | n + 1, x :: l, r, h, hn => by
    simp only [List.length_cons] at h
    cases he : r.err.isNone with
    | false => rw [goes_err he, he] at hn; cases hn
    | true =>
      cases hb : bareF x with
      | true =>
        cases hp : s.plain with
        | true =>
          have e : goesF s w (x :: l) r = { r with args := r.args ++ (x :: l) } := by rw [goesF, List.length_cons, goesN, if_neg (by simp [he]), if_pos hb, if_pos hp]
          exact .inr (.inr ⟨rfl, by rw [e]; simp only [List.length_append, List.length_cons]; omega⟩)
        | false =>
          have e : ∀ l', goesF s w (x :: l') r = goesF s w l' { r with args := r.args ++ [x] } := fun l' => by rw [goesF, List.length_cons, goesN, if_neg (by simp [he]), if_pos hb, if_neg (by simp [hp])]; rfl
          rw [e] at hn ⊢
          simp only [List.cons_append, e]
          rcases goes_cut s w n l _ (by omega) hn with q | q | ⟨q, _⟩
          · exact .inl q
          · exact .inr (.inl q)
          · rw [hp] at q; cases q
      | false =>
        cases h1 : (byteO x 1 == some 45) with
        | true =>
          have h1' : byteO x 1 = some 45 := by simpa using h1
          by_cases h2 : x.size = 2
          · have e : goesF s w (x :: l) r = { r with dash := r.args.length, args := r.args ++ l } := by rw [goesF, List.length_cons, goesN, if_neg (by simp [he]), if_neg (by simp [hb]), if_pos h1, if_pos h2]
            exact .inr (.inl (by rw [e]; simp))
          · rw [goesF_long he hb h1' h2] at hn ⊢
            simp only [List.cons_append, goesF_long he hb h1' h2]
            cases l with
            | cons y l =>
              have hlen := (longF_suffix s w x (y :: l) r).length_le
              simp only [longF_cons]
              exact goes_cut s w n _ _ (by omega) hn
            | nil =>
              have e0 : (longF s w x [] r).2 = [] := List.suffix_nil.1 (longF_suffix s w x [] r)
              rcases longF_left s w x r with ⟨f, hf, hc⟩ | q
              · refine .inl ⟨f, hf, fun c => ?_⟩
                simp only [List.nil_append]
                rw [hc c, e0]
                rfl
              · rw [goes_err q, q] at hn; cases hn
        | false =>
          rw [goesF_short he hb h1] at hn ⊢
          simp only [List.cons_append, goesF_short he hb h1]
          cases l with
          | cons y l =>
            have hlen := (shortsN_suffix s w (y :: l) (x.extract 1 x.size).size (x.extract 1 x.size) r (y :: l) (List.suffix_refl _)).length_le
            simp only [shortsF, shortsN_cons s w y l]
            exact goes_cut s w n _ _ (by omega) hn
          | nil =>
            have e0 : (shortsF s w (x.extract 1 x.size) [] r).2 = [] := List.suffix_nil.1 (shortsN_suffix s w [] _ _ _ _ (List.suffix_refl _))
            rcases shortsF_left s w (x.extract 1 x.size) r with ⟨f, hf, hc⟩ | q
            · refine .inl ⟨f, hf, fun c => ?_⟩
              simp only [List.nil_append]
              rw [hc c, e0]
              rfl
            · rw [goes_err q, q] at hn; cases hn

/-! What was heard ahead stands in front. -/
def shiftR (G : List (Nat × ByteArray)) (A : List ByteArray) (r : RunD) : RunD := { err := r.err, given := G ++ r.given, args := A ++ r.args, dash := if 0 ≤ r.dash then r.dash + A.length else r.dash }

theorem giveF_shift (s : SetD) (w : Way) (i : Nat) (v : ByteArray) (G A) (r : RunD) : giveF s w i v (shiftR G A r) = shiftR G A (giveF s w i v r) := by
  cases w with
  | sets =>
    simp only [giveF]
    split
    · rfl
    · simp [shiftR]
  | hands bad => simp only [giveF, shiftR, List.append_assoc]; rfl
theorem wantsF_shift (s : SetD) (w : Way) (i : Nat) (n sh : ByteArray) (l) (G A) (r : RunD) : wantsF s w i n sh l (shiftR G A r) = (shiftR G A (wantsF s w i n sh l r).1, (wantsF s w i n sh l r).2) := by
  cases l with
  | nil => rfl
  | cons v l => simp only [wantsF, giveF_shift]
theorem longF_shift (s : SetD) (w : Way) (x : ByteArray) (l) (G A) (r : RunD) : longF s w x l (shiftR G A r) = (shiftR G A (longF s w x l r).1, (longF s w x l r).2) := by
  simp only [longF, giveF_shift, wantsF_shift]
  repeat' split
  all_goals rfl
theorem shortF_shift (s : SetD) (w : Way) (x : ByteArray) (l) (G A) (r : RunD) : shortF s w x l (shiftR G A r) = (shiftR G A (shortF s w x l r).1, (shortF s w x l r).2.1, (shortF s w x l r).2.2) := by
  simp only [shortF, giveF_shift, wantsF_shift]
  repeat' split
  all_goals rfl
theorem shortsN_shift (s : SetD) (w : Way) (rest) (G A) : ∀ (n : Nat) (x : ByteArray) (r : RunD) (left), shortsN s w rest n x (shiftR G A r) left = (shiftR G A (shortsN s w rest n x r left).1, (shortsN s w rest n x r left).2)
  | 0, x, r, left => rfl
  | n + 1, x, r, left => by
    rw [shortsN, shortsN, shortF_shift]
    split
    · rfl
    · rw [show (shiftR G A r).err = r.err from rfl]
      split
      · rfl
      · exact shortsN_shift s w rest G A n _ _ _
theorem goesN_shift (s : SetD) (w : Way) (G A) : ∀ (n : Nat) (l) (r : RunD), goesN s w n l (shiftR G A r) = shiftR G A (goesN s w n l r)
  | 0, l, r => by cases l <;> rfl
  | n + 1, [], r => rfl
  | n + 1, x :: l, r => by
    rw [goesN, goesN, longF_shift, shortsF, shortsN_shift, ← shortsF]
    rw [show (shiftR G A r).err = r.err from rfl]
    split
    · rfl
    · split
      · split
        · simp [shiftR]
        · rw [← goesN_shift s w G A n l]
          simp [shiftR]
      · split
        · split
          · simp only [shiftR]
            simp only [List.length_append, List.append_assoc]
            rw [if_pos (by omega)]
            congr 1
            omega
          · exact goesN_shift s w G A n _ _
        · exact goesN_shift s w G A n _ _
theorem goesF_shift (s : SetD) (w : Way) (G A) (l) (r : RunD) : goesF s w l (shiftR G A r) = shiftR G A (goesF s w l r) := goesN_shift s w G A _ l r

theorem giveF_dash (s : SetD) (w : Way) (i : Nat) (v : ByteArray) (r : RunD) : (giveF s w i v r).dash = r.dash := by
  cases w with
  | sets => simp only [giveF]; split <;> rfl
  | hands bad => rfl
theorem wantsF_dash (s : SetD) (w : Way) (i : Nat) (n sh : ByteArray) (l) (r : RunD) : (wantsF s w i n sh l r).1.dash = r.dash := by
  cases l with
  | nil => rfl
  | cons v l => exact giveF_dash _ _ _ _ _
theorem longF_dash (s : SetD) (w : Way) (x : ByteArray) (l) (r : RunD) : (longF s w x l r).1.dash = r.dash := by
  simp only [longF]
  repeat' split
  all_goals first | rfl | exact giveF_dash _ _ _ _ _ | exact wantsF_dash _ _ _ _ _ _ _
theorem shortF_dash (s : SetD) (w : Way) (x : ByteArray) (l) (r : RunD) : (shortF s w x l r).1.dash = r.dash := by
  simp only [shortF]
  repeat' split
  all_goals first | rfl | exact giveF_dash _ _ _ _ _ | exact wantsF_dash _ _ _ _ _ _ _
theorem shortsN_dash (s : SetD) (w : Way) (rest) : ∀ (n : Nat) (x : ByteArray) (r : RunD) (left), (shortsN s w rest n x r left).1.dash = r.dash
  | 0, x, r, left => rfl
  | n + 1, x, r, left => by
    rw [shortsN]
    split
    · rfl
    · split
      · rfl
      · rw [shortsN_dash s w rest n _ _ _, shortF_dash]
theorem shortsF_dash (s : SetD) (w : Way) (x : ByteArray) (l) (r : RunD) : (shortsF s w x l r).1.dash = r.dash := shortsN_dash s w l _ _ _ _
theorem goesN_dash (s : SetD) (w : Way) : ∀ (n : Nat) (l) (r : RunD), 0 ≤ (goesN s w n l r).dash ∨ (goesN s w n l r).dash = r.dash
  | 0, l, r => .inr (by cases l <;> rfl)
  | n + 1, [], r => .inr rfl
  | n + 1, x :: l, r => by
    have hs := goesN_dash s w n l { r with args := r.args ++ [x] }
    have hl := goesN_dash s w n (longF s w x l r).2 (longF s w x l r).1
    have hh := goesN_dash s w n (shortsF s w (x.extract 1 x.size) l r).2 (shortsF s w (x.extract 1 x.size) l r).1
    rw [longF_dash] at hl
    rw [shortsF_dash] at hh
    rw [goesN]
    split
    · exact .inr rfl
    · split
      · split
        · exact .inr rfl
        · exact hs
      · split
        · split
          · exact .inl (by simp)
          · exact hl
        · exact hh

/-- Arguments are whole: no error, flags have not ended, what comes behind goes on from there. -/
structure WholeA (s : SetD) (a : List ByteArray) : Prop where
  err : (goesF s .sets a begin0).err = .none
  dash : (goesF s .sets a begin0).dash = -1
  on : ∀ c, goesF s .sets (a ++ c) begin0 = goesF s .sets c (goesF s .sets a begin0)

theorem isNone_is {e : ErrD} (h : e.isNone = true) : e = .none := by cases e <;> first | rfl | cases h

theorem whole_of {s : SetD} {a : List ByteArray} {z : ByteArray} (hz : byteO z 0 ≠ some 45) (h1 : (goesF s .sets a begin0).err.isNone = true) (h2 : ¬ 0 ≤ (goesF s .sets a begin0).dash) (h3 : ¬ (s.plain = true ∧ 0 < (goesF s .sets a begin0).args.length))
    (h4 : (goesF s .sets (a ++ [z]) begin0).args = (goesF s .sets a begin0).args ++ [z]) : WholeA s a := by
  have hd : (goesF s .sets a begin0).dash = -1 := by
    rcases goesN_dash s .sets a.length a begin0 with q | q
    · exact absurd q h2
    · exact q
  refine ⟨isNone_is h1, hd, ?_⟩
  rcases goes_cut s .sets a.length a begin0 (Nat.le_refl _) h1 with ⟨f, hf, hc⟩ | q | q
  · cases hf with
    | all => exact hc
    | strip =>
      rw [hc [z]] at h4
      have e : stripF [z] = [] := by simp [stripF, hz]
      rw [e] at h4
      have := congrArg List.length h4
      rw [show goesF s .sets [] (goesF s .sets a begin0) = goesF s .sets a begin0 from rfl] at this
      simp at this
  · exact absurd q h2
  · exact absurd q h3

theorem whole_shift {s : SetD} {a : List ByteArray} (h : WholeA s a) (c : List ByteArray) : goesF s .sets (a ++ c) begin0 = shiftR (goesF s .sets a begin0).given (goesF s .sets a begin0).args (goesF s .sets c begin0) := by
  rw [h.on c, ← goesF_shift]
  congr 1
  obtain ⟨e1, e2, _⟩ := h
  generalize goesF s .sets a begin0 = r at *
  obtain ⟨err, given, args, dash⟩ := r
  simp only at e1 e2
  subst e1
  subst e2
  simp [shiftR, begin0]
end Go.Proofs.Ytcpjdgbnfjdakaa
