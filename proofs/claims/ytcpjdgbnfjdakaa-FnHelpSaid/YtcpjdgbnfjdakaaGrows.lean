/- Plain laws: with more arguments nothing that was given ahead is given otherwise. No program here. -/
import Derived.Test.YtcpjdgbnfjdakaaGoes
namespace Go.Proofs.Ytcpjdgbnfjdakaa

theorem giveF_pre (s : SetD) (w : Way) (i : Nat) (v : ByteArray) (r : RunD) : r.given <+: (giveF s w i v r).given := by
  cases w with
  | sets =>
    simp only [giveF]
    split
    · exact List.prefix_refl _
    · exact List.prefix_append _ _
  | hands bad => exact List.prefix_append _ _
theorem wantsF_pre (s : SetD) (w : Way) (i : Nat) (n sh : ByteArray) (l : List ByteArray) (r : RunD) : r.given <+: (wantsF s w i n sh l r).1.given := by
  cases l with
  | nil => exact List.prefix_refl _
  | cons v l => exact giveF_pre _ _ _ _ _
theorem longF_pre (s : SetD) (w : Way) (x : ByteArray) (l : List ByteArray) (r : RunD) : r.given <+: (longF s w x l r).1.given := by
  simp only [longF]
  repeat' split
  all_goals first | exact List.prefix_refl _ | exact giveF_pre _ _ _ _ _ | exact wantsF_pre _ _ _ _ _ _ _
theorem shortF_pre (s : SetD) (w : Way) (x : ByteArray) (l : List ByteArray) (r : RunD) : r.given <+: (shortF s w x l r).1.given := by
  simp only [shortF]
  repeat' split
  all_goals first | exact List.prefix_refl _ | exact giveF_pre _ _ _ _ _ | exact wantsF_pre _ _ _ _ _ _ _
theorem shortsN_pre (s : SetD) (w : Way) (rest : List ByteArray) : ∀ (n : Nat) (x : ByteArray) (r : RunD) (left : List ByteArray), r.given <+: (shortsN s w rest n x r left).1.given
  | 0, x, r, left => List.prefix_refl _
  | n + 1, x, r, left => by
    rw [shortsN]
    split
    · exact List.prefix_refl _
    · split
      · exact List.prefix_refl _
      · exact (shortF_pre s w x rest r).trans (shortsN_pre s w rest n _ _ _)
theorem goesN_pre (s : SetD) (w : Way) : ∀ (n : Nat) (l : List ByteArray) (r : RunD), r.given <+: (goesN s w n l r).given
  | 0, l, r => List.prefix_refl _
  | n + 1, [], r => List.prefix_refl _
  | n + 1, x :: l, r => by
    rw [goesN]
    split
    · exact List.prefix_refl _
    · split
      · split
        · exact List.prefix_refl _
        · exact goesN_pre s w n l { r with args := r.args ++ [x] }
      · split
        · split
          · exact List.prefix_refl _
          · exact (longF_pre s w x l r).trans (goesN_pre s w n _ _)
        · exact (shortsN_pre s w l _ _ _ _).trans (goesN_pre s w n _ _)
theorem goesF_pre (s : SetD) (w : Way) (l : List ByteArray) (r : RunD) : r.given <+: (goesF s w l r).given := goesN_pre s w _ l r

theorem stripF_cons (y : ByteArray) (l c : List ByteArray) : stripF (y :: (l ++ c)) = stripF (y :: l) ++ c := by
  simp only [stripF]
  split <;> rfl

def isReq : ErrD → Bool
  | .valueReq _ _ _ => true
  | _ => false

/-- Arguments behind a long one do not matter to it, if there is one. -/
theorem longF_cons (s : SetD) (w : Way) (x y : ByteArray) (l c : List ByteArray) (r : RunD) : longF s w x (y :: l ++ c) r = ((longF s w x (y :: l) r).1, (longF s w x (y :: l) r).2 ++ c) := by
  have hs := stripF_cons y l c
  simp only [longF, List.cons_append, hs, wantsF]
  repeat' split
  all_goals rfl
theorem longF_nil (s : SetD) (w : Way) (x : ByteArray) (c : List ByteArray) (r : RunD) : ((longF s w x c r).1 = (longF s w x [] r).1) ∨ (isReq (longF s w x [] r).1.err = true ∧ (longF s w x [] r).1.given = r.given) := by
  cases c with
  | nil => exact .inl rfl
  | cons y c =>
    simp only [longF, wantsF]
    repeat' split
    all_goals first | exact .inl rfl | exact .inr ⟨rfl, rfl⟩
theorem shortF_cons (s : SetD) (w : Way) (x y : ByteArray) (l c : List ByteArray) (r : RunD) : shortF s w x (y :: l ++ c) r = ((shortF s w x (y :: l) r).1, (shortF s w x (y :: l) r).2.1, (shortF s w x (y :: l) r).2.2 ++ c) := by
  have hs := stripF_cons y l c
  simp only [shortF, List.cons_append, hs, wantsF]
  repeat' split
  all_goals rfl
theorem shortF_nil (s : SetD) (w : Way) (x : ByteArray) (c : List ByteArray) (r : RunD) : ((shortF s w x c r).1 = (shortF s w x [] r).1 ∧ (shortF s w x c r).2.1 = (shortF s w x [] r).2.1) ∨ (isReq (shortF s w x [] r).1.err = true ∧ (shortF s w x [] r).1.given = r.given ∧ (shortF s w x [] r).2.1.size = 0) := by
  cases c with
  | nil => exact .inl ⟨rfl, rfl⟩
  | cons y c =>
    simp only [shortF, wantsF]
    repeat' split
    all_goals first | exact .inl ⟨rfl, rfl⟩ | exact .inr ⟨rfl, rfl, rfl⟩
theorem shortsN_cons (s : SetD) (w : Way) (y : ByteArray) (l c : List ByteArray) : ∀ (n : Nat) (x : ByteArray) (r : RunD) (left : List ByteArray), shortsN s w (y :: l ++ c) n x r (left ++ c) = ((shortsN s w (y :: l) n x r left).1, (shortsN s w (y :: l) n x r left).2 ++ c)
  | 0, x, r, left => rfl
  | n + 1, x, r, left => by
    rw [shortsN, shortsN, shortF_cons]
    split
    · rfl
    · split
      · rfl
      · exact shortsN_cons s w y l c n _ _ _
theorem shortsN_end (s : SetD) (w : Way) (rest : List ByteArray) (n : Nat) (x : ByteArray) (r : RunD) (left : List ByteArray) (h : x.size = 0) : shortsN s w rest n x r left = (r, left) := by
  cases n with
  | zero => rfl
  | succ n => rw [shortsN, if_pos h]
theorem shortsN_nil (s : SetD) (w : Way) (c : List ByteArray) : ∀ (n : Nat) (x : ByteArray) (r : RunD) (left1 left2 : List ByteArray),
    (shortsN s w c n x r left2).1 = (shortsN s w [] n x r left1).1 ∨ (isReq (shortsN s w [] n x r left1).1.err = true ∧ (shortsN s w [] n x r left1).1.given <+: (shortsN s w c n x r left2).1.given)
  | 0, x, r, left1, left2 => .inl rfl
  | n + 1, x, r, left1, left2 => by
    rw [shortsN, shortsN]
    split
    · exact .inl rfl
    · split
      · exact .inl rfl
      · rcases shortF_nil s w x c r with ⟨h1, h2⟩ | ⟨h1, h2, h3⟩
        · rw [h1, h2]
          exact shortsN_nil s w c n _ _ _ _
        · right
          rw [shortsN_end s w [] n _ _ _ h3]
          refine ⟨h1, ?_⟩
          show (shortF s w x [] r).1.given <+: _
          rw [h2]
          exact (shortF_pre s w x c r).trans (shortsN_pre s w c n _ _ _)

/-- What more arguments may change. -/
def Grown (h g : RunD) : Prop := h.given <+: g.given ∧ (h.err.isNone = true ∨ isReq h.err = true ∨ g = h)

theorem goes_grown (s : SetD) (w : Way) (c : List ByteArray) : ∀ (n : Nat) (a : List ByteArray) (r : RunD), a.length ≤ n → Grown (goesF s w a r) (goesF s w (a ++ c) r)
  | n, [], r, _ => by
    rw [show goesF s w [] r = r from rfl, List.nil_append]
    cases he : r.err.isNone with
    | true => exact ⟨goesF_pre s w c r, .inl he⟩
    | false => rw [goesF, goesN_stop s w _ _ _ he]; exact ⟨List.prefix_refl _, .inr (.inr rfl)⟩
  | 0, x :: l, r, h => by simp at h
  | n + 1, x :: l, r, h => by
    simp only [List.length_cons] at h
    cases he : r.err.isNone with
    | false =>
      rw [goesF, goesF, goesN_stop s w _ _ _ he, goesN_stop s w _ _ _ he]
      exact ⟨List.prefix_refl _, .inr (.inr rfl)⟩
    | true =>
      cases hb : bareF x with
      | true =>
        cases hp : s.plain with
        | true =>
          have e : ∀ l', goesF s w (x :: l') r = { r with args := r.args ++ (x :: l') } := fun l' => by rw [goesF, List.length_cons, goesN, if_neg (by simp [he]), if_pos hb, if_pos hp]
          rw [List.cons_append, e, e]
          exact ⟨List.prefix_refl _, .inl he⟩
        | false =>
          have e : ∀ l', goesF s w (x :: l') r = goesF s w l' { r with args := r.args ++ [x] } := fun l' => by rw [goesF, List.length_cons, goesN, if_neg (by simp [he]), if_pos hb, if_neg (by simp [hp])]; rfl
          rw [List.cons_append, e, e]
          exact goes_grown s w c n l _ (by omega)
      | false =>
        cases h1 : (byteO x 1 == some 45) with
        | true =>
          have h1' : byteO x 1 = some 45 := by simpa using h1
          by_cases h2 : x.size = 2
          · have e : ∀ l', goesF s w (x :: l') r = { r with dash := r.args.length, args := r.args ++ l' } := fun l' => by rw [goesF, List.length_cons, goesN, if_neg (by simp [he]), if_neg (by simp [hb]), if_pos h1, if_pos h2]
            rw [List.cons_append, e, e]
            exact ⟨List.prefix_refl _, .inl he⟩
          · rw [List.cons_append, goesF_long he hb h1' h2, goesF_long he hb h1' h2]
            cases l with
            | cons y l =>
              rw [longF_cons]
              refine goes_grown s w c n _ _ ?_
              have := (longF_suffix s w x (y :: l) r).length_le
              omega
            | nil =>
              have e0 : (longF s w x [] r).2 = [] := List.suffix_nil.1 (longF_suffix s w x [] r)
              rw [e0, List.nil_append]
              rcases longF_nil s w x c r with q | ⟨q1, q2⟩
              · rw [q]
                exact goes_grown_nil _ _ _ _
              · refine ⟨?_, .inr (.inl q1)⟩
                show (longF s w x [] r).1.given <+: _
                rw [q2]
                exact (longF_pre s w x c r).trans (goesF_pre s w _ _)
        | false =>
          rw [List.cons_append, goesF_short he hb h1, goesF_short he hb h1]
          cases l with
          | cons y l =>
            rw [shortsF, shortsF, shortsN_cons s w y l c]
            refine goes_grown s w c n _ _ ?_
            have := (shortsN_suffix s w (y :: l) (x.extract 1 x.size).size (x.extract 1 x.size) r (y :: l) (List.suffix_refl _)).length_le
            omega
          | nil =>
            have e0 : (shortsF s w (x.extract 1 x.size) [] r).2 = [] := List.suffix_nil.1 (shortsN_suffix s w [] _ _ _ _ (List.suffix_refl _))
            rw [e0, List.nil_append]
            rcases shortsN_nil s w c (x.extract 1 x.size).size (x.extract 1 x.size) r [] c with q | ⟨q1, q2⟩
            · rw [show (shortsF s w (x.extract 1 x.size) c r).1 = (shortsF s w (x.extract 1 x.size) [] r).1 from q]
              exact goes_grown_nil _ _ _ _
            · exact ⟨q2.trans (goesF_pre s w _ _), .inr (.inl q1)⟩
where
  goes_grown_nil (s : SetD) (w : Way) (c : List ByteArray) (r : RunD) : Grown (goesF s w [] r) (goesF s w c r) := by
    rw [show goesF s w [] r = r from rfl]
    cases he : r.err.isNone with
    | true => exact ⟨goesF_pre s w c r, .inl he⟩
    | false => rw [goesF, goesN_stop s w _ _ _ he]; exact ⟨List.prefix_refl _, .inr (.inr rfl)⟩
end Go.Proofs.Ytcpjdgbnfjdakaa
