/- A text whose words are short, wrapped: no line goes beyond the width (plain). -/
import Derived.Test.YtcpjdgbnfjdakaaWrapPlain
namespace Go.Proofs.Ytcpjdgbnfjdakaa
set_option linter.unusedVariables false

/-- Each line feed is turned into other bytes. -/
def repl (rep : List UInt8) : List UInt8 → List UInt8
  | [] => []
  | b :: l => (if b = 10 then rep else [b]) ++ repl rep l
theorem repl_append (rep : List UInt8) : ∀ a b : List UInt8, repl rep (a ++ b) = repl rep a ++ repl rep b
  | [], b => rfl
  | x :: a, b => by rw [List.cons_append, repl, repl, repl_append rep a b, List.append_assoc]
theorem repl_none (rep : List UInt8) : ∀ l : List UInt8, (∀ b ∈ l, b ≠ 10) → repl rep l = l
  | [], _ => rfl
  | b :: l, h => by
    rw [repl, if_neg (h b (by simp)), repl_none rep l (fun x hx => h x (by simp [hx]))]
    rfl
theorem repl_len (rep : List UInt8) (hr : rep.length ≤ 1025) : ∀ l : List UInt8, (repl rep l).length ≤ 1025 * l.length
  | [] => Nat.le_refl _
  | b :: l => by
    have ih := repl_len rep hr l
    rw [repl, List.length_append, List.length_cons]
    split
    · omega
    · simp only [List.length_singleton]; omega

/-- The column behind a byte. -/
def colS (c : Nat) (b : UInt8) : Nat := if b = 10 then 0 else c + 1
def okC (width : Nat) : Nat → List UInt8 → Prop
  | _, [] => True
  | c, b :: l => colS c b ≤ width ∧ okC width (colS c b) l
def endC : Nat → List UInt8 → Nat
  | c, [] => c
  | c, b :: l => endC (colS c b) l
theorem okC_append (width : Nat) : ∀ (a b : List UInt8) (c : Nat), okC width c a → okC width (endC c a) b → okC width c (a ++ b)
  | [], _, _, _, h => h
  | x :: a, b, c, h, k => ⟨h.1, okC_append width a b _ h.2 k⟩
theorem endC_append : ∀ (a b : List UInt8) (c : Nat), endC c (a ++ b) = endC (endC c a) b
  | [], _, _ => rfl
  | x :: a, b, c => endC_append a b _
theorem okC_spaces (width : Nat) : ∀ (k c : Nat), c + k ≤ width → okC width c (List.replicate k 32) ∧ endC c (List.replicate k 32) = c + k
  | 0, c, _ => ⟨trivial, rfl⟩
  | k + 1, c, h => by
    have e : colS c 32 = c + 1 := by rw [colS, if_neg (by decide)]
    have ih := okC_spaces width k (c + 1) (by omega)
    rw [List.replicate_succ]
    refine ⟨⟨by rw [e]; omega, by rw [e]; exact ih.1⟩, ?_⟩
    rw [endC, e, ih.2]; omega
/-- A line's beginning. -/
def pad (i : Nat) : List UInt8 := 10 :: List.replicate i 32
theorem okC_pad (width i c : Nat) (h : i ≤ width) : okC width c (pad i) ∧ endC c (pad i) = i := by
  have q := okC_spaces width i 0 (by omega)
  have e : colS c 10 = 0 := by rw [colS, if_pos rfl]
  unfold pad
  refine ⟨⟨by rw [e]; omega, by rw [e]; exact q.1⟩, ?_⟩
  rw [endC, e, q.2]; omega
theorem okC_repl (width i : Nat) : ∀ (x : List UInt8) (c : Nat), c + x.length ≤ width → i + x.length ≤ width → okC width c (repl (pad i) x)
  | [], _, _, _ => trivial
  | b :: x, c, h1, h2 => by
    rw [List.length_cons] at h1 h2
    rw [repl]
    split
    · obtain ⟨q1, q2⟩ := okC_pad width i c (by omega)
      refine okC_append width _ _ _ q1 ?_
      rw [q2]
      exact okC_repl width i x i (by omega) (by omega)
    · rename_i hb
      have e : colS c b = c + 1 := by rw [colS, if_neg hb]
      exact ⟨by rw [e]; omega, by rw [e]; exact okC_repl width i x (c + 1) (by omega) (by omega)⟩

/-- Of eleven bytes one is a blank. -/
def Words (s : ByteArray) : Prop := ∀ a, a + 10 < s.size → ∃ (j : Nat) (h : j < s.size), a ≤ j ∧ j ≤ a + 10 ∧ isBlank s[j] = true
theorem Words.rest {s : ByteArray} (h : Words s) (k : Nat) : Words (s.extract k s.size) := by
  intro a ha
  rw [ByteArray.size_extract] at ha
  obtain ⟨j, hj, h1, h2, h3⟩ := h (k + a) (by omega)
  refine ⟨j - k, by rw [ByteArray.size_extract]; omega, by omega, by omega, ?_⟩
  rw [ByteArray.getElem_extract]
  have e : k + (j - k) = j := by omega
  simp only [e]
  exact h3
theorem Words.none : Words ⟨#[]⟩ := fun a ha => absurd ha (by show ¬ a + 10 < 0; omega)
theorem lastNat_ge (p : UInt8 → Bool) (s : ByteArray) (j : Nat) (hj : j < s.size) (hp : p s[j] = true) : ∀ k, j < k → k ≤ s.size → j ≤ lastNat p s k
  | 0, h, _ => by omega
  | k + 1, h, hk => by
    cases hc : p (s[k]'(by omega)) with
    | true => rw [lastNat_yes p s k (by omega) hc]; omega
    | false =>
      rw [lastNat_no p s k (by omega) hc]
      by_cases e : j = k
      · subst e; rw [hp] at hc; cases hc
      · exact lastNat_ge p s j hj hp k (by omega) (by omega)
theorem wrapNF_sizes (n : Nat) (s : ByteArray) : (wrapNF n 5 s).2.size = 0 ∧ (wrapNF n 5 s).1.size ≤ s.size ∨ (wrapNF n 5 s).1.size + (wrapNF n 5 s).2.size + 1 ≤ s.size := by
  by_cases h : s.size < n + 5
  · left
    rw [wrapNF, if_pos h]
    exact ⟨rfl, Nat.le_refl _⟩
  · rw [wrapNF_nat n 5 s h]
    split
    · left; exact ⟨rfl, Nat.le_refl _⟩
    · split
      · right
        have := lastNat_le isFeed s n
        simp only [ByteArray.size_extract]; omega
      · right
        have := lastNat_le isBlank s n
        simp only [ByteArray.size_extract]; omega
theorem piece_le (n : Nat) (s : ByteArray) (hn : 19 ≤ n) (h : Words s) : (wrapNF n 5 s).1.size ≤ n + 4 ∧ Words (wrapNF n 5 s).2 := by
  by_cases hs : s.size < n + 5
  · rw [wrapNF, if_pos hs]
    exact ⟨by show s.size ≤ _; omega, Words.none⟩
  · rw [wrapNF_nat n 5 s hs]
    obtain ⟨j, hj, h1, h2, h3⟩ := h 1 (by omega)
    have hb := lastNat_ge isBlank s j hj h3 n (by omega) (by omega)
    rw [if_neg (by omega)]
    have q1 := lastNat_le isFeed s n
    have q2 := lastNat_le isBlank s n
    split
    · exact ⟨by simp only [ByteArray.size_extract]; omega, h.rest _⟩
    · exact ⟨by simp only [ByteArray.size_extract]; omega, h.rest _⟩

/-- The lines behind the first one. -/
def loopF (n i : Nat) : Nat → ByteArray → List UInt8
  | 0, _ => []
  | k + 1, s => if s.size = 0 then [] else pad i ++ repl (pad i) (wrapNF n 5 s).1.data.toList ++ loopF n i k (wrapNF n 5 s).2
def wrapF (n i : Nat) (s : ByteArray) : List UInt8 := repl (pad i) (wrapNF n 5 s).1.data.toList ++ loopF n i s.size (wrapNF n 5 s).2
theorem len_data (s : ByteArray) : s.data.toList.length = s.size := by rw [Array.length_toList]; rfl
theorem loopF_ok (n i : Nat) (hn : 19 ≤ n) : ∀ (k : Nat) (s : ByteArray) (c : Nat), Words s → okC (n + 5 + i) c (loopF n i k s)
  | 0, _, _, _ => trivial
  | k + 1, s, c, h => by
    rw [loopF]
    split
    · trivial
    · obtain ⟨h1, h2⟩ := piece_le n s hn h
      obtain ⟨q1, q2⟩ := okC_pad (n + 5 + i) i c (by omega)
      rw [List.append_assoc]
      refine okC_append _ _ _ _ q1 (okC_append _ _ _ _ ?_ (loopF_ok n i hn k _ _ h2))
      rw [q2]
      exact okC_repl _ _ _ _ (by rw [len_data]; omega) (by rw [len_data]; omega)
theorem wrapF_ok (n i : Nat) (hn : 19 ≤ n) (s : ByteArray) (h : Words s) : okC (n + 5 + i) i (wrapF n i s) := by
  obtain ⟨h1, h2⟩ := piece_le n s hn h
  rw [wrapF]
  exact okC_append _ _ _ _ (okC_repl _ _ _ _ (by rw [len_data]; omega) (by rw [len_data]; omega)) (loopF_ok n i hn _ _ _ h2)
end Go.Proofs.Ytcpjdgbnfjdakaa
