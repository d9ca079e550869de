/- Plain words for usages: the first byte of a text, from a place on, for which something holds; the name and the text that a usage tells. No program here. -/
import GoSem.Core.Value
namespace Go.Proofs.Ytcpjdgbnfjdakaa

/-- The first place from k on whose byte has p; the text's length: there is none. -/
def firstFrom (p : UInt8 → Bool) (s : ByteArray) (k : Nat) : Nat :=
  if h : k < s.size then (if p s[k] = true then k else firstFrom p s (k + 1)) else s.size
termination_by s.size - k

theorem firstFrom_yes (p : UInt8 → Bool) (s : ByteArray) (k : Nat) (h : k < s.size) (hp : p s[k] = true) : firstFrom p s k = k := by
  rw [firstFrom, dif_pos h, if_pos hp]
theorem firstFrom_no (p : UInt8 → Bool) (s : ByteArray) (k : Nat) (h : k < s.size) (hp : p s[k] = false) : firstFrom p s k = firstFrom p s (k + 1) := by
  rw [firstFrom, dif_pos h, if_neg (by simp [hp])]
theorem firstFrom_end (p : UInt8 → Bool) (s : ByteArray) (k : Nat) (h : s.size ≤ k) : firstFrom p s k = s.size := by
  rw [firstFrom, dif_neg (by omega)]
theorem firstFrom_le (p : UInt8 → Bool) (s : ByteArray) (k : Nat) : firstFrom p s k ≤ s.size := by
  induction hd : s.size - k generalizing k with
  | zero => rw [firstFrom_end p s k (by omega)]; omega
  | succ d ih =>
    rw [firstFrom]
    split
    · split
      · omega
      · exact ih (k + 1) (by omega)
    · omega
theorem firstFrom_ge (p : UInt8 → Bool) (s : ByteArray) (k : Nat) (h : k ≤ s.size) : k ≤ firstFrom p s k := by
  induction hd : s.size - k generalizing k with
  | zero => rw [firstFrom_end p s k (by omega)]; omega
  | succ d ih =>
    rw [firstFrom]
    split
    · split
      · omega
      · have := ih (k + 1) (by omega) (by omega); omega
    · omega

theorem firstFrom_extract (p : UInt8 → Bool) (s : ByteArray) (n k : Nat) (hn : n ≤ s.size) : firstFrom p (s.extract n s.size) k + n = firstFrom p s (k + n) := by
  have hz : (s.extract n s.size).size = s.size - n := by rw [ByteArray.size_extract]; omega
  induction hd : s.size - n - k generalizing k with
  | zero => rw [firstFrom_end _ _ _ (by omega), firstFrom_end _ _ _ (by omega), hz]; omega
  | succ d ih =>
    have h1 : k < (s.extract n s.size).size := by omega
    have h2 : k + n < s.size := by omega
    have he : (s.extract n s.size)[k] = s[k + n] := by rw [ByteArray.getElem_extract]; congr 1; omega
    cases hp : p s[k + n] with
    | true => rw [firstFrom_yes _ _ _ h1 (by rw [he]; exact hp), firstFrom_yes _ _ _ h2 hp]
    | false =>
      rw [firstFrom_no _ _ _ h1 (by rw [he]; exact hp), firstFrom_no _ _ _ h2 hp, ih (k + 1) (by omega)]
      congr 1; omega

def isQuote (b : UInt8) : Bool := b == 96

/-- The word for a type. -/
def wordOf (k : ByteArray) : ByteArray :=
  if (k.toList == [98, 111, 111, 108]) = true then ⟨#[]⟩ else
  if (k.toList == [98, 111, 111, 108, 102, 117, 110, 99]) = true then ⟨#[]⟩ else
  if (k.toList == [102, 117, 110, 99]) = true then ⟨#[118, 97, 108, 117, 101]⟩ else
  if (k.toList == [102, 108, 111, 97, 116, 54, 52]) = true then ⟨#[102, 108, 111, 97, 116]⟩ else
  if (k.toList == [105, 110, 116, 54, 52]) = true then ⟨#[105, 110, 116]⟩ else
  if (k.toList == [117, 105, 110, 116, 54, 52]) = true then ⟨#[117, 105, 110, 116]⟩ else
  if (k.toList == [115, 116, 114, 105, 110, 103, 83, 108, 105, 99, 101]) = true then ⟨#[115, 116, 114, 105, 110, 103, 115]⟩ else
  if (k.toList == [105, 110, 116, 83, 108, 105, 99, 101]) = true then ⟨#[105, 110, 116, 115]⟩ else
  if (k.toList == [117, 105, 110, 116, 83, 108, 105, 99, 101]) = true then ⟨#[117, 105, 110, 116, 115]⟩ else
  if (k.toList == [98, 111, 111, 108, 83, 108, 105, 99, 101]) = true then ⟨#[98, 111, 111, 108, 115]⟩ else k

/-- The name and the text that a usage tells. -/
def unquoteF (kind u : ByteArray) : ByteArray × ByteArray :=
  if firstFrom isQuote u 0 < u.size then
    if firstFrom isQuote u (firstFrom isQuote u 0 + 1) < u.size then
      (u.extract (firstFrom isQuote u 0 + 1) (firstFrom isQuote u (firstFrom isQuote u 0 + 1)),
        u.extract 0 (firstFrom isQuote u 0) ++ u.extract (firstFrom isQuote u 0 + 1) (firstFrom isQuote u (firstFrom isQuote u 0 + 1)) ++ u.extract (firstFrom isQuote u (firstFrom isQuote u 0 + 1) + 1) u.size)
    else (wordOf kind, u)
  else (wordOf kind, u)
end Go.Proofs.Ytcpjdgbnfjdakaa
