/- A text cut at its commas, in plain Lean. -/
import Derived.Test.YtlnnmionbflolaaDoorH
namespace Go.Proofs.YtlnnmionbflolaaDoor
set_option linter.unusedVariables false
set_option linter.unusedSimpArgs false

/-- From place i on, where the part that is under way began at f. -/
def partsAt (s : ByteArray) (f i : Nat) : List ByteArray :=
  if h : i < s.size then (if s[i].toNat = 44 then s.extract f i :: partsAt s (i + 1) (i + 1) else partsAt s f (i + 1)) else [s.extract f s.size]
termination_by s.size - i
def partsF (s : ByteArray) : List ByteArray := partsAt s 0 0
theorem partsAt_comma {s : ByteArray} {f i : Nat} (h : i < s.size) (hc : s[i].toNat = 44) : partsAt s f i = s.extract f i :: partsAt s (i + 1) (i + 1) := by
  rw [partsAt, dif_pos h, if_pos hc]
theorem partsAt_other {s : ByteArray} {f i : Nat} (h : i < s.size) (hc : s[i].toNat ≠ 44) : partsAt s f i = partsAt s f (i + 1) := by
  rw [partsAt, dif_pos h, if_neg hc]
theorem partsAt_end {s : ByteArray} {f i : Nat} (h : s.size ≤ i) : partsAt s f i = [s.extract f s.size] := by
  rw [partsAt, dif_neg (by omega)]
theorem partsAt_skip {s : ByteArray} {f : Nat} : ∀ (d i : Nat), i + d ≤ s.size → (∀ k (h : k < s.size), i ≤ k → k < i + d → s[k].toNat ≠ 44) → partsAt s f i = partsAt s f (i + d)
  | 0, i, _, _ => rfl
  | d + 1, i, hd, hn => by
    rw [partsAt_other (by omega) (hn i (by omega) (by omega) (by omega)), partsAt_skip d (i + 1) (by omega) (fun k h h1 h2 => hn k h (by omega) (by omega))]
    congr 1
    omega
theorem partsAt_len (s : ByteArray) : ∀ (n f i : Nat), s.size - i ≤ n → (partsAt s f i).length ≤ s.size - i + 1
  | n, f, i, hn => by
    by_cases h : i < s.size
    · cases n with
      | zero => omega
      | succ n =>
        by_cases hc : s[i].toNat = 44
        · rw [partsAt_comma h hc, List.length_cons]
          have := partsAt_len s n (i + 1) (i + 1) (by omega)
          omega
        · rw [partsAt_other h hc]
          have := partsAt_len s n f (i + 1) (by omega)
          omega
    · rw [partsAt_end (by omega)]; simp
theorem partsF_len (s : ByteArray) : (partsF s).length ≤ s.size + 1 := by
  have := partsAt_len s s.size 0 0 (by omega)
  unfold partsF
  omega
theorem partsAt_size {s : ByteArray} : ∀ (n f i : Nat), s.size - i ≤ n → ∀ t ∈ partsAt s f i, t.size ≤ s.size
  | n, f, i, hn => by
    by_cases h : i < s.size
    · cases n with
      | zero => omega
      | succ n =>
        by_cases hc : s[i].toNat = 44
        · rw [partsAt_comma h hc]
          intro t ht
          rcases List.mem_cons.1 ht with rfl | ht
          · rw [ByteArray.size_extract]; omega
          · exact partsAt_size n (i + 1) (i + 1) (by omega) t ht
        · rw [partsAt_other h hc]
          exact partsAt_size n f (i + 1) (by omega)
    · rw [partsAt_end (by omega)]
      intro t ht
      simp only [List.mem_singleton] at ht
      subst ht
      rw [ByteArray.size_extract]; omega
theorem partsF_size (s : ByteArray) : ∀ t ∈ partsF s, t.size ≤ s.size := partsAt_size s.size 0 0 (by omega)
theorem partsAt_pos {s : ByteArray} : ∀ (n f i : Nat), s.size - i ≤ n → 0 < (partsAt s f i).length
  | n, f, i, hn => by
    by_cases h : i < s.size
    · cases n with
      | zero => omega
      | succ n =>
        by_cases hc : s[i].toNat = 44
        · rw [partsAt_comma h hc]; simp
        · rw [partsAt_other h hc]
          exact partsAt_pos n f (i + 1) (by omega)
    · rw [partsAt_end (by omega)]; simp
end Go.Proofs.YtlnnmionbflolaaDoor
