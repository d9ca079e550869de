/- The numerals that strconv takes where the base is told by the text (base 0), in plain Lean: digits, octal ones behind 0, and those behind 0x, 0b, 0o, underscores between. -/
import Derived.Lib.Hide
import Derived.Lib.Walk
namespace Go.Proofs.YtfeijmoncadkiaaDoor
set_option linter.unusedVariables false
set_option linter.unusedSimpArgs false

/-- A byte with the bit of a small letter. -/
def lw (c : UInt8) : Nat := c.toNat ||| 32
theorem lw_eq : ∀ c : UInt8, lw c = if (64 ≤ c.toNat ∧ c.toNat < 96) ∨ c.toNat < 32 ∨ (128 ≤ c.toNat ∧ c.toNat < 160) ∨ (192 ≤ c.toNat ∧ c.toNat < 224) then c.toNat + 32 else c.toNat := by
  have h : ∀ n : Fin 256, (n.val ||| 32) = if (64 ≤ n.val ∧ n.val < 96) ∨ n.val < 32 ∨ (128 ≤ n.val ∧ n.val < 160) ∨ (192 ≤ n.val ∧ n.val < 224) then n.val + 32 else n.val := by decide +kernel
  intro c
  exact h ⟨c.toNat, c.toNat_lt⟩
theorem lw_lt (c : UInt8) : lw c < 256 := by
  have := c.toNat_lt
  rw [lw_eq]
  split <;> omega
/-- What a byte is as a digit; 255: none. -/
def dig0 (c : UInt8) : Nat := if 48 ≤ c.toNat ∧ c.toNat ≤ 57 then c.toNat - 48 else if 97 ≤ lw c ∧ lw c ≤ 122 then lw c - 97 + 10 else 255
theorem dig0_le (c : UInt8) : dig0 c ≤ 255 := by
  unfold dig0
  split
  · omega
  · split <;> omega
/-- How it ends: a number, and whether an underscore was met; no numeral; too great. -/
inductive End0 where
  | ok (n : Nat) (us : Bool)
  | syn
  | rng
/-- The digits of a base, from a number on. -/
def go0 (B M : Nat) : Nat → Bool → List UInt8 → End0
  | n, us, [] => .ok n us
  | n, us, c :: r => if c.toNat = 95 then go0 B M n true r else if dig0 c ≥ B then .syn else if n * B + dig0 c > M then .rng else go0 B M (n * B + dig0 c) us r
/-- The base that a text's beginning tells, and what is left of it. -/
def pre0 : List UInt8 → Nat × List UInt8
  | a :: b :: c :: r => if a.toNat = 48 then (if lw b = 98 then (2, c :: r) else if lw b = 111 then (8, c :: r) else if lw b = 120 then (16, c :: r) else (8, b :: c :: r)) else (10, a :: b :: c :: r)
  | a :: r => if a.toNat = 48 then (8, r) else (10, a :: r)
  | [] => (10, [])
/-- A digit of a number with underscores. -/
def okDig (hex : Bool) (c : UInt8) : Bool := (decide (48 ≤ c.toNat) && decide (c.toNat ≤ 57)) || (hex && (decide (97 ≤ lw c) && decide (lw c ≤ 102)))
/-- Underscores stand between digits (what was met last: 94 nothing, 48 a digit, 95 an underscore, 33 another). -/
def undGo (hex : Bool) : Nat → List UInt8 → Bool
  | saw, [] => saw != 95
  | saw, c :: r => if okDig hex c then undGo hex 48 r else if c.toNat = 95 then (if saw = 48 then undGo hex 95 r else false) else if saw = 95 then false else undGo hex 33 r
def und0 : List UInt8 → Bool
  | a :: b :: r => if a.toNat = 48 ∧ (lw b = 98 ∨ lw b = 111 ∨ lw b = 120) then undGo (decide (lw b = 120)) 48 r else undGo false 94 (a :: b :: r)
  | l => undGo false 94 l
/-- What underscores make of an end. -/
def fin0 (u : Bool) : End0 → End0
  | .ok n us => if us && !u then .syn else .ok n us
  | .syn => .syn
  | .rng => .rng
/-- What strconv.ParseUint says of a text, at the greatest number that fits. -/
def pu0 (M : Nat) (l : List UInt8) : End0 :=
  if l = [] then .syn else fin0 (und0 l) (go0 (pre0 l).1 M 0 false (pre0 l).2)

theorem go0_le {B M : Nat} : ∀ {l : List UInt8} {n : Nat} {us : Bool} {m : Nat} {v : Bool}, n ≤ M → go0 B M n us l = .ok m v → m ≤ M
  | [], n, us, m, v, h, e => by simp only [go0] at e; cases e; exact h
  | c :: r, n, us, m, v, h, e => by
    simp only [go0] at e
    split at e
    · exact go0_le h e
    · split at e
      · cases e
      · split at e
        · cases e
        · exact go0_le (by omega) e
theorem pu0_le {M : Nat} {l : List UInt8} {n : Nat} {us : Bool} (h : pu0 M l = .ok n us) : n ≤ M := by
  unfold pu0 at h
  split at h
  · cases h
  · cases hg : go0 (pre0 l).1 M 0 false (pre0 l).2 with
    | ok m v =>
      rw [hg] at h
      simp only [fin0] at h
      split at h
      · cases h
      · cases h
        exact go0_le (Nat.zero_le _) hg
    | syn => rw [hg] at h; cases h
    | rng => rw [hg] at h; cases h
/-- Without underscores. -/
theorem go0_noUs {B M : Nat} : ∀ {l : List UInt8} {n : Nat} {us : Bool}, (∀ c ∈ l, c.toNat ≠ 95) → go0 B M n us l = match go0 B M n false l with | .ok m _ => .ok m us | e => e
  | [], n, us, h => rfl
  | c :: r, n, us, h => by
    have hc := h c (by simp)
    have hr : ∀ c ∈ r, c.toNat ≠ 95 := fun x hx => h x (by simp [hx])
    simp only [go0, if_neg hc]
    split
    · rfl
    · split
      · rfl
      · exact go0_noUs hr
end Go.Proofs.YtfeijmoncadkiaaDoor
