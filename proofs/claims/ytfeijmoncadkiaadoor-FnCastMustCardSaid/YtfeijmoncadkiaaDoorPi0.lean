/- What strconv.ParseInt says of a text at base 0, in plain Lean. -/
import Derived.Test.YtfeijmoncadkiaaDoorPu0
namespace Go.Proofs.YtfeijmoncadkiaaDoor
set_option linter.unusedVariables false
set_option linter.unusedSimpArgs false

/-- A sign ahead, and what is left. -/
def sgn : List UInt8 → Bool × List UInt8
  | a :: r => if a.toNat = 43 then (false, r) else if a.toNat = 45 then (true, r) else (false, a :: r)
  | [] => (false, [])
/-- The value, and how it ends: 0 well, 1 too great, 2 no numeral. -/
def endI (C : Nat) (neg : Bool) : End0 → Int × Nat
  | .syn => (0, 2)
  | .rng => if neg then (-(C : Int), 1) else ((C : Int) - 1, 1)
  | .ok n _ => if neg then (if n > C then (-(C : Int), 1) else (-(n : Int), 0)) else (if n ≥ C then ((C : Int) - 1, 1) else ((n : Int), 0))
def pi0 (C M : Nat) (l : List UInt8) : Int × Nat := if l = [] then (0, 2) else endI C (sgn l).1 (pu0 M (sgn l).2)
theorem endI_le (C : Nat) (hC : 0 < C) (neg : Bool) (e : End0) : -(C : Int) ≤ (endI C neg e).1 ∧ (endI C neg e).1 < C := by
  unfold endI
  cases e with
  | ok n us =>
    cases neg
    · simp only [Bool.false_eq_true, if_false]; split <;> simp <;> omega
    · simp only [if_true]; split <;> simp <;> omega
  | syn => simp; omega
  | rng => cases neg <;> simp <;> omega
theorem pi0_le (C M : Nat) (hC : 0 < C) (l : List UInt8) : -(C : Int) ≤ (pi0 C M l).1 ∧ (pi0 C M l).1 < C := by
  unfold pi0
  split
  · simp; omega
  · exact endI_le C hC _ _
theorem endI_code (C : Nat) (neg : Bool) (e : End0) : (endI C neg e).2 ≤ 2 := by
  unfold endI
  cases e with
  | ok n us => cases neg <;> simp only [Bool.false_eq_true, if_false, if_true] <;> split <;> simp
  | syn => simp
  | rng => cases neg <;> simp
end Go.Proofs.YtfeijmoncadkiaaDoor
