/- Underscores, as the reference takes them, in plain Lean. -/
import Derived.Test.YtlnnmionbflolaaDoorPuSpec
namespace Go.Proofs.YtlnnmionbflolaaDoor
set_option linter.unusedVariables false
set_option linter.unusedSimpArgs false

def isDec (c : UInt8) : Bool := decide (48 ≤ c.toNat) && decide (c.toNat ≤ 57)
def isHex (c : UInt8) : Bool := decide (dig0 c < 16)
/-- What stands ahead of an underscore at a place lets it stand there. -/
def aheadB (hx bs : Bool) (k : Nat) : Option UInt8 → Bool
  | none => false
  | some p => (isDec p || (hx && decide (2 < k) && isHex p)) || (decide (k = 2) && bs)
/-- What stands behind it. -/
def behindB (hx : Bool) : List UInt8 → Bool
  | [] => false
  | q :: _ => isDec q || (hx && isHex q)
def woB (hx bs : Bool) : Nat → Option UInt8 → List UInt8 → Bool
  | _, _, [] => true
  | k, p, c :: r => (if c.toNat = 95 then aheadB hx bs k p && behindB hx r else true) && woB hx bs (k + 1) (some c) r
def hexB : List UInt8 → Bool
  | a :: b :: _ => decide (a.toNat = 48) && decide (lw b = 120)
  | _ => false
def baseB : List UInt8 → Bool
  | a :: b :: _ => decide (a.toNat = 48) && (decide (10 ≤ dig0 b) && decide (dig0 b < 36))
  | _ => false
def okW (l : List UInt8) : Bool := woB (hexB l) (baseB l) 0 none l
def bare (l : List UInt8) : List UInt8 := l.filter fun c => c.toNat != 95
theorem bare_cons (c : UInt8) (r : List UInt8) : bare (c :: r) = if c.toNat = 95 then bare r else c :: bare r := by
  unfold bare
  by_cases h : c.toNat = 95 <;> simp [h]
theorem bare_snoc (r : List UInt8) (c : UInt8) : bare (r ++ [c]) = if c.toNat = 95 then bare r else bare r ++ [c] := by
  unfold bare
  by_cases h : c.toNat = 95 <;> simp [List.filter_append, h]
end Go.Proofs.YtlnnmionbflolaaDoor
