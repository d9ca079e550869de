/- What is told of a text that an unsigned flag is set to. (Printed by gen_getu.py.) -/
import Derived.Test.YtioldikeiiibgaaGreatDoorUVal
import Derived.Test.YtioldikeiiibgaaGreatDoorSayM
namespace Go.Proofs.YtioldikeiiibgaaGreatDoor
open Go.RowKit
set_option linter.unusedVariables false
set_option linter.unusedSimpArgs false

/-- What is told of a text. -/
def IU (M : Nat) (s : ByteArray) (cs : List Value) (_ : World) : Prop := cs = [.bool (ub M s), .int .u64 (uv M s : Nat), .string ⟨#[]⟩]
theorem flatU_get (M : Nat) : ∀ (l : List ByteArray) (i : Nat) (h : i < l.length), (flatU M l)[i * 3]? = some (.bool (ub M l[i])) ∧ (flatU M l)[i * 3 + 1]? = some (.int .u64 (uv M l[i] : Nat))
  | x :: l, 0, h => ⟨rfl, rfl⟩
  | x :: l, i + 1, h => by
    have := flatU_get M l i (by simpa using h)
    have e : flatU M (x :: l) = .bool (ub M x) :: .int .u64 (uv M x : Nat) :: .string (numS (uv M x)) :: flatU M l := rfl
    rw [e, show (i + 1) * 3 = i * 3 + 3 by omega]
    exact this
/-- The cells of a row of structs. -/
theorem rows_at {α : Type} {sz : Nat} {IP : α → List Value → World → Prop} {w : World} {xs : List Value} {os : List α} {base : Nat} {e : TypeId} {a : Option Addr} {n c : Nat} (h : RowsOf sz IP w xs os) (hr : w.ownsRow base e sz (.slice a n c) n xs) (i : Nat) (hi : i < os.length) (hn : n = os.length) (hsz : 0 < sz) :
    ∃ g cs, a = some ⟨g, 0, none⟩ ∧ IP os[i] cs w ∧ ∀ j u, j < sz → cs[j]? = some u → w.cell? ⟨g, i * sz + j, none⟩ = some u := by
  subst hn
  rcases hr.2 with ⟨e, h0⟩ | ⟨g, cap, cur, e, hb, hh, hnc, hcm, hcs, ht⟩
  · omega
  · cases e
    refine ⟨g, _, rfl, h.2 i hi, fun j u hj hu => ?_⟩
    rw [List.getElem?_take, if_pos hj, List.getElem?_drop] at hu
    have hlt : i * sz + j < os.length * sz := by
      have : (i + 1) * sz ≤ os.length * sz := Nat.mul_le_mul_right _ hi
      rw [Nat.add_mul] at this
      omega
    rw [← ht, List.getElem?_take, if_pos hlt, Array.getElem?_toList] at hu
    simp [World.cell?, hh, hu]

end Go.Proofs.YtioldikeiiibgaaGreatDoor
