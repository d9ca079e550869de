/- strconv.ParseUint in decimal digits at 64 bits: the number that a text is, if it is one. -/
import Derived.Test.YtlnnmionbflolaaDoorDig
import Derived.Test.YtlnnmionbflolaaDoorShelfV
import Derived.Test.YtlnnmionbflolaaDoorH
import Derived.Lib.ParseIntBCases
namespace Go.Proofs.YtlnnmionbflolaaDoor
open Go.RowKit
set_option linter.unusedVariables false
set_option linter.unusedSimpArgs false

/-- What a text is in decimal digits. -/
def numU (s : ByteArray) : Option Int := match Lib.parseUintB 64 s.data.toList with | .ok u => some (u : Int) | _ => none
theorem numU_le {s : ByteArray} {n : Int} (h : numU s = some n) : 0 ≤ n ∧ n ≤ 18446744073709551615 := by
  unfold numU at h
  cases hq : Lib.parseUintB 64 s.data.toList
  · rename_i u
    rw [hq] at h
    cases h
    have hu : u ≤ 2 ^ 64 - 1 := by
      unfold Lib.parseUintB at hq
      split at hq
      · cases hq
      · exact Lib.parseUintM_le _ _ 0 u (Nat.zero_le _) hq
    omega
  · rw [hq] at h; cases h
  · rw [hq] at h; cases h
theorem dend_over {B M : Nat} : ∀ (l : List UInt8) (n : Nat), dend (dgs B M n true l) = (0, 2) := fun l n => by
  cases h : dgs B M n true l with
  | none => rfl
  | some x =>
    obtain ⟨m, o⟩ := x
    rw [dgs_over h]
    rfl
theorem dend_parse : ∀ (l : List UInt8) (n : Nat), n ≤ 18446744073709551615 → dend (dgs 10 18446744073709551615 n false l) = match Lib.parseUintM 18446744073709551615 n l with | .ok u => (u, 1) | _ => (0, 2)
  | [], n, _ => rfl
  | c :: r, n, hn => by
    have hw := dig0_ways c
    unfold dgs Lib.parseUintM
    by_cases hd : dig0 c < 10
    · rw [if_pos hd]
      have h1 : 48 ≤ c.toNat ∧ c.toNat ≤ 57 := by omega
      have h2 : dig0 c = c.toNat - 48 := by omega
      rw [if_pos h1, h2]
      by_cases ho : n * 10 + (c.toNat - 48) > 18446744073709551615
      · rw [if_pos (by simp [ho]), dend_over]
        by_cases hc : 1844674407370955162 ≤ n
        · rw [if_pos hc]
        · rw [if_neg hc, if_pos ho]
      · rw [if_neg (by simp; omega), if_neg (by omega), if_neg ho]
        exact dend_parse r _ (by omega)
    · rw [if_neg hd, if_neg (by omega)]
      rfl
theorem dres_numU (s : ByteArray) : dres 10 18446744073709551615 s.data.toList = match numU s with | some n => (n.toNat, 1) | none => (0, 2) := by
  unfold dres numU Lib.parseUintB
  split
  · rfl
  · rw [dend_parse _ _ (by omega), show 2 ^ 64 - 1 = 18446744073709551615 from rfl]
    cases Lib.parseUintM 18446744073709551615 0 s.data.toList <;> simp

/-- The variables of strconv's errors hold interface values. -/
def ErrsAt (w : World) : Prop := (∃ t p, w.cell? ⟨0, 0, none⟩ = some (.iface t p)) ∧ ∃ t p, w.cell? ⟨1, 0, none⟩ = some (.iface t p)
theorem var_later {g : Nat} {w w' : World} (h : ∃ t p, w.cell? ⟨g, 0, none⟩ = some (.iface t p)) (hk : ∀ b, b < w.heap.size → w'.heap[b]? = w.heap[b]?) : ∃ t p, w'.cell? ⟨g, 0, none⟩ = some (.iface t p) := by
  obtain ⟨t, p, hc⟩ := h
  refine ⟨t, p, ?_⟩
  have hlt : g < w.heap.size := by
    rcases Nat.lt_or_ge g w.heap.size with h' | h'
    · exact h'
    · simp [World.cell?, Array.getElem?_eq_none h'] at hc
  simpa only [World.cell?, hk _ hlt] using hc
theorem ErrsAt.later {w w' : World} (h : ErrsAt w) (hk : ∀ b, b < w.heap.size → w'.heap[b]? = w.heap[b]?) : ErrsAt w' := ⟨var_later h.1 hk, var_later h.2 hk⟩

/-- A value and an error. -/
def EndV (v : Value) (bad : Bool) (w : World) (e : Ending) (w' : World) : Prop := ∃ er, e = .returned (.tuple #[v, er]) ∧ (if bad then ∃ t p, er = .iface t p else er = .nilIface) ∧ Below w.heap.size w w'

set_option maxRecDepth 100000 in
theorem parse10_any (s : ByteArray) (hs : s.size ≤ 2147483647) (w : World) (hE : ErrsAt w) :
    ∃ v, (∀ n, numU s = some n → v = n) ∧ Calls Tryd.prog 50 #[.string s, .int .i64 10, .int .i64 0] w (EndV (.int .u64 v) (numU s).isNone w) := by
  have hs2 : s.size ≤ 281474976710656 := by omega
  obtain ⟨⟨t1, p1, h1⟩, ⟨t2, p2, h2⟩⟩ := hE
  unfold numU
  cases hq : Lib.parseUintB 64 s.data.toList
  · rename_i u
    refine ⟨u, fun n h => by cases h; rfl, (Any.strconv_ParseUint_10_at0_ok lays14 s (by omega) u hq w).mono fun e w' h => ?_⟩
    obtain ⟨rfl, hw⟩ := h
    refine ⟨_, rfl, rfl, ?_⟩
    rcases hw with rfl | rfl
    · exact Below.refl _ _
    · exact Lib.bytesWorld_below w _ s
  · refine ⟨0, (by intro n h; simp at h), (Any.strconv_ParseUint_10_at0_syntax lays14 s hs2 hq _ w h1 (.inr ⟨_, _, rfl⟩)).mono fun e w' h => ?_⟩
    obtain ⟨N, rfl, -, -, hb⟩ := h
    exact ⟨_, rfl, ⟨_, _, rfl⟩, hb⟩
  · refine ⟨18446744073709551615, (by intro n h; simp at h), (Any.strconv_ParseUint_10_at0_range lays14 s hs2 hq _ w h2 (.inr ⟨_, _, rfl⟩)).mono fun e w' h => ?_⟩
    obtain ⟨N, rfl, -, -, hb⟩ := h
    exact ⟨_, rfl, ⟨_, _, rfl⟩, hb⟩
end Go.Proofs.YtlnnmionbflolaaDoor
