/- The walks of the reference's comparisons. -/
import Derived.Test.YtcpjdgbnfjdakaaImplQ
import Derived.Test.YtcpjdgbnfjdakaaGivenEq
import Derived.BigQuiet
namespace Go.Proofs.Ytcpjdgbnfjdakaa
open Go.RowKit
set_option linter.unusedVariables false
set_option linter.unusedSimpArgs false

theorem take_eq_succ {α : Type} {a b : List α} {k : Nat} (h : a.take k = b.take k) (ha : k < a.length) (hb : k < b.length) (e : a[k] = b[k]) : a.take (k + 1) = b.take (k + 1) := by
  rw [List.take_succ_eq_append_getElem ha, List.take_succ_eq_append_getElem hb, h, e]
theorem take_eq_all {α : Type} {a b : List α} {k : Nat} (h : a.take k = b.take k) (ha : a.length ≤ k) (hb : b.length ≤ k) : a = b := by
  rwa [List.take_of_length_le ha, List.take_of_length_le hb] at h
theorem ne_of_at {α : Type} {a b : List α} {k : Nat} (ha : k < a.length) (hb : k < b.length) (e : a[k] ≠ b[k]) : a ≠ b := by
  intro h; subst h; exact e rfl

theorem sameTexts_any (va vb : Value) (a b : List ByteArray) (w : World) (ha : Strs w va a) (hb : Strs w vb b) (la : a.length ≤ 1099511627776) (lb : b.length ≤ 1099511627776) :
    Calls Try.prog 28 #[va, vb] w fun e w' => e = .returned (.bool (decide (a = b))) ∧ Drawn w w' := by
  obtain ⟨aa, ac, rfl⟩ := ha.len
  obtain ⟨ba, bc, rfl⟩ := hb.len
  have HA := Lib.hid (fun (h : 0 < a.length) => ha.cell h)
  have HB := Lib.hid (fun (h : 0 < b.length) => hb.cell h)
  clear ha hb
  go_enter Try.func28, Try.ntmps28
  by_cases hl : a.length = b.length
  case neg =>
    have d : ((a.length : Int) != (b.length : Int)) = true := by rw [bne_iff_ne]; omega
    have HE : Hid (decide (a = b) = false) := Lib.hid (decide_eq_false (fun e => hl (by rw [e])))
    go_wp2_with fail
    go_ret
    rw [HE.out]
    exact ⟨rfl, Drawn.refl _⟩
  have d : ((a.length : Int) != (b.length : Int)) = false := by rw [bne_eq_false_iff_eq]; omega
  have HL := Lib.hid hl
  clear hl
  go_wp2_with fail
  go_loopw [13] (fun vi wr => Drawn w wr ∧ ∃ k : Nat, k ≤ a.length ∧ vi = .int .i64 k ∧ a.take k = b.take k) (fun vi _ => a.length - (intOf vi).toNat)
  case atStart => exact ⟨Drawn.refl _, 0, Nat.zero_le _, rfl, rfl⟩
  case round =>
    obtain ⟨⟨n, rfl⟩, k, hk, rfl, hh⟩ := hrel
    have HH := Lib.hid hh
    clear hh
    by_cases hlt : k < a.length
    · have hltb : k < b.length := by have := HL.out; omega
      obtain ⟨b1, o1, rfl, q1⟩ := HA.out (by omega)
      obtain ⟨b2, o2, rfl, q2⟩ := HB.out (by omega)
      have q1k := q1 k hlt
      have q2k := q2 k hltb
      clear q1 q2
      have HY := Lib.hid (fun e => take_eq_succ HH.out hlt hltb e)
      have HN := Lib.hid (fun e => ne_of_at hlt hltb e)
      have hbi : (k : Int) < (b.length : Int) := by omega
      have hai : (k : Int) < (a.length : Int) := by omega
      have hk0 : (0 : Int) ≤ (k : Int) := by omega
      clear HA HB
      generalize a[k] = x at *
      generalize b[k] = y at *
      have p1 : w.cell? ⟨b1, o1 + k, none⟩ = some (.string x) := q1k
      have p2 : w.cell? ⟨b2, o2 + k, none⟩ = some (.string y) := q2k
      clear q1k q2k
      cases he : (x.toList == y.toList) with
      | false =>
        have he2 : (x.toList != y.toList) = true := by rw [bne, he]; rfl
        have hne : x ≠ y := by intro e; subst e; simp at he
        have HE : Hid (decide (a = b) = false) := Lib.hid (decide_eq_false (HN.out hne))
        clear hne HN HY
        go_wp2_with fail
        go_quiet (fail)
        go_wp2_with fail
        go_ret
        rw [HE.out]
        exact ⟨rfl, Drawn.n ⟨n, rfl⟩⟩
      | true =>
        have he2 : (x.toList != y.toList) = false := by rw [bne, he]; rfl
        have heq : x = y := by
          have := toList_beq x y
          rw [this] at he
          simpa using he
        have HE := Lib.hid (HY.out heq)
        clear heq HN HY
        go_wp2_with fail
        go_quiet (fail)
        go_wp2_with fail
        go_roundw
        case rel => exact ⟨⟨n + nq, rfl⟩, k + 1, by omega, by go_num, HE.out⟩
        case measure => simp [intOf]; omega
    · have HE : Hid (decide (a = b) = true) := Lib.hid (decide_eq_true (take_eq_all HH.out (by omega) (by have := HL.out; omega)))
      go_wp2_with fail
      go_ret
      rw [HE.out]
      exact ⟨rfl, ⟨n, rfl⟩⟩

theorem sameInts_any (va vb : Value) (a b : List Nat) (w : World) (ha : Ints w va a) (hb : Ints w vb b) (la : a.length ≤ 1099511627776) (lb : b.length ≤ 1099511627776) :
    Calls Try.prog 30 #[va, vb] w fun e w' => e = .returned (.bool (decide (a = b))) ∧ Drawn w w' := by
  obtain ⟨aa, ac, rfl⟩ := ha.len
  obtain ⟨ba, bc, rfl⟩ := hb.len
  have HA := Lib.hid (fun k (h : k < a.length) => ha.cell h)
  have HB := Lib.hid (fun k (h : k < b.length) => hb.cell h)
  clear ha hb
  go_enter Try.func30, Try.ntmps30
  by_cases hl : a.length = b.length
  case neg =>
    have d : ((a.length : Int) != (b.length : Int)) = true := by rw [bne_iff_ne]; omega
    have HE : Hid (decide (a = b) = false) := Lib.hid (decide_eq_false (fun e => hl (by rw [e])))
    go_wp2_with fail
    go_ret
    rw [HE.out]
    exact ⟨rfl, Drawn.refl _⟩
  have d : ((a.length : Int) != (b.length : Int)) = false := by rw [bne_eq_false_iff_eq]; omega
  have HL := Lib.hid hl
  clear hl
  go_wp2_with fail
  go_loopw [13] (fun vi wr => Drawn w wr ∧ ∃ k : Nat, k ≤ a.length ∧ vi = .int .i64 k ∧ a.take k = b.take k) (fun vi _ => a.length - (intOf vi).toNat)
  case atStart => exact ⟨Drawn.refl _, 0, Nat.zero_le _, rfl, rfl⟩
  case round =>
    obtain ⟨⟨n, rfl⟩, k, hk, rfl, hh⟩ := hrel
    have HH := Lib.hid hh
    clear hh
    by_cases hlt : k < a.length
    · have hltb : k < b.length := by have := HL.out; omega
      obtain ⟨b1, o1, rfl, q1⟩ := HA.out k hlt
      obtain ⟨b2, o2, rfl, q2⟩ := HB.out k hltb
      have HY := Lib.hid (fun e => take_eq_succ HH.out hlt hltb e)
      have HN := Lib.hid (fun e => ne_of_at hlt hltb e)
      have hbi : (k : Int) < (b.length : Int) := by omega
      have hai : (k : Int) < (a.length : Int) := by omega
      have hk0 : (0 : Int) ≤ (k : Int) := by omega
      clear HA HB
      generalize a[k] = x at *
      generalize b[k] = y at *
      have p1 : w.cell? ⟨b1, o1 + k, none⟩ = some (.int .i64 (x : Nat)) := q1
      have p2 : w.cell? ⟨b2, o2 + k, none⟩ = some (.int .i64 (y : Nat)) := q2
      clear q1 q2
      cases he : ((x : Int) != (y : Int)) with
      | true =>
        have hne : x ≠ y := by intro e; subst e; simp at he
        have HE : Hid (decide (a = b) = false) := Lib.hid (decide_eq_false (HN.out hne))
        clear hne HN HY
        go_wp2_with fail
        go_quiet (fail)
        go_wp2_with fail
        go_ret
        rw [HE.out]
        exact ⟨rfl, Drawn.n ⟨n, rfl⟩⟩
      | false =>
        have heq : x = y := by rw [bne_eq_false_iff_eq] at he; omega
        have HE := Lib.hid (HY.out heq)
        clear heq HN HY
        go_wp2_with fail
        go_quiet (fail)
        go_wp2_with fail
        go_roundw
        case rel => exact ⟨⟨n + nq, rfl⟩, k + 1, by omega, by go_num, HE.out⟩
        case measure => simp [intOf]; omega
    · have HE : Hid (decide (a = b) = true) := Lib.hid (decide_eq_true (take_eq_all HH.out (by omega) (by have := HL.out; omega)))
      go_wp2_with fail
      go_ret
      rw [HE.out]
      exact ⟨rfl, ⟨n, rfl⟩⟩

theorem sameGiven_any (va vb : Value) (a b : List (Nat × ByteArray)) (w : World) (ha : Givens w va a) (hb : Givens w vb b) (la : a.length ≤ 1099511627776) (lb : b.length ≤ 1099511627776) :
    Calls Try.prog 35 #[va, vb] w fun e w' => e = .returned (.bool (decide (a = b))) ∧ Drawn w w' := by
  obtain ⟨aa, ac, rfl, -⟩ := ha.len
  obtain ⟨ba, bc, rfl, -⟩ := hb.len
  have HA := Lib.hid (fun k (h : k < a.length) => ha.cell h)
  have HB := Lib.hid (fun k (h : k < b.length) => hb.cell h)
  clear ha hb
  go_enter Try.func35, Try.ntmps35
  by_cases hl : a.length = b.length
  case neg =>
    have d : ((a.length : Int) != (b.length : Int)) = true := by rw [bne_iff_ne]; omega
    have HE : Hid (decide (a = b) = false) := Lib.hid (decide_eq_false (fun e => hl (by rw [e])))
    go_wp2_with fail
    go_ret
    rw [HE.out]
    exact ⟨rfl, Drawn.refl _⟩
  have d : ((a.length : Int) != (b.length : Int)) = false := by rw [bne_eq_false_iff_eq]; omega
  have HL := Lib.hid hl
  clear hl
  go_wp2_with fail
  go_loopw [13] (fun vi wr => Drawn w wr ∧ ∃ k : Nat, k ≤ a.length ∧ vi = .int .i64 k ∧ a.take k = b.take k) (fun vi _ => a.length - (intOf vi).toNat)
  case atStart => exact ⟨Drawn.refl _, 0, Nat.zero_le _, rfl, rfl⟩
  case round =>
    obtain ⟨⟨n, rfl⟩, k, hk, rfl, hh⟩ := hrel
    have HH := Lib.hid hh
    clear hh
    by_cases hlt : k < a.length
    · have hltb : k < b.length := by have := HL.out; omega
      obtain ⟨b1, o1, rfl, q1, q1'⟩ := HA.out k hlt
      obtain ⟨b2, o2, rfl, q2, q2'⟩ := HB.out k hltb
      have HY := Lib.hid (fun e => take_eq_succ HH.out hlt hltb e)
      have HN := Lib.hid (fun e => ne_of_at hlt hltb e)
      have hbi : (k : Int) < (b.length : Int) := by omega
      have hai : (k : Int) < (a.length : Int) := by omega
      have hk0 : (0 : Int) ≤ (k : Int) := by omega
      clear HA HB
      generalize a[k] = x at *
      generalize b[k] = y at *
      obtain ⟨x1, x2⟩ := x
      obtain ⟨y1, y2⟩ := y
      have p1 : w.cell? ⟨b1, o1 + k * 2, none⟩ = some (.int .i64 (x1 : Nat)) := q1
      have p2 : w.cell? ⟨b2, o2 + k * 2, none⟩ = some (.int .i64 (y1 : Nat)) := q2
      have p3 : w.cell? ⟨b1, o1 + k * 2 + 1, none⟩ = some (.string x2) := q1'
      have p4 : w.cell? ⟨b2, o2 + k * 2 + 1, none⟩ = some (.string y2) := q2'
      clear q1 q2 q1' q2'
      have hgu := given_guard
      have hne := given_neq
      cases he : (((x1 : Int) == (y1 : Int)) && (x2.toList == y2.toList)) with
      | false =>
        have hne2 : (x1, x2) ≠ (y1, y2) := by intro e; cases e; simp at he
        have HE : Hid (decide (a = b) = false) := Lib.hid (decide_eq_false (HN.out hne2))
        have he2 : (!(((x1 : Int) == (y1 : Int)) && (x2.toList == y2.toList))) = true := by rw [he]; rfl
        clear hne2 HN HY
        go_wp2_with fail
        go_quiet (fail)
        go_wp2_with fail
        go_ret
        rw [HE.out]
        exact ⟨rfl, Drawn.n ⟨n, rfl⟩⟩
      | true =>
        have heq : (x1, x2) = (y1, y2) := by
          rw [Bool.and_eq_true, beq_iff_eq, toList_beq, decide_eq_true_iff] at he
          obtain ⟨q1, q2⟩ := he
          rw [show x1 = y1 by omega, q2]
        have HE := Lib.hid (HY.out heq)
        have he2 : (!(((x1 : Int) == (y1 : Int)) && (x2.toList == y2.toList))) = false := by rw [he]; rfl
        clear heq HN HY
        go_wp2_with fail
        go_quiet (fail)
        go_wp2_with fail
        go_roundw
        case rel => exact ⟨⟨n + nq, rfl⟩, k + 1, by omega, by go_num, HE.out⟩
        case measure => simp [intOf]; omega
    · have HE : Hid (decide (a = b) = true) := Lib.hid (decide_eq_true (take_eq_all HH.out (by omega) (by have := HL.out; omega)))
      go_wp2_with fail
      go_ret
      rw [HE.out]
      exact ⟨rfl, ⟨n, rfl⟩⟩
end Go.Proofs.Ytcpjdgbnfjdakaa
