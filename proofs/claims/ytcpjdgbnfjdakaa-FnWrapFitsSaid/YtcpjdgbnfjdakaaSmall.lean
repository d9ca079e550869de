/- The walks of zzSplitTwo, stripUnknownFlagValue, isGotestShorthandFlag. -/
import Derived.Test.YtcpjdgbnfjdakaaHand
namespace Go.Proofs.Ytcpjdgbnfjdakaa
open Go.RowKit
set_option linter.unusedVariables false
set_option linter.unusedSimpArgs false

/-- A text cut at its first =. -/
def splitF (s : ByteArray) : List ByteArray :=
  if firstFrom isEq s 0 < s.size then [s.extract 0 (firstFrom isEq s 0), s.extract (firstFrom isEq s 0 + 1) s.size] else [s]

theorem byteEq (a b : UInt8) (n : Nat) (hn : b.toNat = n) : ((a.toNat : Int) == (n : Int)) = (a == b) := by
  rw [Bool.eq_iff_iff]
  simp only [beq_iff_eq]
  constructor
  · intro h; exact UInt8.toNat_inj.mp (by omega)
  · intro h; rw [h]; omega

/-- A slice of texts, no longer than its capacity. -/
structure Texts (w : World) (v : Value) (l : List ByteArray) : Prop where
  strs : Strs w v l
  cap : ∃ a n c, v = .slice a n c ∧ n ≤ c

theorem Texts.len {w : World} {v : Value} {l : List ByteArray} (h : Texts w v l) : ∃ a cap, v = .slice a l.length cap ∧ l.length ≤ cap := by
  obtain ⟨a, cap, rfl⟩ := h.strs.len
  obtain ⟨a', n, c, e, hc⟩ := h.cap
  cases e
  exact ⟨_, _, rfl, hc⟩
theorem Texts.later {w w' : World} {v : Value} {l : List ByteArray} (h : Texts w v l) (hk : ∀ b, b < w.heap.size → w'.heap[b]? = w.heap[b]?) : Texts w' v l := ⟨h.strs.later hk, h.cap⟩
theorem Texts.nil (w : World) : Texts w (.slice none 0 0) [] := ⟨Strs.nil w _ _, _, _, _, rfl, Nat.le_refl _⟩

/-- The rest of texts behind the first. -/
theorem Texts.tail {w : World} {a : Option Addr} {n cap : Nat} {x : ByteArray} {l : List ByteArray} (h : Texts w (.slice a n cap) (x :: l)) :
    ∃ b off A, a = some ⟨b, off, none⟩ ∧ n = l.length + 1 ∧ l.length + 1 ≤ cap ∧ w.cell? ⟨b, off, none⟩ = some (.string x) ∧ (if cap = 1 then some (⟨b, off, none⟩ : Addr) else some ⟨b, off + 1, none⟩) = some A ∧ Texts w (.slice (some A) l.length (cap - 1)) l := by
  obtain ⟨⟨a0, cap0, e, h⟩, a1, n1, c1, e1, hc1⟩ := h
  cases e
  cases e1
  rcases h with h | ⟨b, off, cs, ty, fz, rfl, hb, hc⟩
  · cases h
  · simp only [List.length_cons] at hc1
    have h00 := hc 0 (by simp)
    have h0 : w.cell? ⟨b, off, none⟩ = some (.string x) := by
      simp [World.cell?, hb] at h00 ⊢
      exact h00
    by_cases c : cap = 1
    · have hl : l = [] := List.length_eq_zero_iff.1 (by omega)
      subst hl
      exact ⟨b, off, ⟨b, off, none⟩, rfl, rfl, hc1, h0, by rw [if_pos c], Strs.nil _ _ _, _, _, _, rfl, by simp⟩
    · refine ⟨b, off, ⟨b, off + 1, none⟩, rfl, rfl, hc1, h0, by rw [if_neg c], ⟨_, _, rfl, .inr ⟨b, off + 1, cs, ty, fz, rfl, hb, fun i hi => ?_⟩⟩, _, _, _, rfl, by omega⟩
      have := hc (i + 1) (by simp; omega)
      rw [show off + 1 + i = off + (i + 1) by omega]
      simpa using this

theorem split_any (s : ByteArray) (w : World) (hs : s.size ≤ 4294967295) :
    Calls Try.prog 112 #[.string s, .int .u8 61] w fun e w' => ∃ v, e = .returned v ∧ Strs w' v (splitF s) ∧ Below w.heap.size w w' := by
  go_enter Try.func112, Try.ntmps112
  go_wp2_with fail
  go_loop [5] (fun i => ∃ k : Nat, k ≤ s.size ∧ i = .int .i64 k ∧ firstFrom isEq s 0 = firstFrom isEq s k) (fun i => s.size - (intOf i).toNat)
  case atStart => exact ⟨0, Nat.zero_le _, rfl, rfl⟩
  case round =>
    obtain ⟨k, hk, rfl, hh⟩ := hrel
    have HH := Lib.hid hh
    clear hh
    by_cases hlt : k < s.size
    · have b1 : (k : Int) < (s.size : Int) := by omega
      cases hq : isEq s[k] with
      | true =>
        have he : ((s[k].toNat : Int) == 61) = true := (byteEq s[k] 61 61 rfl).trans hq
        have e : splitF s = [s.extract 0 k, s.extract (k + 1) s.size] := by
          rw [splitF, HH.out, firstFrom_yes isEq s k hlt hq, if_pos hlt]
        have HE := Lib.hid e
        clear e hq HH
        have b2 : (k : Int) + 1 ≤ (s.size : Int) := by omega
        go_wp2_with fail
        go_region
        go_wp2_with fail
        go_ret
        exact ⟨_, rfl, by rw [HE.out]; exact Strs.made (l := [s.extract 0 k, s.extract (k + 1) s.size]) 2 (heap_at _ _ _ rfl), Below.drewN' ((Below.refl _ _).alloc (Nat.le_refl _) _)⟩
      | false =>
        have he : ((s[k].toNat : Int) == 61) = false := (byteEq s[k] 61 61 rfl).trans hq
        have HE := Lib.hid hq
        clear hq
        go_wp2_with fail
        go_round
        case rel => exact ⟨k + 1, by omega, by go_num, by rw [HH.out, firstFrom_no isEq s k hlt HE.out]⟩
        case measure => simp [intOf]; omega
    · have e : splitF s = [s] := by
        rw [splitF, HH.out, firstFrom_end isEq s k (by omega), if_neg (by omega)]
      have HE := Lib.hid e
      clear e
      go_wp2_with fail
      go_ret
      exact ⟨_, rfl, by rw [HE.out]; exact Strs.made (l := [s]) 1 (heap_at _ _ _ rfl), (Below.refl _ _).alloc (Nat.le_refl _) _⟩

theorem gotest_any (s : ByteArray) (w : World) (hs : s.size ≤ 4294967295) :
    Calls Try.prog 106 #[.string s] w fun e w' => e = .returned (.bool ((s.extract 0 5).toList == [116, 101, 115, 116, 46])) ∧ w' = w := by
  go_enter Try.func106, Try.ntmps106
  by_cases h : 5 ≤ s.size
  · go_wp2_with fail
    go_ret
    exact ⟨rfl, rfl⟩
  · have e : ((s.extract 0 5).toList == [116, 101, 115, 116, 46]) = false := by
      rw [beq_eq_false_iff_ne]
      intro e
      have := congrArg List.length e
      rw [ByteArray.toList_eq] at this
      have hz : (s.extract 0 5).size = min 5 s.size := by rw [ByteArray.size_extract]; omega
      simp only [Array.length_toList] at this
      have : (s.extract 0 5).size = 5 := this
      omega
    rw [e]
    go_wp2_with fail
    go_ret
    exact ⟨rfl, rfl⟩

theorem byteO_dash (x : ByteArray) (h : 0 < x.size) : (byteO x 0 == some 45) = ((x[0].toNat : Int) == 45) := by
  rw [byteO_some h, show ((x[0].toNat : Int) == 45) = (x[0] == 45) from byteEq x[0] 45 45 rfl]
  rfl

theorem strip_any (v : Value) (l : List ByteArray) (w0 w : World) (hk : ∀ b, b < w0.heap.size → w.heap[b]? = w0.heap[b]?) (hv : Texts w0 v l) (hl : l.length ≤ 2147483647) (hs : ∀ s ∈ l, s.size ≤ 4294967295) :
    Calls Try.prog 107 #[v] w fun e w' => ∃ v', e = .returned v' ∧ Texts w0 v' (stripF l) ∧ w' = w := by
  obtain ⟨a, cap, rfl, hcap⟩ := hv.len
  cases l with
  | nil =>
    go_enter Try.func107, Try.ntmps107
    go_wp2_with fail
    go_ret
    exact ⟨_, rfl, hv, rfl⟩
  | cons x l =>
    obtain ⟨b, off, A, rfl, hn, hc1, hc0, hA, ht⟩ := hv.tail
    have hc : w.cell? ⟨b, off, none⟩ = some (.string x) := (World.cell?_of_block (hk b (World.block_lt_of_cell? w0 _ hc0))).trans hc0
    clear hc0 hk
    have HT := Lib.hid ht
    have HV := Lib.hid hv
    have hx := hs x (by simp)
    clear hs hn ht hv
    simp only [List.length_cons] at hl
    have fin : ∀ (hq : (byteO x 0 == some 45) = false) , stripF (x :: l) = l := fun hq => by rw [stripF, hq]; rfl
    by_cases h0 : 0 < x.size
    · cases hq : byteO x 0 == some 45 with
      | true =>
        have he := (byteO_dash x h0).symm.trans hq
        have HE : Hid (stripF (x :: l) = x :: l) := Lib.hid (by rw [stripF, hq]; rfl)
        clear hq fin
        go_enter Try.func107, Try.ntmps107
        go_wp2_with fail
        go_ret
        exact ⟨_, rfl, by rw [HE.out]; exact HV.out, rfl⟩
      | false =>
        have he := (byteO_dash x h0).symm.trans hq
        have HE := Lib.hid (fin hq)
        clear hq fin
        by_cases h1 : 0 < l.length
        · go_enter Try.func107, Try.ntmps107
          go_wp2_with fail
          go_ret
          exact ⟨_, rfl, by rw [HE.out]; exact HT.out, rfl⟩
        · have hl0 : l = [] := List.length_eq_zero_iff.1 (by omega)
          subst hl0
          go_enter Try.func107, Try.ntmps107
          go_wp2_with fail
          go_ret
          exact ⟨_, rfl, by rw [HE.out]; exact Texts.nil _, rfl⟩
    · have hq : (byteO x 0 == some 45) = false := by rw [byteO_none (by omega)]; rfl
      have HE := Lib.hid (fin hq)
      clear hq fin
      by_cases h1 : 0 < l.length
      · go_enter Try.func107, Try.ntmps107
        go_wp2_with fail
        go_ret
        exact ⟨_, rfl, by rw [HE.out]; exact HT.out, rfl⟩
      · have hl0 : l = [] := List.length_eq_zero_iff.1 (by omega)
        subst hl0
        go_enter Try.func107, Try.ntmps107
        go_wp2_with fail
        go_ret
        exact ⟨_, rfl, by rw [HE.out]; exact Texts.nil _, rfl⟩
end Go.Proofs.Ytcpjdgbnfjdakaa
