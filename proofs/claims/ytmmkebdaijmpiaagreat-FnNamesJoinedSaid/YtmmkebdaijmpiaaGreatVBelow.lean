/- The reference's below: which of two texts stands ahead. -/
import Derived.Test.YtmmkebdaijmpiaaGreatVSort
import Derived.BigQuiet
namespace Go.Proofs.YtmmkebdaijmpiaaGreat
open Go.RowKit Go.Sort
set_option linter.unusedVariables false
set_option linter.unusedSimpArgs false

theorem less_app (p x y : List UInt8) : Op.bytesLess (p ++ x) (p ++ y) = Op.bytesLess x y := by
  rw [less_is, less_is, decide_eq_decide]
  induction p with
  | nil => exact Iff.rfl
  | cons a p ih =>
    rw [List.cons_append, List.cons_append, List.cons_lt_cons_iff]
    constructor
    · rintro (h | ⟨_, h⟩)
      · exact absurd (UInt8.lt_iff_toNat_lt.1 h) (Nat.lt_irrefl _)
      · exact ih.1 h
    · intro h; exact .inr ⟨rfl, ih.2 h⟩
/-- The first k bytes are the same. -/
def SameTo (a b : ByteArray) (k : Nat) : Prop := a.toList.take k = b.toList.take k
theorem toList_length (a : ByteArray) : a.toList.length = a.size := by rw [ByteArray.toList_eq, Array.length_toList]; rfl
theorem toList_at (a : ByteArray) (k : Nat) (h : k < a.size) : a.toList[k]'(by rw [toList_length]; exact h) = a[k] := by
  simp only [ByteArray.toList_eq]
  rfl
theorem SameTo.zero (a b : ByteArray) : SameTo a b 0 := by simp [SameTo]
theorem SameTo.next {a b : ByteArray} {k : Nat} (h : SameTo a b k) (ha : k < a.size) (hb : k < b.size) (e : a[k] = b[k]) : SameTo a b (k + 1) := by
  have ha' : k < a.toList.length := by rw [toList_length]; exact ha
  have hb' : k < b.toList.length := by rw [toList_length]; exact hb
  unfold SameTo at *
  rw [List.take_succ_eq_append_getElem ha', List.take_succ_eq_append_getElem hb', h, toList_at a k ha, toList_at b k hb, e]
theorem SameTo.diff {a b : ByteArray} {k : Nat} (h : SameTo a b k) (ha : k < a.size) (hb : k < b.size) (e : a[k] ≠ b[k]) : ltB a b = decide (a[k].toNat < b[k].toNat) := by
  have ha' : k < a.toList.length := by rw [toList_length]; exact ha
  have hb' : k < b.toList.length := by rw [toList_length]; exact hb
  unfold ltB
  conv => lhs; rw [← List.take_append_drop k a.toList, ← List.take_append_drop k b.toList]
  rw [show a.toList.take k = b.toList.take k from h, less_app, List.drop_eq_getElem_cons ha', List.drop_eq_getElem_cons hb', toList_at a k ha, toList_at b k hb, less_is, Bool.eq_iff_iff]
  simp only [decide_eq_true_eq, List.cons_lt_cons_iff]
  constructor
  · rintro (h | ⟨h, _⟩)
    · exact UInt8.lt_iff_toNat_lt.1 h
    · exact absurd h e
  · intro h; exact .inl (UInt8.lt_iff_toNat_lt.2 h)
theorem SameTo.stop {a b : ByteArray} {k : Nat} (h : SameTo a b k) (hk : k = a.size ∨ k = b.size) (ha : k ≤ a.size) (hb : k ≤ b.size) : ltB a b = decide (a.size < b.size) := by
  unfold ltB
  conv => lhs; rw [← List.take_append_drop k a.toList, ← List.take_append_drop k b.toList]
  rw [show a.toList.take k = b.toList.take k from h, less_app]
  rw [Bool.eq_iff_iff, decide_eq_true_iff]
  by_cases e : k = a.size
  · rw [List.drop_of_length_le (by rw [toList_length]; omega)]
    cases hd : b.toList.drop k with
    | nil =>
      have := congrArg List.length hd
      rw [List.length_drop, toList_length] at this
      simp [Op.bytesLess] at this ⊢
      omega
    | cons x y =>
      have := congrArg List.length hd
      rw [List.length_drop, toList_length] at this
      simp [Op.bytesLess] at this ⊢
      omega
  · have e' : k = b.size := by omega
    rw [List.drop_of_length_le (l := b.toList) (by rw [toList_length]; omega)]
    cases hd : a.toList.drop k with
    | nil => simp [Op.bytesLess]; omega
    | cons x y => simp [Op.bytesLess]; omega

set_option maxRecDepth 100000 in
set_option maxHeartbeats 3200000 in
theorem below_any (a b : ByteArray) (w : World) (ha : a.size ≤ 1048576) (hb : b.size ≤ 1048576) :
    Calls Tryz.prog 46 #[.string a, .string b] w fun e w' => e = .returned (.bool (ltB a b)) ∧ Drawn w w' := by
  go_enter Tryz.func46, Tryz.ntmps46
  go_wp2_with fail
  go_loopw [5] (fun vi wr => ∃ k : Nat, k ≤ a.size ∧ k ≤ b.size ∧ vi = .int .i64 k ∧ SameTo a b k ∧ ∃ q, wr = w.drewN q) (fun vi _ => a.size - (intOf vi).toNat)
  case atStart => exact ⟨0, Nat.zero_le _, Nat.zero_le _, rfl, SameTo.zero a b, 0, rfl⟩
  case round =>
    obtain ⟨k, hka, hkb, rfl, hsame, q, rfl⟩ := hrel
    have HS := Lib.hid hsame
    clear hsame
    by_cases h1 : k < a.size
    · by_cases h2 : k < b.size
      · have HN := Lib.hid (fun (e : a[k] = b[k]) => HS.out.next h1 h2 e)
        have HD := Lib.hid (fun (e : a[k] ≠ b[k]) => HS.out.diff h1 h2 e)
        obtain ⟨x, hx⟩ : ∃ x, a[k] = x := ⟨_, rfl⟩
        obtain ⟨y, hy⟩ : ∃ y, b[k] = y := ⟨_, rfl⟩
        rw [hx, hy] at HN HD
        go_wp2_with fail
        go_quiet (fail)
        by_cases e : x = y
        · have HF := Lib.hid (HN.out e)
          subst e
          clear HN HD
          go_wp2_with fail
          go_roundw
          case rel => exact ⟨k + 1, by omega, by omega, by go_num, HF.out, _, rfl⟩
          case measure => simp [intOf]; omega
        · have HF := Lib.hid (HD.out e)
          have qne : ((x.toNat : Int) != (y.toNat : Int)) = true := by
            rw [bne_iff_ne]
            intro e'
            exact e (UInt8.toNat_inj.1 (by omega))
          clear HN HD
          go_wp2_with fail
          go_quiet (fail)
          go_wp2_with fail
          go_ret
          exact ⟨by rw [HF.out]; rfl, Drawn.n (Drawn.n ⟨q, rfl⟩)⟩
      · have HF := Lib.hid (HS.out.stop (.inr (by omega)) hka hkb)
        go_wp2_with fail
        go_ret
        exact ⟨by rw [HF.out]; simp, q, rfl⟩
    · have HF := Lib.hid (HS.out.stop (.inl (by omega)) hka hkb)
      go_wp2_with fail
      go_ret
      exact ⟨by rw [HF.out]; simp, q, rfl⟩
end Go.Proofs.YtmmkebdaijmpiaaGreat
