/- Texts whose signs ahead are let go: a loop over the letters of a text. -/
import Derived.Test.YtfeijmoncadkiaaDoorH
import Derived.Laws.RangeString
import Derived.Laws.RangeAny
import Derived.Laws.Runes
import Derived.LoopTactic
namespace Go.Proofs.YtfeijmoncadkiaaDoor
open Go.RowKit
set_option linter.unusedVariables false
set_option linter.unusedSimpArgs false

/-- Whether a letter is a plus. -/
theorem inPlus_any (c : Int) (w : World) : Calls Tryd.prog 63 #[.int .i32 c, .string ⟨#[43]⟩] w fun e w' => e = .returned (.bool (c == 43)) ∧ Below w.heap.size w w' := by
  go_enter Tryd.func63, Tryd.ntmps63
  go_wp2
  go_loopw [] (fun w' => ∃ pos, w' = w.iter ⟨#[43]⟩ pos ∧ (pos = 0 ∨ (pos = 1 ∧ (c == 43) = false))) (fun w' => 1 - w'.iterPos w.heap.size)
  case atStart => exact ⟨0, rfl, .inl rfl⟩
  case round =>
    obtain ⟨pos, rfl, rfl | ⟨rfl, hc⟩⟩ := hrel
    · have hnx : ∀ ty, (Instr.next (.pointer (some ⟨w.heap.size, 0, none⟩)) true ty).run Tryd.prog (w.iter ⟨#[43]⟩ 0) = .ok (.tuple #[.bool true, .int .i64 0, .int .i32 43]) (w.iter ⟨#[43]⟩ 1) := fun ty => run_next_ascii w ⟨#[43]⟩ 0 ty (by decide) (by decide)
      by_cases h : (c == 43) = true
      · go_wp2
        go_ret
        exact ⟨by rw [h]; rfl, (Below.refl _ _).alloc (Nat.le_refl _) _⟩
      · have h' : (c == 43) = false := by simpa using h
        clear h
        go_wp2
        go_roundw
        case rel => exact ⟨1, rfl, .inr ⟨rfl, h'⟩⟩
        case measure => simp
    · have hnx : ∀ ty, (Instr.next (.pointer (some ⟨w.heap.size, 0, none⟩)) true ty).run Tryd.prog (w.iter ⟨#[43]⟩ 1) = .ok (.tuple #[.bool false]) (w.iter ⟨#[43]⟩ 1) := fun ty => run_next_end w ⟨#[43]⟩ 1 ty (by decide)
      go_wp2
      go_ret
      exact ⟨by rw [hc]; rfl, (Below.refl _ _).alloc (Nat.le_refl _) _⟩

/-- What is left behind the pluses ahead. -/
def trimL (s : ByteArray) : Nat → Nat → ByteArray
  | 0, _ => ⟨#[]⟩
  | n + 1, pos => if pos < s.size then (if ((Utf8.decode s pos).1 : Int) = 43 then trimL s n (pos + (Utf8.decode s pos).2) else s.extract pos s.size) else ⟨#[]⟩
def trimP (s : ByteArray) : ByteArray := trimL s (s.size + 1) 0
theorem trimL_size (s : ByteArray) : ∀ n pos, (trimL s n pos).size ≤ s.size
  | 0, _ => Nat.zero_le _
  | n + 1, pos => by
    unfold trimL
    split
    · split
      · exact trimL_size s n _
      · rw [ByteArray.size_extract]; omega
    · exact Nat.zero_le _
theorem width_pos (s : ByteArray) (pos : Nat) (h : pos < s.size) : 1 ≤ (Utf8.decode s pos).2 := by
  by_cases ha : (s[pos]'h).toNat < 128
  · rw [decode_ascii s pos h ha]
    exact Nat.le_refl _
  · exact (decode_high s pos h (by omega)).2
/-- A world whose iterator is moved. -/
def moved (w : World) (b : Nat) (s : ByteArray) (pos : Nat) : World := { w with heap := w.heap.setIfInBounds b (.stringIter s pos) }
theorem moved_heap {w : World} {b : Nat} {s : ByteArray} {p : Nat} {o : Obj} (h : w.heap[b]? = some o) : (moved w b s p).heap[b]? = some (.stringIter s p) := by
  have hlt : b < w.heap.size := by
    by_cases h' : b < w.heap.size
    · exact h'
    · simp [Array.getElem?_eq_none (by omega : w.heap.size ≤ b)] at h
  show (w.heap.setIfInBounds b _)[b]? = _
  simp [hlt]
theorem moved_below {B : Nat} {a w : World} {b : Nat} {s : ByteArray} {p : Nat} (h : Below B a w) (hb : B ≤ b) : Below B a (moved w b s p) := by
  refine ⟨h.os, h.tape, h.output, ?_, ?_⟩
  · show _ ≤ (w.heap.setIfInBounds b _).size
    rw [Array.size_setIfInBounds]
    exact h.size
  · intro k hk
    show (w.heap.setIfInBounds b _)[k]? = _
    rw [Array.getElem?_setIfInBounds_ne (by omega)]
    exact h.block k hk
theorem run_next_at {P : Program} (w : World) (b : Nat) (s : ByteArray) (pos : Nat) (ty : TypeId) (hb : w.heap[b]? = some (.stringIter s pos)) (h : pos < s.size) :
    (Instr.next (.pointer (some ⟨b, 0, none⟩)) true ty).run P w =
      .ok (.tuple #[.bool true, .int .i64 pos, .int .i32 (Utf8.decode s pos).1]) (moved w b s (pos + (Utf8.decode s pos).2)) := by
  simp only [Instr.next, getObj, setObj, Sem.run_bind, Sem.run, hb, Result.andThen, h, if_true]
  simp [goInt, Sem.run, moved, hb]
theorem run_next_over {P : Program} (w : World) (b : Nat) (s : ByteArray) (pos : Nat) (ty : TypeId) (hb : w.heap[b]? = some (.stringIter s pos)) (h : ¬ pos < s.size) :
    (Instr.next (.pointer (some ⟨b, 0, none⟩)) true ty).run P w = .ok (.tuple #[.bool false]) w := by
  simp [Instr.next, getObj, Sem.run, hb, h]
theorem iterPos_of {w : World} {b : Nat} {s : ByteArray} {p : Nat} (h : w.heap[b]? = some (.stringIter s p)) : w.iterPos b = p := by
  simp [World.iterPos, h]

theorem trimP_any (s : ByteArray) (hs : s.size ≤ 2147483647) (w : World) : Calls Tryd.prog 56 #[.string s, .string ⟨#[43]⟩] w fun e w' => e = .returned (.string (trimP s)) ∧ Below w.heap.size w w' := by
  have C := Lib.hid (fun (c : Int) (W : World) => inPlus_any c W)
  obtain ⟨B, hB⟩ : ∃ B, B = w.heap.size := ⟨_, rfl⟩
  have HB := Lib.hid hB
  clear hB
  go_enter Tryd.func56, Tryd.ntmps56
  go_wp2
  go_loopw [] (fun wr => ∃ pos n, wr.heap[w.heap.size]? = some (.stringIter s pos) ∧ Below w.heap.size w wr ∧ s.size < pos + n ∧ trimL s n pos = trimP s) (fun wr => s.size - wr.iterPos w.heap.size)
  case atStart => exact ⟨0, s.size + 1, World.iter_heap _ _ _, (Below.refl _ _).alloc (Nat.le_refl _) _, by omega, rfl⟩
  case round =>
    obtain ⟨pos, n, hh, hbl, hn, hr⟩ := hrel
    have HBL := Lib.hid hbl
    have HR := Lib.hid hr
    have HIP := Lib.hid (iterPos_of hh)
    clear hbl hr
    by_cases hp : pos < s.size
    case neg =>
      have hnx : ∀ ty, (Instr.next (.pointer (some ⟨w.heap.size, 0, none⟩)) true ty).run Tryd.prog wr = _ := fun ty => run_next_over wr _ s pos ty hh hp
      go_wp2_with fail
      go_ret
      refine ⟨?_, HBL.out⟩
      have := HR.out
      cases n with
      | zero => rw [← this]; rfl
      | succ n =>
        rw [trimL, if_neg hp] at this
        rw [← this]
        rfl
    have hnx : ∀ ty, (Instr.next (.pointer (some ⟨w.heap.size, 0, none⟩)) true ty).run Tryd.prog wr = _ := fun ty => run_next_at wr _ s pos ty hh hp
    have hm := moved_heap (s := s) (p := pos + (Utf8.decode s pos).2) hh
    have HBM := Lib.hid (moved_below (b := w.heap.size) (s := s) (p := pos + (Utf8.decode s pos).2) HBL.out (Nat.le_refl _))
    have HW := Lib.hid (width_pos s pos hp)
    obtain ⟨c, hc⟩ : ∃ c : Int, c = (Utf8.decode s pos).1 := ⟨_, rfl⟩
    obtain ⟨wd, hwd⟩ : ∃ c : Nat, c = (Utf8.decode s pos).2 := ⟨_, rfl⟩
    rw [← hc, ← hwd] at hnx
    rw [← hwd] at hm HBM HW
    have HC := Lib.hid hc
    have HWD := Lib.hid hwd
    generalize moved wr w.heap.size s (pos + wd) = wm at *
    have HM := Lib.hid hm
    clear hc hwd hh hm
    have hle : pos ≤ s.size := by omega
    go_wp2_with fail
    refine (C.out _ _).mono ?_
    rintro e w2 ⟨rfl, hb2⟩
    have HB2 := Lib.hid (HBM.out.trans (hb2.mono HBM.out.size))
    have HH2 : Hid (w2.heap[w.heap.size]? = some (.stringIter s (pos + wd))) := Lib.hid (by
      have := hb2.block w.heap.size (by
        by_cases h' : w.heap.size < wm.heap.size
        · exact h'
        · have := HM.out
          simp [Array.getElem?_eq_none (by omega : wm.heap.size ≤ w.heap.size)] at this)
      rw [this]
      exact HM.out)
    clear hb2
    by_cases h43 : (c == 43) = true
    · go_wp2_with fail
      go_roundw
      case rel =>
        cases n with
        | zero => omega
        | succ n =>
          refine ⟨pos + wd, n, HH2.out, HB2.out, by have := HW.out; omega, ?_⟩
          have := HR.out
          rw [trimL, if_pos hp, if_pos (by rw [← HC.out]; simpa using h43), ← HWD.out] at this
          exact this
      case measure =>
        rw [iterPos_of HH2.out, HIP.out]
        have := HW.out
        omega
    · have h43' : (c == 43) = false := by simpa using h43
      clear h43
      go_wp2_with fail
      go_ret
      refine ⟨?_, HB2.out⟩
      have := HR.out
      cases n with
      | zero => omega
      | succ n =>
        rw [trimL, if_pos hp, if_neg (by rw [← HC.out]; simpa using h43')] at this
        rw [← this]
        rfl
end Go.Proofs.YtfeijmoncadkiaaDoor
