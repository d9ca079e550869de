/- strconv.FormatUint at base 10: the digits of a number. -/
import Derived.Test.YtioldikeiiibgaaGreatDoorH
import Derived.Test.YtioldikeiiibgaaGreatDoorShelfU
import Derived.Shelf.Strconv.AppendUint10
import Derived.Shelf.Strconv.Itoa4
namespace Go.Proofs.YtioldikeiiibgaaGreatDoor
open Go.RowKit Go.Sort Go.Lib
set_option linter.unusedVariables false
set_option linter.unusedSimpArgs false

/-- The table of powers of ten lies as its text lays it. -/
def Tab (w : World) : Prop := Lib.TabIs Tryz.prog w "internal/strconv.uint64pow10" .u64 Lib.pow10Tab
theorem Tab.later {w w' : World} (h : Tab w) (hb : Below w.heap.size w w') : Tab w' := by
  have hg : Tryz.prog.globalNamed "internal/strconv.uint64pow10" = some 2 := by kernel_rfl
  unfold Tab Lib.TabIs World.var? at h ⊢
  rw [hg] at h ⊢
  simp only [Option.bind_some] at h ⊢
  have hlt : 2 < w.heap.size := by
    rcases Nat.lt_or_ge 2 w.heap.size with h' | h'
    · exact h'
    · simp [Array.getElem?_eq_none h'] at h
  rw [hb.block _ hlt]
  exact h
def numS (u : Nat) : ByteArray := ⟨(Lib.decDigits u).toArray⟩

set_option maxHeartbeats 6400000 in
set_option maxRecDepth 100000 in
theorem fmtU_inner (u : Nat) (hu64 : u < 18446744073709551616) (w : World) (htab : Tab w) :
    Calls Tryz.prog 69 #[.int .u64 u, .int .i64 10] w fun e w' => e = .returned (.string (numS u)) ∧ Below w.heap.size w w' := by
  by_cases hs : u < 100
  · have C := Lib.hid (fun W => Any.internal_strconv_small { lays245 with } u hs W)
    have d0 : decide ((u : Int) < 100) = true := decide_eq_true (by omega)
    go_enter Tryz.func69, Tryz.ntmps69
    go_wp2_with (go_at_call 79; refine (C.out _).mono ?_; rintro e w' ⟨rfl, rfl⟩)
    go_ret
    exact ⟨rfl, Below.refl _ _⟩
  · have hu1 : 1 ≤ u := by omega
    have d0 : decide ((u : Int) < 100) = false := decide_eq_false (by omega)
    have hnd20 : Lib.nDigits u ≤ 20 := by have := Lib.numDigits_eq u hu1 hu64; split at this <;> omega
    have hal : Tryz.prog.arrayLen 138 = 24 := by simp [Program.arrayLen, Tryz.underlying138]
    have hsl : ∀ W, (Instr.sliceAt 138 (.pointer (some ⟨w.heap.size, 0, none⟩)) none (some (.int .i64 (Lib.nDigits u : Int))) none).run Tryz.prog W = .ok (.slice (some ⟨w.heap.size, 0, none⟩) (Lib.nDigits u) 24) W := fun W => by
      rw [run_sliceAt_array_h W 138 ⟨w.heap.size, 0, none⟩ (by simp [Program.arrayLen, Program.elem, Tryz.underlying138]) .i64 (Lib.nDigits u : Int) (by omega) (by rw [hal]; omega)]
      go_simp
    have hH0 := Lib.holds_zero0 w 138 (Lib.nDigits u) (by omega)
    have hfmt := Any.internal_strconv_formatBase10 { lays245 with } w.heap.size 0 24 u (Array.replicate (Lib.nDigits u) 0) (w.alloc (.cells Lib.zeros24 138)) hH0 (by rw [Array.size_replicate]; exact Lib.lt_pow_nDigits u) hu64 (by rw [Array.size_replicate]; omega)
    rw [Array.size_replicate] at hfmt
    have HH0 := Lib.hid hH0
    have HFM := Lib.hid hfmt
    have C := Lib.hid (fun W (h : Lib.TabIs Tryz.prog W "internal/strconv.uint64pow10" .u64 Lib.pow10Tab) => Any.internal_strconv_numDigits { lays245 with } u hu1 hu64 W h)
    have HT := Lib.hid (Lib.tabIs_alloc htab (.cells Lib.zeros24 138))
    clear hH0 hal hfmt htab hs
    go_enter Tryz.func69, Tryz.ntmps69
    go_wp2_with (go_at_call 80; refine (C.out _ HT.out).mono ?_; rintro e w' ⟨rfl, rfl⟩)
    go_at_call 81
    refine HFM.out.mono ?_
    rintro e w' ⟨rfl, k, v', dk, rfl, hF⟩
    have hcv : (convert 132 9 (.slice (some ⟨w.heap.size, 0, none⟩) (Lib.nDigits u) 24)).run Tryz.prog ((putRow (fun (b : UInt8) => Value.int .u8 (b.toNat : Int)) (w.alloc (.cells Lib.zeros24 138)) w.heap.size 0 dk).drewN k) = .ok (.string ⟨(Lib.decDigits u).toArray⟩) ((putRow (fun (b : UInt8) => Value.int .u8 (b.toNat : Int)) (w.alloc (.cells Lib.zeros24 138)) w.heap.size 0 dk).drewN k) := by
      have h := run_convert_bytes_back (P := Tryz.prog) ((putRow (fun (b : UInt8) => Value.int .u8 (b.toNat : Int)) (w.alloc (.cells Lib.zeros24 138)) w.heap.size 0 dk).drewN k) 132 9 5 ⟨w.heap.size, 0, none⟩ 24 (Lib.decDigits u) Tryz.underlying132 Tryz.underlying5 Tryz.underlying9 (fun j hj => by
        rw [Lib.row_is_numeral hF j hj, Lib.add_plain, World.cell?_drewN]
        exact cell?_putRow (fun (b : UInt8) => Value.int .u8 (b.toNat : Int)) _ w.heap.size 0 _ dk HH0.out (by rw [hF.size, Array.size_replicate]) j (by rw [hF.size]; rw [Lib.decDigits_length] at hj; exact hj))
      rw [Lib.decDigits_length] at h
      exact h
    have HB : Hid (Below w.heap.size w ((putRow (fun (b : UInt8) => Value.int .u8 (b.toNat : Int)) (w.alloc (.cells Lib.zeros24 138)) w.heap.size 0 dk).drewN k)) := Lib.hid (by
      obtain ⟨os, eo⟩ := Lib.fin_at w (.cells Lib.zeros24 138) dk k 0
      rw [eo]
      exact Lib.below_grow w.heap.size w (Nat.le_refl _) k os)
    go_wp2
    go_ret
    exact ⟨rfl, HB.out⟩
theorem fmtU_any (u : Nat) (hu64 : u < 18446744073709551616) (w : World) (htab : Tab w) :
    Calls Tryz.prog 53 #[.int .u64 u, .int .i64 10] w fun e w' => e = .returned (.string (numS u)) ∧ Below w.heap.size w w' := by
  have C := Lib.hid (fmtU_inner u hu64 w htab)
  clear htab
  go_enter Tryz.func53, Tryz.ntmps53
  go_wp2_with fail
  refine C.out.mono ?_
  rintro e w2 ⟨rfl, hb⟩
  have HB := Lib.hid hb
  clear hb
  go_wp2_with fail
  go_ret
  exact ⟨rfl, HB.out⟩
end Go.Proofs.YtioldikeiiibgaaGreatDoor
