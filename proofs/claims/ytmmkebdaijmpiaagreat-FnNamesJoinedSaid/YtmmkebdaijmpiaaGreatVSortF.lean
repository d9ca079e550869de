/- few's sortFlags: the flags of a map of names, by rising names. -/
import Derived.Test.YtmmkebdaijmpiaaGreatVFill
namespace Go.Proofs.YtmmkebdaijmpiaaGreat
open Go.RowKit
set_option linter.unusedVariables false
set_option linter.unusedSimpArgs false

theorem infoFP : (Tryz.prog.info? 80).map (fun i => (i.zero, i.size, i.bytes)) = some (some (.pointer none), 1, 8) := by kernel_rfl
theorem infoStr : (Tryz.prog.info? 9).map (fun i => (i.zero, i.size, i.bytes)) = some (some (.string ⟨#[]⟩), 1, 16) := by kernel_rfl

set_option maxRecDepth 100000 in
set_option maxHeartbeats 3200000 in
theorem sortFlags_any {w : World} {b : Nat} {L : List (ByteArray × Value)} (h : MapIs strKey w b L) (hn : L.length ≤ 1048576) (hv : ∀ x ∈ L, ∃ p, x.2 = .pointer (some ⟨p, 0, none⟩)) :
    Calls Tryz.prog 45 #[.map (some b)] w fun e w' => ∃ g, e = .returned (.slice (some ⟨g, 0, none⟩) L.length L.length) ∧ Below w.heap.size w w' ∧ w.heap.size ≤ g ∧
      w'.ownsRow w.heap.size 80 1 (.slice (some ⟨g, 0, none⟩) L.length L.length) L.length ((srt (L.map (·.1))).map (valOf L)) := by
  have hbl := h.lt
  have hlen := fun ty => run_len_map (P := Tryz.prog) (T := 69) (kt := 99) (et := 80) h (by kernel_rfl) ty
  have hmk := make_full (P := Tryz.prog) w (t := 127) (e := 9) (z := .string ⟨#[]⟩) (bytes := 16) (by kernel_rfl) infoStr rfl L.length (by omega) (by omega)
  have FK := FillK.start (T := 9) (w0 := w) (n := L.length) (Below.refl _ w) rfl
  have hm1 : MapIs strKey (w.alloc (.cells (Array.replicate L.length (.string ⟨#[]⟩)) 9)) b L := h.at (heap_past w _ b hbl)
  have HV := Lib.hid hv
  clear hv
  have HH := Lib.hid h
  clear h
  generalize hNL : L.length = NL at *
  go_enter Tryz.func45, Tryz.ntmps45
  go_wp2_with (at_range; refine wpList_range_rg _ rfl _ 69 rfl 99 80 (by kernel_rfl) b L rfl hm1 ?_; intro o' hrg0)
  rw [World.size_alloc] at hrg0
  have FK0 := FK.keep ((Below.refl _ _).alloc (by simp only [World.size_alloc]; omega) o') (heap_past' (by simp only [World.size_alloc]; omega) rfl)
  clear hmk hlen FK hm1
  go_frame
  rw [World.size_alloc]
  generalize hW : (w.alloc (.cells (Array.replicate NL (.string ⟨#[]⟩)) 9)).alloc o' = W at *
  go_loopw [4] (fun vi wr => ∃ ks : List ByteArray, vi = .int .i64 ks.length ∧ ks.length ≤ NL ∧ Rg wr b (w.heap.size + 1) L ks ∧ FillK 9 w w.heap.size NL ks wr) (fun vi _ => NL - (intOf vi).toNat)
  case atStart => exact ⟨[], rfl, Nat.zero_le _, hrg0, FK0⟩
  case round =>
    obtain ⟨ks, rfl, hkl, hrg, hfk⟩ := hrel
    clear hrg0 FK0 hW
    go_wp2_with (at_next; refine wpList_next_rg _ rfl _ rfl b (w.heap.size + 1) L ks rfl hrg ?_ ?_)
    · intro hp
      have hke : ks.length = NL := by rw [hp.length_eq, List.length_map, hNL]
      have hrow := hfk.full hke
      have CS := strSort_any w.heap.size ks wr hrow (by omega)
      rw [hke] at CS
      have CS := Lib.hid CS
      have HP := Lib.hid (srt_of_perm hp)
      have HFK := Lib.hid hfk.bel
      have HRG := Lib.hid hrg
      have HLK := Lib.hid hke
      clear hrg hfk hrow hp hke
      go_wp2_with fail
      refine CS.out.mono ?_
      rintro e w3 ⟨rfl, hg3, hrow3⟩
      rw [HP.out] at hrow3
      have hb3 : Below w.heap.size w w3 := HFK.out.trans (grownBy_below hg3 (fun k e => by cases e; exact Nat.le_refl _) HFK.out.size)
      have hm3 : MapIs strKey w3 b L := HRG.out.mapIs.at (hg3.block b HRG.out.lt.1 (fun e => by cases e; exact absurd hbl (Nat.lt_irrefl _)))
      have hsl : (srt (L.map (·.1))).length = NL := by rw [srt_length, List.length_map, hNL]
      have HB3 := Lib.hid hb3
      have HM3 := Lib.hid hm3
      have HROW := Lib.hid hrow3
      clear CS HFK HRG hg3 hrow3 hm3 hb3
      have hmk := make_full (P := Tryz.prog) w3 (t := 70) (e := 80) (z := .pointer none) (bytes := 8) (by kernel_rfl) infoFP rfl NL (by omega) (by omega)
      have FL := Fill.start (e := 80) (z := .pointer none) (w0 := w) (l := (srt (L.map (·.1))).map (valOf L)) HB3.out rfl
      rw [List.length_map, hsl] at FL
      have FL := Lib.hid FL
      have HM4 := Lib.hid (HM3.out.at (heap_past w3 (.cells (Array.replicate NL (.pointer none)) 80) b HM3.out.lt))
      have HR4 := Lib.hid (heap_past' (o := .cells (Array.replicate NL (.pointer none)) 80) (lt_of_block HROW.out) HROW.out)
      have HSM := Lib.hid (fun k (hk : k < (srt (L.map (·.1))).length) => (srt_perm (L.map (·.1))).mem_iff.1 (List.getElem_mem hk))
      generalize hS : srt (L.map (·.1)) = S at *
      have HG3 := Lib.hid (show w3.heap.size > w.heap.size from Nat.lt_of_lt_of_le (Nat.lt_of_le_of_lt (Nat.le_refl _) (lt_of_block HROW.out)) (Nat.le_refl _))
      clear HROW HM3 HB3
      go_wp2_with fail
      clear hmk
      generalize hW4 : w3.alloc (.cells (Array.replicate NL (.pointer none)) 80) = W4 at *
      go_loopw [31] (fun vi wr => ∃ k : Nat, k ≤ NL ∧ vi = .int .i64 k ∧ Fill 80 (.pointer none) w w3.heap.size (S.map (valOf L)) k wr ∧ MapIs strKey wr b L ∧ wr.heap[w.heap.size]? = some (.cells (S.map Value.string).toArray 9 (0, 0))) (fun vi _ => NL - (intOf vi).toNat)
      case atStart => exact ⟨0, Nat.zero_le _, rfl, FL.out, HM4.out, HR4.out⟩
      case round =>
        obtain ⟨k, hk, rfl, hfl, hmw, hrw⟩ := hrel
        clear FL HM4 HR4 hW4
        by_cases hlt : k < NL
        case neg =>
          have HK := Lib.hid (show k = NL by omega)
          have HFL := Lib.hid hfl
          clear hfl hmw hrw
          go_wp2_with fail
          go_ret
          refine ⟨_, rfl, HFL.out.bel, Nat.le_of_lt HG3.out, ?_⟩
          have := HFL.out
          rw [HK.out] at this
          have hl : (S.map (valOf L)).length = NL := by rw [List.length_map, hsl]
          have q := Fill.owned (l := S.map (valOf L)) (by rw [hl]; exact this) (by rw [hl]; unfold maxLen; omega) (Nat.le_refl _)
          rw [hl] at q
          rw [hS]
          exact q
        have hks : k < S.length := by omega
        obtain ⟨j, v, hf, hmem⟩ := find_mem S[k] L 0 (HSM.out k hks)
        obtain ⟨p, hp⟩ := HV.out _ hmem
        simp only at hp
        subst hp
        have c1 := cell_of hrw k (.string S[k]) (by simp [hks])
        have hl : (S.map (valOf L)).length = NL := by rw [List.length_map, hsl]
        have c2 := hfl.cell (by omega)
        have z2 := frozen_of hfl.row k
        have l2 := lt_of_block hfl.row
        have hlk := run_lookup_map (P := Tryz.prog) (T := 69) (kt := 99) (et := 80) (z := .pointer none) hmw (by kernel_rfl) (by kernel_rfl) (by kernel_rfl) S[k] false
        rw [hf] at hlk
        simp only [lookedUp, Bool.false_eq_true, if_false] at hlk
        have hlk : (Instr.lookup 69 (.map (some b)) (.string S[k]) false).run Tryz.prog wr = .ok (.pointer (some ⟨p, 0, none⟩)) wr := hlk
        have HN := Lib.hid (hfl.next (by omega) (v := .pointer (some ⟨p, 0, none⟩)) (by
          rw [List.getElem_map, valOf, hf]))
        have hne : b ≠ w3.heap.size := by have := HG3.out; omega
        have HMn := Lib.hid (hmw.at (heap_ne wr ⟨w3.heap.size, k, none⟩ (.pointer (some ⟨p, 0, none⟩)) b hne))
        have HRn := Lib.hid (heap_ne' (v := .pointer (some ⟨p, 0, none⟩)) (a := ⟨w3.heap.size, k, none⟩) (show w.heap.size ≠ w3.heap.size by have := HG3.out; omega) hrw)
        clear hfl hmw hrw hf hmem
        generalize S[k] = s at *
        go_wp2_with fail
        go_roundw
        case rel => exact ⟨k + 1, by omega, by go_num, HN.out, HMn.out, HRn.out⟩
        case measure => simp [intOf]; omega
    · intro k v w2 hlt hrg2 hsz2 hne2 hbel2 hen
      have hfk2 := hfk.keep (hbel2 w.heap.size (by omega)) (hne2 w.heap.size (by omega))
      have l2 := lt_of_block hfk2.row
      have c2 := hfk2.cell (by omega)
      have z2 := frozen_of hfk2.row ks.length
      have HN := Lib.hid (hfk2.next (by omega) k)
      have HR := Lib.hid (hrg2.keep (w' := w2.setCell ⟨w.heap.size, ks.length, none⟩ (.string k)) (heap_ne _ _ _ _ (by show b ≠ w.heap.size; omega)) (heap_ne _ _ _ _ (by show w.heap.size + 1 ≠ w.heap.size; omega)))
      have HLL := Lib.hid (show (ks ++ [k]).length = ks.length + 1 by simp)
      clear hrg hfk hrg2 hfk2 hsz2 hne2 hbel2
      generalize hkl' : ks.length = kl at *
      go_wp2_with fail
      go_roundw
      case rel => exact ⟨ks ++ [k], by rw [HLL.out]; go_num, by rw [HLL.out]; omega, HR.out, HN.out⟩
      case measure => simp [intOf]; omega
end Go.Proofs.YtmmkebdaijmpiaaGreat
