/- What impl.GetUint tells at 16 bits. (Printed by gen_getu.py.) -/
import Derived.Test.YtioldikeiiibgaaGreatDoorOU16
import Derived.Test.YtioldikeiiibgaaGreatDoorGUA
namespace Go.Proofs.YtioldikeiiibgaaGreatDoor.U16
open Go.RowKit
set_option linter.unusedVariables false
set_option linter.unusedSimpArgs false

set_option maxRecDepth 100000 in
set_option maxHeartbeats 1600000 in
theorem getUint_any (d : Int) (h0 : 0 ≤ d) (h1 : d ≤ 65535) (v : Value) (l : List ByteArray) (w : World) (hv : Strs w v l) (hl : l.length ≤ 2147483647) (hs : ∀ s ∈ l, s.size ≤ 2147483647) (hE : EnvV w) :
    Calls Tryz.prog 5 #[.int .i64 16, .int .u64 d, v] w fun e w' => ∃ rv xs, e = .returned rv ∧ w'.ownsRow w.heap.size 29 3 rv l.length xs ∧ RowsOf 3 (IU 65535) w' xs l ∧ Below w.heap.size w w' := by
  obtain ⟨va, vc, rfl⟩ := hv.len
  have HV := Lib.hid (fun W (h : Below w.heap.size w W) => hv.later h.block)
  have HE := Lib.hid (fun W (h : Below w.heap.size w W) => hE.later h)
  have HS := Lib.hid hs
  obtain ⟨x, hxd⟩ : ∃ x : Nat, d = x := ⟨d.toNat, by omega⟩
  have C1 := Lib.hid (newFS_any w)
  have C2 : Hid (∀ w1, w1 = w.alloc (.cells (fsC (.map none) (.slice none 0 0) (.map none) (.slice none 0 0)) 79) → Calls Tryz.prog 14 #[ptr w.heap.size, .string X, .int .u16 x, .string ⟨#[]⟩] (w1.alloc (.cells #[ptr w.heap.size] 31)) fun e w' => ∃ P, e = .returned (ptr P) ∧ ∃ G M ofv, OneV w w.heap.size G M P (txtV x) ⟨#[]⟩ false x (.map none) (.slice none 0 0) ofv w' ∧ w'.heap[w1.heap.size]? = some (.cells #[ptr w.heap.size] 31 (0, 0))) := Lib.hid (by
    rintro w1 rfl
    have hbb : Below w.heap.size w ((w.alloc (.cells (fsC (.map none) (.slice none 0 0) (.map none) (.slice none 0 0)) 79)).alloc (.cells #[ptr w.heap.size] 31)) := ((Below.refl _ _).alloc (Nat.le_refl _) _).alloc (by simp) _
    refine (kindF_any w w.heap.size x _ ⟨hbb, heap_past' (by simp) (heap_at _ _ _ rfl), Nat.le_refl _⟩ (by omega) (hE.later hbb)).mono ?_
    rintro e w' ⟨P, rfl, G, M, ofv, h2, k2⟩
    exact ⟨P, rfl, G, M, ofv, h2, (k2.block _ (by simp) (by simp) (by simp)).trans (heap_at _ _ _ rfl)⟩)
  clear hv hE hs
  unfold ptr X at *
  rw [← hxd] at C2
  have HXD := Lib.hid hxd
  clear hxd
  have hwr : IntKind.u16.wrap d = d := by rw [IntKind.wrap_u16]; omega
  go_enter Tryz.func5, Tryz.ntmps5
  go_wp2_with fail
  refine C1.out.mono ?_
  rintro e w1 ⟨rfl, hw1⟩
  have C3 := Lib.hid (C2.out w1 hw1)
  clear hw1 C1 C2
  go_wp2_with fail
  refine C3.out.mono ?_
  rintro e w2 ⟨P, rfl, G, M, ofv, h2, k2⟩
  obtain ⟨F, hF⟩ : ∃ F, F = w.heap.size := ⟨_, rfl⟩
  obtain ⟨bF, hbF⟩ : ∃ bF, bF = w1.heap.size := ⟨_, rfl⟩
  obtain ⟨df, hdf⟩ : ∃ df, df = txtV x := ⟨_, rfl⟩
  obtain ⟨no, hno⟩ : ∃ no : ByteArray, no = ⟨#[]⟩ := ⟨_, rfl⟩
  rw [← hdf, ← hno, ← hF] at h2
  rw [← hF, ← hbF] at k2
  rw [← hF, ← hbF]
  have H2' : Hid (w2.heap[bF]? = some (.cells #[.pointer (some ⟨F, 0, none⟩)] 31 (0, 0)) ∧ ∃ chg s act oav, OneV w F G M P df no chg s act oav ofv w2 ∧ s ≤ 65535 ∧ (chg = false → act = .map none ∧ oav = .slice none 0 0)) := Lib.hid ⟨k2, _, _, _, _, h2, by have := HXD.out; omega, fun _ => ⟨rfl, rfl⟩⟩
  clear h2 k2 C3 hF hbF hdf hno
  go_wp2_with fail
  go_loopw [9, 11, 12, 13, 14, 52] (fun vo _ _ _ _ vi wr => ∃ (k : Nat) (xs : List Value), k ≤ l.length ∧ vi = .int .i64 k ∧ wr.ownsRow w.heap.size 29 3 vo k xs ∧ RowsOf 3 (IU 65535) wr xs (l.take k) ∧ wr.heap[bF]? = some (.cells #[.pointer (some ⟨F, 0, none⟩)] 31 (0, 0)) ∧ ∃ chg s act oav, OneV w F G M P df no chg s act oav ofv wr ∧ s ≤ 65535 ∧ (chg = false → act = .map none ∧ oav = .slice none 0 0)) (fun _ _ _ _ _ vi _ => l.length - (intOf vi).toNat)
  case atStart => exact ⟨0, [], Nat.zero_le _, rfl, World.ownsRow_nil _ _ _ _, RowsOf.nil _ _ _, H2'.out⟩
  case round =>
    obtain ⟨k, xs, hk, rfl, hrow, hrows, hB, chg, s, act, oav, hO, hsM, hc⟩ := hrel
    obtain ⟨ra, rc, rfl⟩ := row_form hrow
    by_cases hlt : k < l.length
    case neg =>
      have ek : k = l.length := by omega
      have HF : Hid (wr.ownsRow w.heap.size 29 3 (.slice ra k rc) l.length xs ∧ RowsOf 3 (IU 65535) wr xs l ∧ Below w.heap.size w wr) := Lib.hid (by
        subst ek
        rw [List.take_length] at hrows
        exact ⟨hrow, hrows, hO.bel⟩)
      clear ek hrow hrows hO hc hB
      go_wp2_with fail
      go_ret
      exact ⟨_, xs, rfl, HF.out⟩
    obtain ⟨tb, tof, rfl, hcl⟩ := (HV.out wr hO.bel).cell (by omega)
    have hck := hcl k hlt
    have hsz := HS.out l[k] (List.getElem_mem hlt)
    clear hcl
    have HT : Hid (l.take (k + 1) = l.take k ++ [l[k]]) := Lib.hid (List.take_succ_eq_append_getElem hlt)
    generalize l[k] = t at *
    have CS := Lib.hid (setX_any wr t hsz (HE.out wr hO.bel) hO hc)
    have cB := cell_of_one hB
    have HBX := Lib.hid hB
    have HROW := Lib.hid hrow
    have HROWS := Lib.hid hrows
    have HO := Lib.hid hO
    clear hrow hrows hO hc hB
    unfold ptr X at CS
    obtain ⟨bad, hbad⟩ : ∃ bad, badV t = bad := ⟨_, rfl⟩
    obtain ⟨y, hy⟩ : ∃ y, valV t = y := ⟨_, rfl⟩
    have hyM : y ≤ 65535 := by rw [← hy]; exact uv_le _ _
    rw [hbad, hy] at CS
    have HIU := Lib.hid (show IU 65535 t [.bool bad, .int .u64 y, .string ⟨#[]⟩] wr by unfold IU; rw [← hbad, ← hy]; rfl)
    clear hbad hy
    go_wp2_with fail
    refine CS.out.mono ?_
    rintro e w4 ⟨er, rfl, her, chg', act', oav', h4, hc4, hf4⟩
    have H4 := Lib.hid h4
    have HC4 := Lib.hid hc4
    have HR4 := Lib.hid (hf4.row HROW.out HO.out.hF HO.out.hG HO.out.hP (by decide) (by decide) (by decide))
    have hB4 : w4.heap[bF]? = some (.cells #[.pointer (some ⟨F, 0, none⟩)] 31 (0, 0)) := (hf4.block _ (lt_of_block HBX.out) (cells_ne HBX.out HO.out.hF (by decide)) (cells_ne HBX.out HO.out.hG (by decide)) (cells_ne HBX.out HO.out.hP (by decide))).trans HBX.out
    have CG := Lib.hid (get_any bF w4 hB4 hyM (HE.out w4 h4.bel) h4)
    have HB4 := Lib.hid hB4
    clear h4 hf4 CS HO HROW hc4 hB4 cB HBX
    obtain ⟨yi, hyi⟩ : ∃ yi : Int, yi = (y : Nat) := ⟨_, rfl⟩
    rw [← hyi] at CG HIU
    clear hyi
    obtain ⟨i0, hi0, hz0, hz1, hz2⟩ := info_parts infoU
    cases bad with
    | true =>
      obtain ⟨t2, p2, rfl⟩ := her
      go_wp2_with fail
      refine CG.out.mono ?_
      rintro e w5 ⟨rfl, hb5⟩
      have H5 := Lib.hid (H4.out.later hb5)
      have HR5 := Lib.hid (row_grow HR4.out hb5)
      have HB5 := Lib.hid ((hb5.block _ (lt_of_block HB4.out)).trans HB4.out)
      clear hb5 CG H4 HR4
      go_wp2_with (at_builtin; refine wpList_append_lies _ (by rfl) _ _ _ (by rfl) w.heap.size 29 i0 _ 3 32 Tryz.underlying26 hi0 hz0 hz1 hz2 rfl (by omega) (.slice ra k rc) k xs (by rfl) (row_grow HR5.out (by (repeat (first | (with_reducible exact Below.refl _ _) | (with_reducible assumption) | ((with_reducible refine Below.alloc ?_ ?_ _); rotate_left; focus ((try simp only [World.size_alloc, size_setCell, World.heap_drewN]); (try omega); done)) | ((with_reducible refine Below.setCell ?_ ?_ _); rotate_left; focus ((try simp only [World.size_alloc, size_setCell, World.heap_drewN]); (try omega); done)) | (with_reducible refine Below.drewN' ?_) | (with_reducible refine Below.drew ?_))))) ⟨w5.heap.size, 0, none⟩ 1 1 [.bool true, .int .u64 yi, .string ⟨#[]⟩] (by rfl) (by rfl) (news_lies (heap_at _ _ _ rfl) (by rfl)) (by simp [Value.oneCell']) (by omega) (by unfold maxLen; omega) (by omega) (by have := H5.out.bel.size; simp only [World.size_alloc]; omega) _ rfl ?_; intro g cap2 w6 hown hgrow hat hlt2)
      have HB : Hid (w6.ownsRow w.heap.size 29 3 (.slice (some ⟨g, 0, none⟩) (k + 1) cap2) (k + 1) (xs ++ [.bool true, .int .u64 yi, .string ⟨#[]⟩]) ∧ RowsOf 3 (IU 65535) w6 (xs ++ [.bool true, .int .u64 yi, .string ⟨#[]⟩]) (l.take (k + 1)) ∧ w6.heap[bF]? = some (.cells #[.pointer (some ⟨F, 0, none⟩)] 31 (0, 0)) ∧ OneV w F G M P df no chg' y act' oav' ofv w6) := Lib.hid (by
        have hb1 : Below w5.heap.size w5 (w5.alloc (.cells #[.bool true, .int .u64 yi, .string ⟨#[]⟩] 29)) := by (repeat (first | (with_reducible exact Below.refl _ _) | (with_reducible assumption) | ((with_reducible refine Below.alloc ?_ ?_ _); rotate_left; focus ((try simp only [World.size_alloc, size_setCell, World.heap_drewN]); (try omega); done)) | ((with_reducible refine Below.setCell ?_ ?_ _); rotate_left; focus ((try simp only [World.size_alloc, size_setCell, World.heap_drewN]); (try omega); done)) | (with_reducible refine Below.drewN' ?_) | (with_reducible refine Below.drew ?_)))
        have h6 := H5.out.later hb1
        have hr6 := row_grow HR5.out hb1
        have hB6 := (hb1.block _ (lt_of_block HB5.out)).trans HB5.out
        refine ⟨hown, ?_, (hgrow.block _ (lt_of_block hB6) (fun q => row_ne hB6 hr6 (by decide) q.symm)).trans hB6, ?_⟩
        · rw [HT.out]
          exact RowsOf.snoc (HROWS.out.later fun _ _ h => h) HIU.out rfl
        · refine ⟨grown_below h6.bel h6.bel.size hr6 hgrow, ?_, ?_, h6.hM.at (hgrow.block _ h6.hM.lt fun q => ?_), ?_, h6.lF, h6.lG, h6.lM, h6.lP, h6.nFG, h6.nFP, h6.nGP⟩
          · exact (hgrow.block _ (lt_of_block h6.hF) (fun q => row_ne h6.hF hr6 (by decide) q.symm)).trans h6.hF
          · exact (hgrow.block _ (lt_of_block h6.hG) (fun q => row_ne h6.hG hr6 (by decide) q.symm)).trans h6.hG
          · obtain ⟨_, c, hc⟩ := ownsRow_cells hr6 q.symm
            exact h6.hM.ne hc rfl
          · exact (hgrow.block _ (lt_of_block h6.hP) (fun q => row_ne h6.hP hr6 (by decide) q.symm)).trans h6.hP)
      clear hown hgrow hat hlt2 HROWS
      go_wp2_with fail
      go_roundw
      case rel => exact ⟨k + 1, _, by omega, by go_num, HB.out.1, HB.out.2.1, HB.out.2.2.1, chg', y, act', oav', HB.out.2.2.2, hyM, HC4.out⟩
      case measure => simp [intOf]; omega
    | false =>
      have her2 : er = .nilIface := her
      subst her2
      clear her
      go_wp2_with fail
      refine CG.out.mono ?_
      rintro e w5 ⟨rfl, hb5⟩
      have H5 := Lib.hid (H4.out.later hb5)
      have HR5 := Lib.hid (row_grow HR4.out hb5)
      have HB5 := Lib.hid ((hb5.block _ (lt_of_block HB4.out)).trans HB4.out)
      clear hb5 CG H4 HR4
      go_wp2_with (at_builtin; refine wpList_append_lies _ (by rfl) _ _ _ (by rfl) w.heap.size 29 i0 _ 3 32 Tryz.underlying26 hi0 hz0 hz1 hz2 rfl (by omega) (.slice ra k rc) k xs (by rfl) (row_grow HR5.out (by (repeat (first | (with_reducible exact Below.refl _ _) | (with_reducible assumption) | ((with_reducible refine Below.alloc ?_ ?_ _); rotate_left; focus ((try simp only [World.size_alloc, size_setCell, World.heap_drewN]); (try omega); done)) | ((with_reducible refine Below.setCell ?_ ?_ _); rotate_left; focus ((try simp only [World.size_alloc, size_setCell, World.heap_drewN]); (try omega); done)) | (with_reducible refine Below.drewN' ?_) | (with_reducible refine Below.drew ?_))))) ⟨w5.heap.size, 0, none⟩ 1 1 [.bool false, .int .u64 yi, .string ⟨#[]⟩] (by rfl) (by rfl) (news_lies (heap_at _ _ _ rfl) (by rfl)) (by simp [Value.oneCell']) (by omega) (by unfold maxLen; omega) (by omega) (by have := H5.out.bel.size; simp only [World.size_alloc]; omega) _ rfl ?_; intro g cap2 w6 hown hgrow hat hlt2)
      have HB : Hid (w6.ownsRow w.heap.size 29 3 (.slice (some ⟨g, 0, none⟩) (k + 1) cap2) (k + 1) (xs ++ [.bool false, .int .u64 yi, .string ⟨#[]⟩]) ∧ RowsOf 3 (IU 65535) w6 (xs ++ [.bool false, .int .u64 yi, .string ⟨#[]⟩]) (l.take (k + 1)) ∧ w6.heap[bF]? = some (.cells #[.pointer (some ⟨F, 0, none⟩)] 31 (0, 0)) ∧ OneV w F G M P df no chg' y act' oav' ofv w6) := Lib.hid (by
        have hb1 : Below w5.heap.size w5 (w5.alloc (.cells #[.bool false, .int .u64 yi, .string ⟨#[]⟩] 29)) := by (repeat (first | (with_reducible exact Below.refl _ _) | (with_reducible assumption) | ((with_reducible refine Below.alloc ?_ ?_ _); rotate_left; focus ((try simp only [World.size_alloc, size_setCell, World.heap_drewN]); (try omega); done)) | ((with_reducible refine Below.setCell ?_ ?_ _); rotate_left; focus ((try simp only [World.size_alloc, size_setCell, World.heap_drewN]); (try omega); done)) | (with_reducible refine Below.drewN' ?_) | (with_reducible refine Below.drew ?_)))
        have h6 := H5.out.later hb1
        have hr6 := row_grow HR5.out hb1
        have hB6 := (hb1.block _ (lt_of_block HB5.out)).trans HB5.out
        refine ⟨hown, ?_, (hgrow.block _ (lt_of_block hB6) (fun q => row_ne hB6 hr6 (by decide) q.symm)).trans hB6, ?_⟩
        · rw [HT.out]
          exact RowsOf.snoc (HROWS.out.later fun _ _ h => h) HIU.out rfl
        · refine ⟨grown_below h6.bel h6.bel.size hr6 hgrow, ?_, ?_, h6.hM.at (hgrow.block _ h6.hM.lt fun q => ?_), ?_, h6.lF, h6.lG, h6.lM, h6.lP, h6.nFG, h6.nFP, h6.nGP⟩
          · exact (hgrow.block _ (lt_of_block h6.hF) (fun q => row_ne h6.hF hr6 (by decide) q.symm)).trans h6.hF
          · exact (hgrow.block _ (lt_of_block h6.hG) (fun q => row_ne h6.hG hr6 (by decide) q.symm)).trans h6.hG
          · obtain ⟨_, c, hc⟩ := ownsRow_cells hr6 q.symm
            exact h6.hM.ne hc rfl
          · exact (hgrow.block _ (lt_of_block h6.hP) (fun q => row_ne h6.hP hr6 (by decide) q.symm)).trans h6.hP)
      clear hown hgrow hat hlt2 HROWS
      go_wp2_with fail
      go_roundw
      case rel => exact ⟨k + 1, _, by omega, by go_num, HB.out.1, HB.out.2.1, HB.out.2.2.1, chg', y, act', oav', HB.out.2.2.2, hyM, HC4.out⟩
      case measure => simp [intOf]; omega
end Go.Proofs.YtioldikeiiibgaaGreatDoor.U16
