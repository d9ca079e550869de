/- What impl.GetText tells, and the law FnGetTexts. -/
import Derived.Test.YtkhjffjdchkobaaOneG
import Derived.Test.YtkhjffjdchkobaaSayM
import Derived.Test.YtkhjffjdchkobaaOpenT
namespace Go.Proofs.Ytkhjffjdchkobaa
open Go.RowKit
set_option linter.unusedVariables false
set_option linter.unusedSimpArgs false

theorem infoTS : (Try.prog.info? 27).map (fun i => (i.zero, i.size, i.bytes)) = some (some (.agg #[.bool false, .string ⟨#[]⟩, .string ⟨#[]⟩]), 3, 40) := by kernel_rfl
/-- What is told of a text. -/
def IT (s : ByteArray) (cs : List Value) (_ : World) : Prop := cs = [.bool false, .string s, .string ⟨#[]⟩]
/-- The cells of a row of structs. -/
theorem rows_at {α : Type} {sz : Nat} {IP : α → List Value → World → Prop} {w : World} {xs : List Value} {os : List α} {base : Nat} {e : TypeId} {a : Option Addr} {n c : Nat} (h : RowsOf sz IP w xs os) (hr : w.ownsRow base e sz (.slice a n c) n xs) (i : Nat) (hi : i < os.length) (hn : n = os.length) (hsz : 0 < sz) :
    ∃ g cs, a = some ⟨g, 0, none⟩ ∧ IP os[i] cs w ∧ ∀ j u, j < sz → cs[j]? = some u → w.cell? ⟨g, i * sz + j, none⟩ = some u := by
  subst hn
  rcases hr.2 with ⟨e, h0⟩ | ⟨g, cap, cur, e, hb, hh, hnc, hcm, hcs, ht⟩
  · omega
  · cases e
    refine ⟨g, _, rfl, h.2 i hi, fun j u hj hu => ?_⟩
    rw [List.getElem?_take, if_pos hj, List.getElem?_drop] at hu
    have hlt : i * sz + j < os.length * sz := by
      have : (i + 1) * sz ≤ os.length * sz := Nat.mul_le_mul_right _ hi
      rw [Nat.add_mul] at this
      omega
    rw [← ht, List.getElem?_take, if_pos hlt, Array.getElem?_toList] at hu
    simp [World.cell?, hh, hu]

set_option maxRecDepth 100000 in
theorem getText_any (df : ByteArray) (v : Value) (l : List ByteArray) (w : World) (hv : Strs w v l) (hl : l.length ≤ 2147483647) :
    Calls Try.prog 5 #[.string df, v] w fun e w' => ∃ rv xs, e = .returned rv ∧ w'.ownsRow w.heap.size 27 3 rv l.length xs ∧ RowsOf 3 IT w' xs l ∧ Below w.heap.size w w' := by
  obtain ⟨va, vc, rfl⟩ := hv.len
  have HV := Lib.hid (fun W (h : Below w.heap.size w W) => hv.later h.block)
  have C1 := Lib.hid (madeT_any df w)
  have C2 := Lib.hid (stringF_any w w.heap.size df (w.alloc (.cells (fsC (.map none) (.slice none 0 0) (.map none) (.slice none 0 0)) 46)) (by (repeat (first | (with_reducible exact Below.refl _ _) | (with_reducible assumption) | ((with_reducible refine Below.alloc ?_ ?_ _); rotate_left; focus ((try simp only [World.size_alloc, size_setCell, World.heap_drewN]); (try omega); done)) | ((with_reducible refine Below.setCell ?_ ?_ _); rotate_left; focus ((try simp only [World.size_alloc, size_setCell, World.heap_drewN]); (try omega); done)) | (with_reducible refine Below.drewN' ?_) | (with_reducible refine Below.drew ?_)))) (heap_at _ _ _ rfl) (Nat.le_refl _))
  clear hv
  unfold ptr X at *
  go_enter Try.func5, Try.ntmps5
  go_wp2_with fail
  refine C1.out.mono ?_
  rintro e w1 ⟨rfl, hw1⟩
  rw [← hw1] at C2
  clear hw1 C1
  go_wp2_with fail
  refine C2.out.mono ?_
  rintro e w2 ⟨P, rfl, G, M, ofv, h2⟩
  have H2 := Lib.hid h2
  obtain ⟨F, hF⟩ : ∃ F, F = w.heap.size := ⟨_, rfl⟩
  rw [← hF] at H2 ⊢
  have H2' : Hid (∃ chg s act oav, OneT w F G M P df chg s act oav ofv w2 ∧ (chg = false → act = .map none ∧ oav = .slice none 0 0)) := Lib.hid ⟨_, _, _, _, H2.out, fun _ => ⟨rfl, rfl⟩⟩
  have HF := Lib.hid hF
  clear h2 C2 hF H2
  go_wp2_with fail
  go_loopw [6, 8, 9, 10, 11, 18] (fun vo _ _ _ _ vi wr => ∃ (k : Nat) (xs : List Value), k ≤ l.length ∧ vi = .int .i64 k ∧ wr.ownsRow w.heap.size 27 3 vo k xs ∧ RowsOf 3 IT wr xs (l.take k) ∧ ∃ chg s act oav, OneT w F G M P df chg s act oav ofv wr ∧ (chg = false → act = .map none ∧ oav = .slice none 0 0)) (fun _ _ _ _ _ vi _ => l.length - (intOf vi).toNat)
  case atStart => exact ⟨0, [], Nat.zero_le _, rfl, World.ownsRow_nil _ _ _ _, RowsOf.nil _ _ _, H2'.out⟩
  case round =>
    obtain ⟨k, xs, hk, rfl, hrow, hrows, chg, s, act, oav, hO, hc⟩ := hrel
    obtain ⟨ra, rc, rfl⟩ := row_form hrow
    by_cases hlt : k < l.length
    case neg =>
      have ek : k = l.length := by omega
      have HE : Hid (wr.ownsRow w.heap.size 27 3 (.slice ra k rc) l.length xs ∧ RowsOf 3 IT wr xs l ∧ Below w.heap.size w wr) := Lib.hid (by
        subst ek
        rw [List.take_length] at hrows
        exact ⟨hrow, hrows, hO.bel⟩)
      clear ek hrow hrows hO hc
      go_wp2_with fail
      go_ret
      exact ⟨_, xs, rfl, HE.out⟩
    obtain ⟨tb, tof, rfl, hcl⟩ := (HV.out wr hO.bel).cell (by omega)
    have hck := hcl k hlt
    clear hcl
    have HT : Hid (l.take (k + 1) = l.take k ++ [l[k]]) := Lib.hid (List.take_succ_eq_append_getElem hlt)
    generalize l[k] = t at *
    have CS := Lib.hid (setS_any wr t hO hc)
    have HROW := Lib.hid hrow
    have HROWS := Lib.hid hrows
    have HO := Lib.hid hO
    clear hrow hrows hO hc
    unfold ptr X at CS
    go_wp2_with fail
    refine CS.out.mono ?_
    rintro e w4 ⟨rfl, act', oav', h4, hf4⟩
    have H4 := Lib.hid h4
    have HR4 := Lib.hid (hf4.row HROW.out HO.out.hF HO.out.hG HO.out.hP (by decide) (by decide) (by decide))
    have CG := Lib.hid (getS_any w4 h4)
    clear h4 hf4 CS HO HROW
    unfold ptr X at CG
    go_wp2_with fail
    refine CG.out.mono ?_
    rintro e w5 ⟨rfl, hb5⟩
    have H5 := Lib.hid (H4.out.later hb5)
    have HR5 := Lib.hid (row_grow HR4.out hb5)
    obtain ⟨i0, hi0, hz0, hz1, hz2⟩ := info_parts infoTS
    clear hb5 CG H4 HR4
    go_wp2_with (at_builtin; refine wpList_append_lies _ (by rfl) _ _ _ (by rfl) w.heap.size 27 i0 _ 3 40 Try.underlying24 hi0 hz0 hz1 hz2 rfl (by omega) (.slice ra k rc) k xs (by rfl) (row_grow HR5.out (by (repeat (first | (with_reducible exact Below.refl _ _) | (with_reducible assumption) | ((with_reducible refine Below.alloc ?_ ?_ _); rotate_left; focus ((try simp only [World.size_alloc, size_setCell, World.heap_drewN]); (try omega); done)) | ((with_reducible refine Below.setCell ?_ ?_ _); rotate_left; focus ((try simp only [World.size_alloc, size_setCell, World.heap_drewN]); (try omega); done)) | (with_reducible refine Below.drewN' ?_) | (with_reducible refine Below.drew ?_))))) ⟨w5.heap.size, 0, none⟩ 1 1 [.bool false, .string t, .string ⟨#[]⟩] (by rfl) (by rfl) (news_lies (heap_at _ _ _ rfl) (by rfl)) (by simp [Value.oneCell']) (by omega) (by unfold maxLen; omega) (by omega) (by have := H5.out.bel.size; simp only [World.size_alloc]; omega) _ rfl ?_; intro g cap2 w6 hown hgrow hat hlt2)
    have HB : Hid (w6.ownsRow w.heap.size 27 3 (.slice (some ⟨g, 0, none⟩) (k + 1) cap2) (k + 1) (xs ++ [.bool false, .string t, .string ⟨#[]⟩]) ∧ RowsOf 3 IT w6 (xs ++ [.bool false, .string t, .string ⟨#[]⟩]) (l.take (k + 1)) ∧ OneT w F G M P df true t act' oav' ofv w6) := Lib.hid (by
      refine ⟨hown, ?_, ?_⟩
      · rw [HT.out]
        exact RowsOf.snoc (HROWS.out.later fun _ _ h => h) rfl rfl
      · have hb1 : Below w5.heap.size w5 (w5.alloc (.cells #[.bool false, .string t, .string ⟨#[]⟩] 27)) := by (repeat (first | (with_reducible exact Below.refl _ _) | (with_reducible assumption) | ((with_reducible refine Below.alloc ?_ ?_ _); rotate_left; focus ((try simp only [World.size_alloc, size_setCell, World.heap_drewN]); (try omega); done)) | ((with_reducible refine Below.setCell ?_ ?_ _); rotate_left; focus ((try simp only [World.size_alloc, size_setCell, World.heap_drewN]); (try omega); done)) | (with_reducible refine Below.drewN' ?_) | (with_reducible refine Below.drew ?_)))
        have h6 := H5.out.later hb1
        have hr6 := row_grow HR5.out hb1
        refine ⟨grown_below h6.bel h6.bel.size hr6 hgrow, ?_, ?_, h6.hM.at (hgrow.block _ h6.hM.lt fun q => ?_), ?_, h6.lF, h6.lG, h6.lM, h6.lP, h6.nFG, h6.nFP, h6.nGP⟩
        · exact (hgrow.block _ (lt_of_block h6.hF) (fun q => row_ne h6.hF hr6 (by decide) q.symm)).trans h6.hF
        · exact (hgrow.block _ (lt_of_block h6.hG) (fun q => row_ne h6.hG hr6 (by decide) q.symm)).trans h6.hG
        · obtain ⟨_, c, hc⟩ := ownsRow_cells hr6 q.symm
          exact h6.hM.ne hc rfl
        · exact (hgrow.block _ (lt_of_block h6.hP) (fun q => row_ne h6.hP hr6 (by decide) q.symm)).trans h6.hP)
    clear hown hgrow hat hlt2 HROWS
    go_wp2_with fail
    go_roundw
    case rel => exact ⟨k + 1, _, by omega, by go_num, HB.out.1, HB.out.2.1, true, t, act', oav', HB.out.2.2, fun h => by cases h⟩
    case measure => simp [intOf]; omega
end Go.Proofs.Ytkhjffjdchkobaa
