/- The reference's All, and what it tells of a flag. -/
import Derived.Test.YtmmkebdaijmpiaaGreatVVisits
import Derived.Test.YtmmkebdaijmpiaaGreatJTurned
namespace Go.Proofs.YtmmkebdaijmpiaaGreat
open Go.RowKit
set_option linter.unusedVariables false
set_option linter.unusedSimpArgs false

set_option maxRecDepth 100000 in
set_option maxHeartbeats 3200000 in
theorem all_any {w0 w : World} {N : Nat} {pl : Bool} {fv sv : Value} {l : List NFlag} (hn : NSet w0 N fv pl sv l w) (hl : l.length ≤ 1000) :
    Calls Tryz.prog 22 #[.pointer (some ⟨N, 0, none⟩)] w fun e w' => ∃ rv, e = .returned rv ∧ Below w.heap.size w w' ∧ w'.ownsRow w.heap.size 3 1 rv l.length (intsV (List.range l.length)) := by
  obtain ⟨i0, hi0, hz0, hz1, hz2⟩ := info_parts infoInt
  obtain ⟨a, c, rfl⟩ := hn.form
  have c2 := cell_of hn.hN 2 (.slice a l.length c) rfl
  clear hn
  generalize hNL : l.length = NL at *
  go_enter Tryz.func22, Tryz.ntmps22
  go_wp2_with fail
  go_loopw [3, 10] (fun v3 vi wr => ∃ k : Nat, k ≤ NL ∧ vi = .int .i64 k ∧ Below w.heap.size w wr ∧ wr.ownsRow w.heap.size 3 1 v3 k (intsV (List.range k))) (fun _ vi _ => NL - (intOf vi).toNat)
  case atStart => exact ⟨0, Nat.zero_le _, rfl, Below.refl _ _, World.ownsRow_nil _ _ _ _⟩
  case round =>
    obtain ⟨k, hk, rfl, hb, hr⟩ := hrel
    obtain ⟨oa, oc, rfl⟩ := row_form hr
    have HB := Lib.hid hb
    have HR := Lib.hid hr
    clear hb
    by_cases hlt : k < NL
    case neg =>
      have HK : Hid (k = NL) := Lib.hid (by omega)
      clear hr
      go_wp2_with fail
      go_ret
      exact ⟨_, rfl, HB.out, by have := HR.out; rw [HK.out] at *; exact this⟩
    have hs0 := HB.out.size
    have HT : Hid (intsV (List.range (k + 1)) = intsV (List.range k) ++ [.int .i64 (k : Int)]) := Lib.hid (by rw [List.range_succ]; simp [intsV])
    go_wp2_with (
      at_builtin
      refine wpList_append_lies _ (by rfl) _ _ _ (by rfl) w.heap.size 3 i0 _ 1 8 Tryz.underlying39 hi0 hz0 hz1 hz2 rfl (by omega) (.slice oa k oc) k (intsV (List.range k)) (by rfl) (hr.alloc _)
        ⟨wr.heap.size, 0, none⟩ 1 1 [.int .i64 (k : Int)] (by rfl) (by rfl) (World.news_of_block (cs := #[.int .i64 (k : Int)]) (t := 3) (fr := (0, 0)) (heap_alloc_new wr _)) (by simp [Value.oneCell'])
        (by omega) (by unfold maxLen; omega) (by omega) (by simp only [World.size_alloc]; exact Nat.le_succ_of_le hs0) (wr.heap.size + 1) (by simp only [World.size_alloc]) ?_
      intro gg cap5 w5 hown1 hgrow hat hlt5
      have HB5 := Lib.hid (grown_below (HB.out.alloc hs0 _) (by simp only [World.size_alloc]; exact Nat.le_succ_of_le hs0) (hr.alloc _) hgrow)
      have HO5 := Lib.hid hown1)
    clear hown1 hgrow hat hlt5 hr
    go_roundw
    case rel => exact ⟨k + 1, by omega, by go_num, HB5.out, by rw [HT.out]; exact HO5.out⟩
    case measure => simp [intOf]; omega

set_option maxRecDepth 100000 in
set_option maxHeartbeats 3200000 in
theorem told_note_any {w0 w : World} {N : Nat} {pl : Bool} {fv sv : Value} {l : List NFlag} (hn : NSet w0 N fv pl sv l w) (i : Nat) (hi : i < l.length) (hc : l[i].chg = false) :
    Calls Tryz.prog 18 #[.pointer (some ⟨N, 0, none⟩), .int .i64 (i : Int)] w fun e w' => e = .returned (.agg (noteA l[i].d.nm l[i].d.sh l[i].val)) ∧ Below w.heap.size w w' := by
  obtain ⟨a, c, rfl⟩ := hn.form
  obtain ⟨g, rfl, hat⟩ := hn.at i hi
  have c2 := cell_of hn.hN 2 (.slice (some ⟨g, 0, none⟩) l.length c) rfl
  have lN := lt_of_block hn.hN
  clear hn
  generalize hx : l[i] = x at *
  obtain ⟨⟨nm, sh, k, on, n, tx⟩, val, chg⟩ := x
  simp only at hc
  subst hc
  have b0 := hat 0 (.string nm) (by omega) rfl
  rw [Nat.add_zero] at b0
  have b1 := hat 1 (.string sh) (by omega) rfl
  have b2 := hat 2 (.int .i64 k) (by omega) rfl
  have b3 := hat 3 (.bool on) (by omega) rfl
  have b4 := hat 4 (.int .i64 n) (by omega) rfl
  have b5 := hat 5 (.string tx) (by omega) rfl
  have b6 := hat 6 (.string nm) (by omega) rfl
  have b7 := hat 7 (.string val) (by omega) rfl
  have b8 := hat 8 (.bool false) (by omega) rfl
  have b9 := hat 9 (.bool false) (by omega) rfl
  have b10 := hat 10 (.bool false) (by omega) rfl
  have lg := lt_of_cell b0
  have q0 : ¬ ((i : Int) < 0) := by omega
  clear hat hx
  unfold noteA
  simp only
  go_enter Tryz.func18, Tryz.ntmps18
  go_wp2_with fail
  refine bodyPost_ret (results_cell_row rfl _ _ w.heap.size _ _ (0, 0) _ rfl (heap_past' (by simp only [World.size_alloc]; omega) (heap_at _ _ _ rfl)) Tryz.underlying32 rfl (by kernel_rfl)) rfl ⟨rfl, ?_⟩
  exact ((Below.refl _ _).alloc (Nat.le_refl _) _).alloc (by simp only [World.size_alloc]; omega) _
end Go.Proofs.YtmmkebdaijmpiaaGreat
