/- The reference's Add where a flag can be added: what stays. (Printed by gen_jaddk.py.) -/
import Derived.Test.YtmmkebdaijmpiaaGreatNAddS
namespace Go.Proofs.YtmmkebdaijmpiaaGreat
open Go.RowKit
set_option linter.unusedVariables false
set_option linter.unusedSimpArgs false

set_option maxRecDepth 100000 in
set_option maxHeartbeats 3200000 in
theorem addK_any {w0 w : World} {N : Nat} {fv sv : Value} {pl : Bool} {l : List NFlag} (h : NSet w0 N fv pl sv l w) (x : NFlag) (hl : l.length ≤ 1048576) (hs : x.d.sh.size ≤ 2147483647) (ok : okS x l) :
    Calls Tryz.prog 33 #[.pointer (some ⟨N, 0, none⟩), .agg x.cells.toArray] w fun e w' => e = .returned (.bool true) ∧ ∃ fv', NSet w0 N fv' pl sv (l ++ [x]) w' ∧ (∀ R, fv'.ownBlock = some R → fv.ownBlock = some R ∨ w.heap.size ≤ R) ∧ ∀ b o, w.heap[b]? = some o → b ≠ N → some b ≠ fv.ownBlock → w'.heap[b]? = some o := by
  obtain ⟨⟨nm, sh, k, on, n, tx⟩, val, chg⟩ := x
  simp only [NFlag.cells, DefD.cells, List.cons_append, List.nil_append] at *
  unfold okS at ok
  simp only at ok
  have h1 := h.later ((Below.refl _ _).alloc (Nat.le_refl _) (.cells #[.string nm, .string sh, .int .i64 k, .bool on, .int .i64 n, .string tx, .string nm, .string val, .bool chg, .bool false, .bool false] 62))
  have CF := Lib.hid (find_any h1 nm (by omega))
  have CS := Lib.hid (short_any h1 sh (by omega))
  have HN := Lib.hid h1
  have HOB : Hid (fv.ownBlock ≠ some w.heap.size) := Lib.hid (fun e => by
    obtain ⟨_, c, hc⟩ := ownsRow_cells h.row e
    have := lt_of_block hc
    omega)
  clear h h1
  obtain ⟨k1, k2, k3⟩ := ok
  have HSZ := Lib.hid (World.size_alloc w (.cells #[.string nm, .string sh, .int .i64 k, .bool on, .int .i64 n, .string tx, .string nm, .string val, .bool chg, .bool false, .bool false] 62))
  rcases idx_or (fun x => x.d.nm = nm) l with ⟨e1, n1⟩ | ⟨i1, hi1, e1, n1⟩
  case inr => exact absurd n1 (k1 _ (List.getElem_mem hi1))
  rw [e1] at CF
  clear e1
  have hs1 : ¬ 1 < sh.size := by omega
  have q1 : ¬ (1 : Int) < (sh.size : Int) := by omega
  rcases idx_or (fun x => x.d.sh = sh ∧ sh.size ≠ 0) l with ⟨e2, n2⟩ | ⟨i2, hi2, e2, n2⟩
  case inr => exact absurd n2 (k3 _ (List.getElem_mem hi2))
  rw [e2] at CS
  clear e2
  clear n1 n2 k1 k2 k3
  go_enter Tryz.func33, Tryz.ntmps33
  go_wp2_with fail
  refine CF.out.mono ?_
  rintro e w1 ⟨rfl, rfl⟩
  go_wp2_with fail
  refine CS.out.mono ?_
  rintro e w1 ⟨rfl, rfl⟩
  go_upto_region 3 with fail
  have HC : Hid ((w.alloc (.cells #[.string nm, .string sh, .int .i64 k, .bool on, .int .i64 n, .string tx, .string nm, .string val, .bool chg, .bool false, .bool false] 62)).heap[w.heap.size]? = some (.cells #[.string nm, .string sh, .int .i64 k, .bool on, .int .i64 n, .string tx, .string nm, .string val, .bool chg, .bool false, .bool false] 62 (0, 0))) := Lib.hid (heap_at _ _ _ rfl)
  have HLB : Hid (w0.heap.size ≤ w.heap.size ∧ fv.ownBlock ≠ some w.heap.size) := Lib.hid ⟨Nat.le_trans HN.out.lN (by have := lt_of_block HN.out.hN; simp only [World.size_alloc] at this; omega), HOB.out⟩
  have HWB : Hid (Below w.heap.size w (w.alloc (.cells #[.string nm, .string sh, .int .i64 k, .bool on, .int .i64 n, .string tx, .string nm, .string val, .bool chg, .bool false, .bool false] 62)) ∧ w.heap.size ≤ w.heap.size) := Lib.hid ⟨(Below.refl _ _).alloc (Nat.le_refl _) _, Nat.le_refl _⟩
  obtain ⟨SZ, hSZ⟩ : ∃ SZ, SZ = w.heap.size := ⟨_, rfl⟩
  have HSB : Hid (SZ ≤ w.heap.size) := Lib.hid (by omega)
  have HWS := Lib.hid hSZ
  clear CF CS HSZ
  obtain ⟨B, hB⟩ : ∃ B, B = w.heap.size := ⟨_, rfl⟩
  have HBB : Hid (w.heap.size ≤ B) := Lib.hid (by omega)
  rw [← hB] at HC HLB
  rw [← hB]
  clear hB hSZ HSB
  generalize w.alloc (.cells #[.string nm, .string sh, .int .i64 k, .bool on, .int .i64 n, .string tx, .string nm, .string val, .bool chg, .bool false, .bool false] 62) = w1 at *
  go_cut [] from 25 to 32 (fun wx => Below w.heap.size w wx ∧ NSet w0 N fv pl sv l wx ∧ wx.heap[B]? = some (.cells #[.string nm, .string sh, .int .i64 k, .bool on, .int .i64 n, .string tx, .string nm, .string val, .bool chg, .bool false, .bool false] 62 (0, 0)))
  case first =>
    have c0 := cell_of HN.out.hN 0 (.slice none 0 0) rfl
    have c6 := cell_of HC.out 6 (.string nm) rfl
    have z6 := frozen_of HC.out 6
    have l6 := lt_of_block HC.out
    have CM := Lib.hid (fun W => normal_any nm W)
    go_region_with (refine (CM.out _).mono ?_; rintro e w2 ⟨rfl, rfl⟩)
    all_goals
      go_wp2_with fail
      go_meet
      exact ⟨(HWB.out.1.setCell HBB.out _).drew, HN.out.setB HC.out HLB.out.1 HLB.out.2 _, heap_set HC.out 6 _⟩
  case rest =>
  obtain ⟨hbw, hn, hc⟩ := hcut
  have HBW := Lib.hid hbw
  clear hbw HWB HBB
  obtain ⟨a, c, rfl⟩ := hn.form
  have HN2 := Lib.hid hn
  have HC2 := Lib.hid hc
  have hrow := hn.row
  obtain ⟨i0, hi0, hz0, hz1, hz2⟩ := info_parts infoF
  have c2 := cell_of hn.hN 2 (.slice a l.length c) rfl
  have b0 := cell_of hc 0 (.string nm) rfl
  have b1 := cell_of hc 1 (.string sh) rfl
  have b2 := cell_of hc 2 (.int .i64 k) rfl
  have b3 := cell_of hc 3 (.bool on) rfl
  have b4 := cell_of hc 4 (.int .i64 n) rfl
  have b5 := cell_of hc 5 (.string tx) rfl
  have b6 := cell_of hc 6 (.string nm) rfl
  have b7 := cell_of hc 7 (.string val) rfl
  have b8 := cell_of hc 8 (.bool chg) rfl
  have b9 := cell_of hc 9 (.bool false) rfl
  have b10 := cell_of hc 10 (.bool false) rfl
  have lN := lt_of_block hn.hN
  have lB := lt_of_block hc
  clear hn hc HN HC HLB HOB HWS
  go_wp2_with fail
  go_region_law (
    refine step_append_lies _ (by rfl) _ _ _ (by rfl) w0.heap.size 62 i0 _ 11 112 Tryz.underlying38 hi0 hz0 hz1 hz2 rfl (by omega) (.slice a l.length c) l.length (flatF l) (by rfl) ((hrow.alloc _).drew)
        ⟨wc.heap.size, 0, none⟩ 1 1 [.string nm, .string sh, .int .i64 k, .bool on, .int .i64 n, .string tx, .string nm, .string val, .bool chg, .bool false, .bool false] (by rfl) (by rfl) (World.news_of_block (cs := #[.string nm, .string sh, .int .i64 k, .bool on, .int .i64 n, .string tx, .string nm, .string val, .bool chg, .bool false, .bool false]) (t := 62) (fr := (0, 0)) (heap_alloc_new wc _)) (by simp [Value.oneCell'])
        (by omega) (by unfold maxLen; omega) (by omega) (by have := HN2.out.bel.size; simp; exact Nat.le_succ_of_le this) (wc.heap.size + 1) (by simp) ?_; intro gg cap w2 hown1 hgrow hat hlt; obtain ⟨yN, yI⟩ := HN2.out.append hgrow ⟨⟨nm, sh, k, on, n, tx⟩, val, chg⟩ hown1; have HOWN : Hid (∀ R, (Value.slice (some ⟨gg, 0, none⟩) (l.length + 1) cap).ownBlock = some R → (Value.slice a l.length c).ownBlock = some R ∨ w.heap.size ≤ R) := Lib.hid (fun R hR => by
      rw [own_some] at hR
      cases hR
      rcases hat with q | q
      · exact .inl q
      · right; have := HBW.out.size; omega)
    have HKE : Hid (∀ b o, w.heap[b]? = some o → b ≠ N → some b ≠ (Value.slice a l.length c).ownBlock → (w2.setCell ⟨N, 2, none⟩ (.slice (some ⟨gg, 0, none⟩) (l.length + 1) cap)).heap[b]? = some o) := Lib.hid (fun b o hb h1 h2 => by
      have hx := (HBW.out.block _ (lt_of_block hb)).trans hb
      have hx1 := heap_drew' (m := 1) (heap_past' (o := .cells #[.string nm, .string sh, .int .i64 k, .bool on, .int .i64 n, .string tx, .string nm, .string val, .bool chg, .bool false, .bool false] 62) (lt_of_block hx) hx)
      exact heap_ne' h1 ((hgrow.block _ (lt_of_block hx1) h2).trans hx1)); have zc := cell_of yN 2 (.slice a l.length c) rfl; have zf := frozen_of yN 2; have zl := lt_of_block yN)
  all_goals (go_wp2_with fail)
  all_goals go_ret
  all_goals exact ⟨rfl, _, yI, HOWN.out, HKE.out⟩
set_option maxRecDepth 100000 in
set_option maxHeartbeats 3200000 in
theorem addBad_any {w0 w : World} {N : Nat} {fv sv : Value} {pl : Bool} {l : List NFlag} (h : NSet w0 N fv pl sv l w) (x : NFlag) (hl : l.length ≤ 1048576) (hs : x.d.sh.size ≤ 2147483647) (ok : ¬ okS x l) :
    Calls Tryz.prog 33 #[.pointer (some ⟨N, 0, none⟩), .agg x.cells.toArray] w fun e w' => e = .returned (.bool false) ∧ Below w.heap.size w w' := by
  obtain ⟨⟨nm, sh, k, on, n, tx⟩, val, chg⟩ := x
  simp only [NFlag.cells, DefD.cells, List.cons_append, List.nil_append] at *
  unfold okS at ok
  simp only at ok
  have h1 := h.later ((Below.refl _ _).alloc (Nat.le_refl _) (.cells #[.string nm, .string sh, .int .i64 k, .bool on, .int .i64 n, .string tx, .string nm, .string val, .bool chg, .bool false, .bool false] 62))
  have CF := Lib.hid (find_any h1 nm (by omega))
  have CS := Lib.hid (short_any h1 sh (by omega))
  have HN := Lib.hid ((Below.refl w.heap.size w).alloc (Nat.le_refl _) (.cells #[.string nm, .string sh, .int .i64 k, .bool on, .int .i64 n, .string tx, .string nm, .string val, .bool chg, .bool false, .bool false] 62))
  have HOB : Hid (fv.ownBlock ≠ some w.heap.size) := Lib.hid (fun e => by
    obtain ⟨_, c, hc⟩ := ownsRow_cells h.row e
    have := lt_of_block hc
    omega)
  clear h h1
  rcases idx_or (fun x => x.d.nm = nm) l with ⟨e1, n1⟩ | ⟨i1, hi1, e1, n1⟩
  case inr =>
    rw [e1] at CF
    clear e1
    have q : (0 : Int) ≤ (i1 : Int) := by omega
    have HB : Hid (¬ ((∀ y ∈ l, y.d.nm ≠ nm) ∧ sh.size ≤ 1 ∧ ∀ y ∈ l, ¬ (y.d.sh = sh ∧ sh.size ≠ 0))) := Lib.hid (fun h => h.1 _ (List.getElem_mem hi1) n1)
    clear n1
    go_enter Tryz.func33, Tryz.ntmps33
    go_wp2_with fail
    refine CF.out.mono ?_
    rintro e w1 ⟨rfl, rfl⟩
    go_wp2_with fail
    go_ret
    exact ⟨rfl, HN.out⟩
  rw [e1] at CF
  clear e1
  by_cases hs1 : 1 < sh.size
  · have q : (1 : Int) < (sh.size : Int) := by omega
    have HB : Hid (¬ ((∀ y ∈ l, y.d.nm ≠ nm) ∧ sh.size ≤ 1 ∧ ∀ y ∈ l, ¬ (y.d.sh = sh ∧ sh.size ≠ 0))) := Lib.hid (fun h => by have := h.2.1; omega)
    go_enter Tryz.func33, Tryz.ntmps33
    go_wp2_with fail
    refine CF.out.mono ?_
    rintro e w1 ⟨rfl, rfl⟩
    go_wp2_with fail
    go_ret
    exact ⟨rfl, HN.out⟩
  have q1 : ¬ (1 : Int) < (sh.size : Int) := by omega
  rcases idx_or (fun x => x.d.sh = sh ∧ sh.size ≠ 0) l with ⟨e2, n2⟩ | ⟨i2, hi2, e2, n2⟩
  case inr =>
    rw [e2] at CS
    clear e2
    have q : (0 : Int) ≤ (i2 : Int) := by omega
    have HB : Hid (¬ ((∀ y ∈ l, y.d.nm ≠ nm) ∧ sh.size ≤ 1 ∧ ∀ y ∈ l, ¬ (y.d.sh = sh ∧ sh.size ≠ 0))) := Lib.hid (fun h => h.2.2 _ (List.getElem_mem hi2) n2)
    clear n1 n2
    go_enter Tryz.func33, Tryz.ntmps33
    go_wp2_with fail
    refine CF.out.mono ?_
    rintro e w1 ⟨rfl, rfl⟩
    go_wp2_with fail
    refine CS.out.mono ?_
    rintro e w1 ⟨rfl, rfl⟩
    go_wp2_with fail
    go_ret
    exact ⟨rfl, HN.out⟩
  exact absurd ⟨n1, by omega, n2⟩ ok
end Go.Proofs.YtmmkebdaijmpiaaGreat
