/- The reference's set of flags by their names: NameFirst, Add, Define. -/
import Derived.Test.YtmmkebdaijmpiaaGreatNSpec
import Derived.Laws.Tables
import Derived.Laws.Rows
import Derived.Deep.RegionHeld3
import Derived.Deep.RegionLaw
import Derived.Deep.AppendLies
import Derived.StillTactics
namespace Go.Proofs.YtmmkebdaijmpiaaGreat
open Go.RowKit
set_option linter.unusedVariables false
set_option linter.unusedSimpArgs false

def tB' (x : Bool) : ByteArray := if x then ⟨#[116, 114, 117, 101]⟩ else ⟨#[102, 97, 108, 115, 101]⟩
def valF (x : DefD) : ByteArray := if x.k = 1 then tB' x.on else x.tx
def firstF (x : DefD) : NFlag := ⟨x, valF x, false⟩

set_option maxRecDepth 100000 in
theorem first_any (x : DefD) (w : World) (hk : x.k = 0 ∨ x.k = 1) :
    Calls Tryz.prog 34 #[.agg #[.string x.nm, .string x.sh, .int .i64 x.k, .bool x.on, .int .i64 x.n, .string x.tx]] w fun e w' => e = .returned (.agg (firstF x).cells.toArray) ∧ Below w.heap.size w w' := by
  obtain ⟨nm, sh, k, on, n, tx⟩ := x
  simp only at hk
  rcases hk with rfl | rfl
  · go_enter Tryz.func34, Tryz.ntmps34
    go_wp2_with fail
    have hh : (((w.alloc (.cells #[.string nm, .string sh, .int .i64 0, .bool on, .int .i64 n, .string tx] 50)).alloc (.cells #[.string nm, .string sh, .int .i64 0, .bool on, .int .i64 n, .string tx, .string nm, .string tx, .bool false, .bool false, .bool false] 62)).alloc (.cells #[.string nm, .string sh, .int .i64 0, .bool on, .int .i64 n, .string tx, .string nm, .string tx, .bool false, .bool false, .bool false] 62)).heap[w.heap.size + 1]? = some (.cells #[.string nm, .string sh, .int .i64 0, .bool on, .int .i64 n, .string tx, .string nm, .string tx, .bool false, .bool false, .bool false] 62 (0, 0)) := heap_past' (by simp only [World.size_alloc]; omega) (heap_at _ _ _ (by simp only [World.size_alloc]))
    refine bodyPost_ret (v := .agg #[.string nm, .string sh, .int .i64 0, .bool on, .int .i64 n, .string tx, .string nm, .string tx, .bool false, .bool false, .bool false]) (results_cell_row rfl _ _ (w.heap.size + 1) _ _ (0, 0) _ rfl hh Tryz.underlying62 rfl (by kernel_rfl)) rfl ⟨rfl, ?_⟩
    exact (((Below.refl _ _).alloc (Nat.le_refl _) _).alloc (by simp only [World.size_alloc]; omega) _).alloc (by simp only [World.size_alloc]; omega) _
  cases on
  · go_enter Tryz.func34, Tryz.ntmps34
    go_wp2_with fail
    have hh : (((w.alloc (.cells #[.string nm, .string sh, .int .i64 1, .bool false, .int .i64 n, .string tx] 50)).alloc (.cells #[.string nm, .string sh, .int .i64 1, .bool false, .int .i64 n, .string tx, .string nm, .string ⟨#[102, 97, 108, 115, 101]⟩, .bool false, .bool false, .bool false] 62)).alloc (.cells #[.string nm, .string sh, .int .i64 1, .bool false, .int .i64 n, .string tx, .string nm, .string ⟨#[102, 97, 108, 115, 101]⟩, .bool false, .bool false, .bool false] 62)).heap[w.heap.size + 1]? = some (.cells #[.string nm, .string sh, .int .i64 1, .bool false, .int .i64 n, .string tx, .string nm, .string ⟨#[102, 97, 108, 115, 101]⟩, .bool false, .bool false, .bool false] 62 (0, 0)) := heap_past' (by simp only [World.size_alloc]; omega) (heap_at _ _ _ (by simp only [World.size_alloc]))
    refine bodyPost_ret (v := .agg #[.string nm, .string sh, .int .i64 1, .bool false, .int .i64 n, .string tx, .string nm, .string ⟨#[102, 97, 108, 115, 101]⟩, .bool false, .bool false, .bool false]) (results_cell_row rfl _ _ (w.heap.size + 1) _ _ (0, 0) _ rfl hh Tryz.underlying62 rfl (by kernel_rfl)) rfl ⟨rfl, ?_⟩
    exact (((Below.refl _ _).alloc (Nat.le_refl _) _).alloc (by simp only [World.size_alloc]; omega) _).alloc (by simp only [World.size_alloc]; omega) _
  · go_enter Tryz.func34, Tryz.ntmps34
    go_wp2_with fail
    have hh : (((w.alloc (.cells #[.string nm, .string sh, .int .i64 1, .bool true, .int .i64 n, .string tx] 50)).alloc (.cells #[.string nm, .string sh, .int .i64 1, .bool true, .int .i64 n, .string tx, .string nm, .string ⟨#[116, 114, 117, 101]⟩, .bool false, .bool false, .bool false] 62)).alloc (.cells #[.string nm, .string sh, .int .i64 1, .bool true, .int .i64 n, .string tx, .string nm, .string ⟨#[116, 114, 117, 101]⟩, .bool false, .bool false, .bool false] 62)).heap[w.heap.size + 1]? = some (.cells #[.string nm, .string sh, .int .i64 1, .bool true, .int .i64 n, .string tx, .string nm, .string ⟨#[116, 114, 117, 101]⟩, .bool false, .bool false, .bool false] 62 (0, 0)) := heap_past' (by simp only [World.size_alloc]; omega) (heap_at _ _ _ (by simp only [World.size_alloc]))
    refine bodyPost_ret (v := .agg #[.string nm, .string sh, .int .i64 1, .bool true, .int .i64 n, .string tx, .string nm, .string ⟨#[116, 114, 117, 101]⟩, .bool false, .bool false, .bool false]) (results_cell_row rfl _ _ (w.heap.size + 1) _ _ (0, 0) _ rfl hh Tryz.underlying62 rfl (by kernel_rfl)) rfl ⟨rfl, ?_⟩
    exact (((Below.refl _ _).alloc (Nat.le_refl _) _).alloc (by simp only [World.size_alloc]; omega) _).alloc (by simp only [World.size_alloc]; omega) _

theorem idx_or (p : NFlag → Prop) [DecidablePred p] (l : List NFlag) : (idxI p l = -1 ∧ ∀ x ∈ l, ¬ p x) ∨ ∃ (k : Nat) (hk : k < l.length), idxI p l = (k : Int) ∧ p l[k] := by
  unfold idxI
  cases h : l.findIdx? (fun x => decide (p x)) with
  | none =>
    left
    refine ⟨rfl, fun x hx => ?_⟩
    rw [List.findIdx?_eq_none_iff] at h
    simpa using h x hx
  | some k =>
    right
    rw [List.findIdx?_eq_some_iff_getElem] at h
    obtain ⟨hk, hp, _⟩ := h
    exact ⟨k, hk, rfl, by simpa using hp⟩
/-- May x be added? -/
def okS (x : NFlag) (l : List NFlag) : Prop := (∀ y ∈ l, y.d.nm ≠ x.d.nm) ∧ x.d.sh.size ≤ 1 ∧ ∀ y ∈ l, ¬ (y.d.sh = x.d.sh ∧ x.d.sh.size ≠ 0)

theorem infoF : (Tryz.prog.info? 62).map (fun i => (i.zero, i.size, i.bytes)) = some (some (.agg #[.string ⟨#[]⟩, .string ⟨#[]⟩, .int .i64 0, .bool false, .int .i64 0, .string ⟨#[]⟩, .string ⟨#[]⟩, .string ⟨#[]⟩, .bool false, .bool false, .bool false]), 11, 112) := by kernel_rfl
/-- A block beside the set is written, to what it held. -/
theorem NSet.setB {w0 w : World} {N : Nat} {fv sv : Value} {pl : Bool} {l : List NFlag} (h : NSet w0 N fv pl sv l w) {B j : Nat} {c : Array Value} (hB : w.heap[B]? = some (.cells c 62 (0, 0))) (hb : w0.heap.size ≤ B) (hf : fv.ownBlock ≠ some B) (v : Value) : NSet w0 N fv pl sv l ((w.setCell ⟨B, j, none⟩ v).drew) := by
  have k : ∀ b, b ≠ B → (w.setCell ⟨B, j, none⟩ v).drew.heap[b]? = w.heap[b]? := fun b hb => heap_ne _ _ _ _ hb
  exact ⟨(h.bel.setCell hb _).drew, (k _ (cells_ne h.hN hB (by decide))).trans h.hN, ownsRow_at h.row fun g e => k g (fun e' => hf (by rw [e, e'])), h.lN⟩
theorem NSet.append {w0 w w1 : World} {N : Nat} {fv sv : Value} {pl : Bool} {l : List NFlag} (h : NSet w0 N fv pl sv l w) {o : Obj} {m : Nat} (hg : ((w.alloc o).drewN m).grownBy w1 fv.ownBlock) {g cap : Nat} (x : NFlag) (hr : w1.ownsRow w0.heap.size 62 11 (.slice (some ⟨g, 0, none⟩) (l.length + 1) cap) (l.length + 1) (flatF l ++ x.cells)) :
    w1.heap[N]? = some (.cells (setC fv pl sv) 41 (0, 0)) ∧ NSet w0 N (.slice (some ⟨g, 0, none⟩) (l.length + 1) cap) pl sv (l ++ [x]) (w1.setCell ⟨N, 2, none⟩ (.slice (some ⟨g, 0, none⟩) (l.length + 1) cap)) := by
  have h1 : NSet w0 N fv pl sv l ((w.alloc o).drewN m) := h.later (Below.drewN' ((Below.refl _ w).alloc (Nat.le_refl _) o))
  have hN : w1.heap[N]? = some (.cells (setC fv pl sv) 41 (0, 0)) := (hg.block _ (lt_of_block h1.hN) (fun e => by
    obtain ⟨_, c, hc⟩ := ownsRow_cells h1.row e.symm
    rw [h1.hN] at hc
    cases hc)).trans h1.hN
  refine ⟨hN, ⟨?_, by rw [heap_set hN 2 _]; rfl, ?_, h.lN⟩⟩
  · exact Below.setCell (h1.bel.trans (grownBy_below hg (fun b hb => (ownsRow_cells h1.row hb).1) h1.bel.size)) h.lN _
  · rw [flatF_snoc, List.length_append, List.length_singleton]
    refine ownsRow_at hr fun g' e => heap_ne _ _ _ _ ?_
    obtain ⟨_, c, hc⟩ := ownsRow_cells hr e
    exact Ne.symm (cells_ne hN hc (by decide))

set_option maxRecDepth 100000 in
set_option maxHeartbeats 3200000 in
theorem add_any {w0 w : World} {N : Nat} {fv sv : Value} {pl : Bool} {l : List NFlag} (h : NSet w0 N fv pl sv l w) (x : NFlag) (hl : l.length ≤ 1048576) (hs : x.d.sh.size ≤ 2147483647) :
    Calls Tryz.prog 33 #[.pointer (some ⟨N, 0, none⟩), .agg x.cells.toArray] w fun e w' => (okS x l → e = .returned (.bool true) ∧ ∃ fv', NSet w0 N fv' pl sv (l ++ [x]) w') ∧ (¬ okS x l → e = .returned (.bool false) ∧ NSet w0 N fv pl sv l w') := by
  obtain ⟨⟨nm, sh, k, on, n, tx⟩, val, chg⟩ := x
  simp only [NFlag.cells, DefD.cells, List.cons_append, List.nil_append] at *
  unfold okS
  simp only
  have h1 := h.later ((Below.refl _ _).alloc (Nat.le_refl _) (.cells #[.string nm, .string sh, .int .i64 k, .bool on, .int .i64 n, .string tx, .string nm, .string val, .bool chg, .bool false, .bool false] 62))
  have CF := Lib.hid (find_any h1 nm (by omega))
  have CS := Lib.hid (short_any h1 sh (by omega))
  have HN := Lib.hid h1
  have HOB : Hid (fv.ownBlock ≠ some w.heap.size) := Lib.hid (fun e => by
    obtain ⟨_, c, hc⟩ := ownsRow_cells h.row e
    have := lt_of_block hc
    omega)
  clear h h1
  rcases idx_or (fun x => x.d.nm = nm) l with ⟨e1, n1⟩ | ⟨i1, hi1, e1, n1⟩
  case inr =>
    rw [e1] at CF
    clear e1
    have q : (0 : Int) ≤ (i1 : Int) := by omega
    have HB : Hid (¬ ((∀ y ∈ l, y.d.nm ≠ nm) ∧ sh.size ≤ 1 ∧ ∀ y ∈ l, ¬ (y.d.sh = sh ∧ sh.size ≠ 0))) := Lib.hid (fun h => h.1 _ (List.getElem_mem hi1) n1)
    clear n1
    go_enter Tryz.func33, Tryz.ntmps33
    go_wp2_with fail
    refine CF.out.mono ?_
    rintro e w1 ⟨rfl, rfl⟩
    go_wp2_with fail
    go_ret
    exact ⟨fun h => absurd h HB.out, fun _ => ⟨rfl, HN.out⟩⟩
  rw [e1] at CF
  clear e1
  by_cases hs1 : 1 < sh.size
  · have q : (1 : Int) < (sh.size : Int) := by omega
    have HB : Hid (¬ ((∀ y ∈ l, y.d.nm ≠ nm) ∧ sh.size ≤ 1 ∧ ∀ y ∈ l, ¬ (y.d.sh = sh ∧ sh.size ≠ 0))) := Lib.hid (fun h => by have := h.2.1; omega)
    go_enter Tryz.func33, Tryz.ntmps33
    go_wp2_with fail
    refine CF.out.mono ?_
    rintro e w1 ⟨rfl, rfl⟩
    go_wp2_with fail
    go_ret
    exact ⟨fun h => absurd h HB.out, fun _ => ⟨rfl, HN.out⟩⟩
  have q1 : ¬ (1 : Int) < (sh.size : Int) := by omega
  rcases idx_or (fun x => x.d.sh = sh ∧ sh.size ≠ 0) l with ⟨e2, n2⟩ | ⟨i2, hi2, e2, n2⟩
  case inr =>
    rw [e2] at CS
    clear e2
    have q : (0 : Int) ≤ (i2 : Int) := by omega
    have HB : Hid (¬ ((∀ y ∈ l, y.d.nm ≠ nm) ∧ sh.size ≤ 1 ∧ ∀ y ∈ l, ¬ (y.d.sh = sh ∧ sh.size ≠ 0))) := Lib.hid (fun h => h.2.2 _ (List.getElem_mem hi2) n2)
    clear n1 n2
    go_enter Tryz.func33, Tryz.ntmps33
    go_wp2_with fail
    refine CF.out.mono ?_
    rintro e w1 ⟨rfl, rfl⟩
    go_wp2_with fail
    refine CS.out.mono ?_
    rintro e w1 ⟨rfl, rfl⟩
    go_wp2_with fail
    go_ret
    exact ⟨fun h => absurd h HB.out, fun _ => ⟨rfl, HN.out⟩⟩
  rw [e2] at CS
  clear e2
  have HB : Hid ((∀ y ∈ l, y.d.nm ≠ nm) ∧ sh.size ≤ 1 ∧ ∀ y ∈ l, ¬ (y.d.sh = sh ∧ sh.size ≠ 0)) := Lib.hid ⟨n1, by omega, n2⟩
  clear n1 n2
  go_enter Tryz.func33, Tryz.ntmps33
  go_wp2_with fail
  refine CF.out.mono ?_
  rintro e w1 ⟨rfl, rfl⟩
  go_wp2_with fail
  refine CS.out.mono ?_
  rintro e w1 ⟨rfl, rfl⟩
  go_upto_region 3 with fail
  have HC : Hid ((w.alloc (.cells #[.string nm, .string sh, .int .i64 k, .bool on, .int .i64 n, .string tx, .string nm, .string val, .bool chg, .bool false, .bool false] 62)).heap[w.heap.size]? = some (.cells #[.string nm, .string sh, .int .i64 k, .bool on, .int .i64 n, .string tx, .string nm, .string val, .bool chg, .bool false, .bool false] 62 (0, 0))) := Lib.hid (heap_at _ _ _ rfl)
  have HLB : Hid (w0.heap.size ≤ w.heap.size ∧ fv.ownBlock ≠ some w.heap.size) := Lib.hid ⟨Nat.le_trans HN.out.lN (by have := lt_of_block HN.out.hN; simp only [World.size_alloc] at this; omega), HOB.out⟩
  clear CF CS
  obtain ⟨B, hB⟩ : ∃ B, B = w.heap.size := ⟨_, rfl⟩
  rw [← hB] at HC HLB ⊢
  clear hB
  generalize w.alloc (.cells #[.string nm, .string sh, .int .i64 k, .bool on, .int .i64 n, .string tx, .string nm, .string val, .bool chg, .bool false, .bool false] 62) = w1 at *
  go_cut [] from 25 to 32 (fun wx => NSet w0 N fv pl sv l wx ∧ wx.heap[B]? = some (.cells #[.string nm, .string sh, .int .i64 k, .bool on, .int .i64 n, .string tx, .string nm, .string val, .bool chg, .bool false, .bool false] 62 (0, 0)))
  case first =>
    have c0 := cell_of HN.out.hN 0 (.slice none 0 0) rfl
    have c6 := cell_of HC.out 6 (.string nm) rfl
    have z6 := frozen_of HC.out 6
    have l6 := lt_of_block HC.out
    have CM := Lib.hid (fun W => normal_any nm W)
    go_region_with (refine (CM.out _).mono ?_; rintro e w2 ⟨rfl, rfl⟩)
    all_goals
      go_wp2_with fail
      go_meet
      exact ⟨HN.out.setB HC.out HLB.out.1 HLB.out.2 _, heap_set HC.out 6 _⟩
  case rest =>
  obtain ⟨hn, hc⟩ := hcut
  obtain ⟨a, c, rfl⟩ := hn.form
  have HN2 := Lib.hid hn
  have HC2 := Lib.hid hc
  have hrow := hn.row
  obtain ⟨i0, hi0, hz0, hz1, hz2⟩ := info_parts infoF
  have c2 := cell_of hn.hN 2 (.slice a l.length c) rfl
  have b0 := cell_of hc 0 (.string nm) rfl
  have b1 := cell_of hc 1 (.string sh) rfl
  have b2 := cell_of hc 2 (.int .i64 k) rfl
  have b3 := cell_of hc 3 (.bool on) rfl
  have b4 := cell_of hc 4 (.int .i64 n) rfl
  have b5 := cell_of hc 5 (.string tx) rfl
  have b6 := cell_of hc 6 (.string nm) rfl
  have b7 := cell_of hc 7 (.string val) rfl
  have b8 := cell_of hc 8 (.bool chg) rfl
  have b9 := cell_of hc 9 (.bool false) rfl
  have b10 := cell_of hc 10 (.bool false) rfl
  have lN := lt_of_block hn.hN
  have lB := lt_of_block hc
  clear hn hc HN HC HLB HOB
  go_wp2_with fail
  go_region_law (
    refine step_append_lies _ (by rfl) _ _ _ (by rfl) w0.heap.size 62 i0 _ 11 112 Tryz.underlying38 hi0 hz0 hz1 hz2 rfl (by omega) (.slice a l.length c) l.length (flatF l) (by rfl) ((hrow.alloc _).drew)
        ⟨wc.heap.size, 0, none⟩ 1 1 [.string nm, .string sh, .int .i64 k, .bool on, .int .i64 n, .string tx, .string nm, .string val, .bool chg, .bool false, .bool false] (by rfl) (by rfl) (World.news_of_block (cs := #[.string nm, .string sh, .int .i64 k, .bool on, .int .i64 n, .string tx, .string nm, .string val, .bool chg, .bool false, .bool false]) (t := 62) (fr := (0, 0)) (heap_alloc_new wc _)) (by simp [Value.oneCell'])
        (by omega) (by unfold maxLen; omega) (by omega) (by have := HN2.out.bel.size; simp; exact Nat.le_succ_of_le this) (wc.heap.size + 1) (by simp) ?_; intro gg cap w2 hown1 hgrow hat hlt; obtain ⟨yN, yI⟩ := HN2.out.append hgrow ⟨⟨nm, sh, k, on, n, tx⟩, val, chg⟩ hown1; have zc := cell_of yN 2 (.slice a l.length c) rfl; have zf := frozen_of yN 2; have zl := lt_of_block yN)
  all_goals (go_wp2_with fail)
  all_goals go_ret
  all_goals exact ⟨fun _ => ⟨rfl, _, yI⟩, fun h => absurd HB.out h⟩
end Go.Proofs.YtmmkebdaijmpiaaGreat
