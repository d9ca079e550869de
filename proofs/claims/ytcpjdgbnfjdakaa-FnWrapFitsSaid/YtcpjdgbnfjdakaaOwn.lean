/- The walks of impl's own value: has, Set. -/
import Derived.Test.YtcpjdgbnfjdakaaNorm2
import Derived.Deep.RegionHeld3
import Derived.Deep.RegionLaw
import Derived.Deep.AppendLies
import Derived.StillTactics
namespace Go.Proofs.Ytcpjdgbnfjdakaa
open Go.RowKit
set_option linter.unusedVariables false
set_option linter.unusedSimpArgs false

theorem infoG : (Try.prog.info? 94).map (fun i => (i.zero, i.size, i.bytes)) = some (some (.agg #[.int .i64 0, .string ⟨#[]⟩]), 2, 24) := by kernel_rfl
theorem infoS : (Try.prog.info? 9).map (fun i => (i.zero, i.size, i.bytes)) = some (some (.string ⟨#[]⟩), 1, 16) := by kernel_rfl
theorem infoP : (Try.prog.info? 91).map (fun i => (i.zero, i.size, i.bytes)) = some (some (.pointer none), 1, 8) := by kernel_rfl

theorem has_any (v : Value) (l : List ByteArray) (s : ByteArray) (w : World) (hv : Strs w v l) (hl : l.length ≤ 2147483647) :
    Calls Try.prog 59 #[v, .string s] w fun e w' => e = .returned (.bool (hasB l s)) ∧ w' = w := by
  obtain ⟨a, cap, rfl⟩ := hv.len
  have hcell : ∀ i (h : i < l.length), ∃ b off, a = some ⟨b, off, none⟩ ∧ w.cell? ⟨b, off + i, none⟩ = some (.string l[i]) := by
    intro i h
    obtain ⟨b, off, e, f⟩ := hv.cell (by omega)
    exact ⟨b, off, e, f i h⟩
  have HC := Lib.hid hcell
  clear hcell hv
  go_enter Try.func59, Try.ntmps59
  go_wp2_with fail
  go_loop [9] (fun i => ∃ k : Nat, k ≤ l.length ∧ i = .int .i64 k ∧ hasB l s = hasB (l.drop k) s) (fun i => l.length - (intOf i).toNat)
  case atStart => exact ⟨0, Nat.zero_le _, rfl, rfl⟩
  case round =>
    obtain ⟨k, hk, rfl, hh⟩ := hrel
    have HH := Lib.hid hh
    clear hh
    by_cases hlt : k < l.length
    · obtain ⟨b, off, rfl, hc⟩ := HC.out k hlt
      have hd : l.drop k = l[k] :: l.drop (k + 1) := List.drop_eq_getElem_cons hlt
      have HD := Lib.hid hd
      clear hd
      cases he : eqB l[k] s with
      | true =>
        have he' : (l[k].toList == s.toList) = true := he
        go_wp2_with fail
        go_ret
        exact ⟨by rw [HH.out, HD.out, hasB, List.any_cons, he]; rfl, rfl⟩
      | false =>
        have he' : (l[k].toList == s.toList) = false := he
        have HE := Lib.hid he
        clear he
        go_wp2_with fail
        go_round
        case rel => exact ⟨k + 1, by omega, by go_num, by rw [HH.out, HD.out, hasB, List.any_cons, HE.out]; rfl⟩
        case measure => simp [intOf]; omega
    · have e : l.drop k = [] := List.drop_eq_nil_of_le (by omega)
      have HE := Lib.hid e
      clear e
      go_wp2_with fail
      go_ret
      exact ⟨by rw [HH.out, HE.out]; rfl, rfl⟩

theorem Inv.bads {D : St} {w : World} (h : Inv D w) {i : Nat} {r : FlagR} (hr : D.rs[i]? = some r) : Strs w r.bv r.bad := (h.hbad i r hr).later h.bel.block

theorem Inv.ownCells {D : St} {w : World} (h : Inv D w) {i : Nat} {r : FlagR} (hr : D.rs[i]? = some r) : w.cell? ⟨r.ob, 0, none⟩ = some (.int .i64 i) ∧ w.cell? ⟨r.ob, 1, none⟩ = some r.bv ∧ w.cell? ⟨r.ob, 2, none⟩ = some (.pointer (some ⟨D.Wb, 2, none⟩)) := by
  have := h.hown i r hr
  refine ⟨?_, ?_, ?_⟩ <;> simp [World.cell?, this, Go.Proofs.Ytcpjdgbnfjdakaa.ownCells]
theorem Inv.whCells {D : St} {w : World} (h : Inv D w) : w.cell? ⟨D.Wb, 0, none⟩ = some (ptr D.F) ∧ w.cell? ⟨D.Wb, 1, none⟩ = some D.flv ∧ w.cell? ⟨D.Wb, 2, none⟩ = some D.saidV := by
  refine ⟨?_, ?_, ?_⟩ <;> simp [World.cell?, h.hW, Go.Proofs.Ytcpjdgbnfjdakaa.whCells]

theorem ownSet_no {D : St} {w : World} (h : Inv D w) {i : Nat} {r : FlagR} (hr : D.rs[i]? = some r) (v : ByteArray) (hl : r.bad.length ≤ 2147483647) (hb : hasB r.bad v = true) :
    Calls Try.prog 150 #[ptr r.ob, .string v] w fun e w' => e = .returned (.iface 97 (.agg #[])) ∧ w' = w := by
  obtain ⟨c0, c1, c2⟩ := h.ownCells hr
  have hs := h.bads hr
  go_enter Try.func150, Try.ntmps150
  go_wp2_with fail
  refine (has_any r.bv r.bad v _ hs hl).mono ?_
  rintro e w1 ⟨rfl, rfl⟩
  rw [hb]
  go_wp2_with fail
  go_ret
  exact ⟨rfl, rfl⟩

theorem cells_said {D : St} {w : World} (h : w.heap[D.Wb]? = some (.cells (whCells D) 87 (0, 0))) : w.cell? ⟨D.Wb, 2, none⟩ = some D.saidV ∧ w.frozen? ⟨D.Wb, 2, none⟩ = false := by
  refine ⟨?_, ?_⟩ <;> simp [World.cell?, World.frozen?, h, Go.Proofs.Ytcpjdgbnfjdakaa.whCells]

theorem said_end {D : St} {w w2 : World} (h : Inv D w) {o : Obj} {n : Nat} {i : Nat} {v : ByteArray} (hg : ((w.alloc o).drewN n).grownBy w2 D.saidV.ownBlock) (g cap : Nat)
    (hr : w2.ownsRow D.base 94 2 (.slice (some ⟨g, 0, none⟩) (D.given.length + 1) cap) (D.given.length + 1) (flat D.given ++ [.int .i64 i, .string v])) :
    w2.heap[D.Wb]? = some (.cells (whCells D) 87 (0, 0)) ∧ (∀ (j : Nat) (r : FlagR), D.rs[j]? = some r → w2.heap[r.fb]? = some (.cells (flagCells r) 129 (0, 0))) ∧
      Inv { D with saidV := .slice (some ⟨g, 0, none⟩) (D.given.length + 1) cap, given := D.given ++ [(i, v)] } (w2.setCell ⟨D.Wb, 2, none⟩ (.slice (some ⟨g, 0, none⟩) (D.given.length + 1) cap)) := by
  have h1 : Inv D ((w.alloc o).drewN n) := h.later (Below.drewN' ((Below.refl _ w).alloc (Nat.le_refl _) o))
  have e1 : (D.given ++ [(i, v)]).length = D.given.length + 1 := by simp
  have e2 : flat (D.given ++ [(i, v)]) = flat D.given ++ [.int .i64 i, .string v] := by simp [flat]
  have := h1.appendSaid hg g cap (D.given ++ [(i, v)]) (by rw [e1, e2]; exact hr)
  rwa [e1] at this

set_option maxRecDepth 100000 in
set_option maxHeartbeats 3200000 in
theorem ownSet_yes {D : St} {w : World} (h : Inv D w) {i : Nat} {r : FlagR} (hr : D.rs[i]? = some r) (v : ByteArray) (hl : r.bad.length ≤ 2147483647) (hb : hasB r.bad v = false) (hg : D.given.length ≤ 1099511627776) :
    Calls Try.prog 150 #[ptr r.ob, .string v] w fun e w' => e = .returned .nilIface ∧ ∃ sv, Inv { D with saidV := sv, given := D.given ++ [(i, v)] } w' := by
  obtain ⟨c0, c1, c2⟩ := h.ownCells hr
  obtain ⟨-, -, c5⟩ := h.whCells
  have hs := h.bads hr
  obtain ⟨i0, hi0, hz0, hz1, hz2⟩ := info_parts infoG
  have lW := World.block_lt_of_cell? w _ c5
  have lo := World.block_lt_of_cell? w _ c2
  have hown : w.ownsRow D.base 94 2 D.saidV D.given.length (flat D.given) := h.rSaid
  have hfW : w.heap[D.Wb]? = some (.cells #[ptr D.F, D.flv, D.saidV] 87 (0, 0)) := h.hW
  have z5 : w.frozen? ⟨D.Wb, 2, none⟩ = false := by simp [World.frozen?, h.hW]
  have ag : D.saidV.ownBlock ≠ some D.Wb := row_ne hfW hown (by decide)
  have ao : D.saidV.ownBlock ≠ some r.ob := row_ne (h.hown i r hr) hown (by decide)
  go_enter Try.func150, Try.ntmps150
  go_wp2_with fail
  refine (has_any r.bv r.bad v _ hs hl).mono ?_
  rintro e w1 ⟨rfl, rfl⟩
  rw [hb]
  go_wp2_with fail
  go_region_law (
    refine step_append_lies _ (by rfl) _ _ _ (by rfl) D.base 94 i0 _ 2 24 Try.underlying30 hi0 hz0 hz1 hz2 rfl (by omega) D.saidV D.given.length (flat D.given) (by rfl) ((hown.alloc _).drew)
        ⟨w1.heap.size, 0, none⟩ 1 1 [.int .i64 i, .string v] (by rfl) (by rfl) (World.news_of_block (cs := #[.int .i64 i, .string v]) (t := 94) (fr := (0, 0)) (heap_alloc_new w1 _)) (by simp [Value.oneCell'])
        (by omega) (by unfold maxLen; omega) (by omega) (by have := h.bel.size; simp; exact Nat.le_succ_of_le this) (w1.heap.size + 1) (by simp) ?_; intro gg cap w2 hown1 hgrow hat hlt; obtain ⟨yW, yfl, yI⟩ := said_end h hgrow gg cap hown1; have zo : w2.cell? ⟨r.ob, 2, none⟩ = some (.pointer (some ⟨D.Wb, 2, none⟩)) := (hgrow.cell_far ⟨r.ob, 2, none⟩ (by simp; omega) (Ne.symm ao)).trans ((World.cell?_alloc_past (.cells #[.int .i64 i, .string v] 94) r.ob 2 lo).trans c2); have zc := (cells_said yW).1; have zf := (cells_said yW).2)
  all_goals (go_wp2_with fail)
  all_goals go_ret
  all_goals exact ⟨rfl, _, yI⟩
end Go.Proofs.Ytcpjdgbnfjdakaa
