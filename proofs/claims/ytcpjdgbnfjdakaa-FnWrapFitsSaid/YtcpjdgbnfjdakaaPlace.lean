/- The walk of (*whole).place. -/
import Derived.Test.YtcpjdgbnfjdakaaMadeB
import Derived.LaidEqlPtr
namespace Go.Proofs.Ytcpjdgbnfjdakaa
open Go.RowKit
set_option linter.unusedVariables false
set_option linter.unusedSimpArgs false

theorem infoFl : (Try.prog.info? 129).map (fun i => i.size) = some 11 := by kernel_rfl

theorem ptr_same (a : Nat) (w : World) : Sem.run Try.prog (binOp BinOp.eql 91 (ptr a) (ptr a)) w = .ok (.bool true) w := by
  obtain ⟨j, hj, hs⟩ := Option.map_eq_some_iff.1 infoFl
  exact run_eql_ptr_same (te := 129) w _ (by kernel_rfl) hj
theorem ptr_other {D : St} {w : World} (h : Inv D w) {i k : Nat} {r y : FlagR} (hr : D.rs[i]? = some r) (hy : D.rs[k]? = some y) (hne : k ≠ i) : Sem.run Try.prog (binOp BinOp.eql 91 (ptr y.fb) (ptr r.fb)) w = .ok (.bool false) w := by
  obtain ⟨j, hj, hs⟩ := Option.map_eq_some_iff.1 infoFl
  exact run_eql_ptr_other (te := 129) w (by kernel_rfl) hj (by rw [hs]; decide) (fun e => hne (h.inj k i y r hy hr (by simpa using e))) (h.hfl k y hy) (h.hfl i r hr)

/-- A row's cells. -/
theorem row_cell {w : World} {base : Nat} {e : TypeId} {v : Value} {n : Nat} {xs : List Value} (h : w.ownsRow base e 1 v n xs) (i : Nat) (hi : i < n) : ∃ g c, v = .slice (some ⟨g, 0, none⟩) n c ∧ w.cell? ⟨g, i, none⟩ = xs[i]? := by
  rcases h.2 with ⟨_, h0⟩ | ⟨g, cap, cur, rfl, hb, hh, hnc, hcm, hcs, ht⟩
  · omega
  · refine ⟨g, cap, rfl, ?_⟩
    have hx : xs.length = n := by simpa using h.1
    have e1 : w.cell? ⟨g, i, none⟩ = cur[i]? := by simp [World.cell?, hh]
    rw [e1, ← ht, List.getElem?_take, if_pos (show i < n * 1 by omega), Array.getElem?_toList]

set_option maxRecDepth 100000 in
theorem place_any {D : St} {w : World} (h : Inv D w) (hfl : D.flL = D.rs.map fun r => ptr r.fb) (hlen : D.rs.length ≤ 2147483647) {i : Nat} {r : FlagR} (hr : D.rs[i]? = some r) :
    Calls Try.prog 58 #[ptr D.Wb, ptr r.fb] w fun e w' => e = .returned (.int .i64 i) ∧ w' = w := by
  obtain ⟨-, c1, -⟩ := h.whCells
  have hrow : w.ownsRow D.base 91 1 D.flv D.flL.length D.flL := h.rFl
  have hl : D.flL.length = D.rs.length := by rw [hfl, List.length_map]
  have hi : i < D.rs.length := (List.getElem?_eq_some_iff.1 hr).1
  obtain ⟨g, c, hv, _⟩ := row_cell hrow i (by omega)
  have hcell : ∀ j (x : FlagR), D.rs[j]? = some x → w.cell? ⟨g, j, none⟩ = some (ptr x.fb) := by
    intro j x hx
    have hj : j < D.rs.length := (List.getElem?_eq_some_iff.1 hx).1
    obtain ⟨g', c', hv', hc'⟩ := row_cell hrow j (by omega)
    rw [hv] at hv'
    cases hv'
    rw [hc', hfl, List.getElem?_map, hx]; rfl
  rw [hv, hl] at c1
  have HC := Lib.hid hcell
  have HO := Lib.hid (fun k y hy (hne : k ≠ i) => ptr_other h hr (k := k) (y := y) hy hne)
  clear hcell hrow hv h hfl
  go_enter Try.func58, Try.ntmps58
  go_wp2_with fail
  go_loop [12] (fun vi => ∃ k : Nat, vi = .int .i64 k ∧ k ≤ i) (fun vi => D.rs.length - (intOf vi).toNat)
  case atStart => exact ⟨0, rfl, Nat.zero_le _⟩
  case round =>
    obtain ⟨k, rfl, hk⟩ := hrel
    have hkl : k < D.rs.length := by omega
    have hx : D.rs[k]? = some D.rs[k] := List.getElem?_eq_getElem hkl
    have q := HC.out k _ hx
    by_cases e : k = i
    · subst e
      have : D.rs[k] = r := by rw [hr] at hx; exact (Option.some.inj hx).symm
      rw [this] at q
      have hps := ptr_same r.fb w
      go_wp2_with fail
      go_ret
      exact ⟨rfl, rfl⟩
    · have hpo := HO.out k _ hx e
      generalize D.rs[k] = y at *
      go_wp2_with fail
      go_round
      case rel => exact ⟨k + 1, by go_num, by omega⟩
      case measure => simp [intOf]; omega
end Go.Proofs.Ytcpjdgbnfjdakaa
