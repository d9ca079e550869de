/- The walks of the reference's Changed, Begin. -/
import Derived.Test.YtcpjdgbnfjdakaaSpecG
import Derived.Test.YtcpjdgbnfjdakaaLists
namespace Go.Proofs.Ytcpjdgbnfjdakaa
open Go.RowKit
set_option linter.unusedVariables false
set_option linter.unusedSimpArgs false

theorem infoN : (Try.prog.info? 3).map (fun i => (i.zero, i.size, i.bytes)) = some (some (.int .i64 0), 1, 8) := by kernel_rfl

/-- The places below k of the flags that were given values. -/
def chgU (g : List (Nat × ByteArray)) (k : Nat) : List Nat := (List.range k).filter fun i => g.any fun x => x.1 == i
def intV (n : Nat) : Value := .int .i64 (n : Int)

theorem row_lower {w : World} {b b' : Nat} {e : TypeId} {size : Nat} {v : Value} {n : Nat} {xs : List Value} (h : w.ownsRow b e size v n xs) (hb : b' ≤ b) : w.ownsRow b' e size v n xs := by
  refine ⟨h.1, ?_⟩
  rcases h.2 with h2 | ⟨g, cap, cur, e, hg, r⟩
  · exact .inl h2
  · exact .inr ⟨g, cap, cur, e, Nat.le_trans hb hg, r⟩

theorem chgU_yes (g : List (Nat × ByteArray)) (k : Nat) (h : (g.any fun x => x.1 == k) = true) : chgU g (k + 1) = chgU g k ++ [k] := by
  rw [chgU, List.range_succ, List.filter_append, chgU]
  simp [h]
theorem chgU_no (g : List (Nat × ByteArray)) (k : Nat) (h : (g.any fun x => x.1 == k) = false) : chgU g (k + 1) = chgU g k := by
  rw [chgU, List.range_succ, List.filter_append, chgU]
  simp [h]
theorem chgU_len (g : List (Nat × ByteArray)) (k : Nat) : (chgU g k).length ≤ k := by
  have := List.length_filter_le (fun i => g.any fun x => x.1 == i) (List.range k)
  rw [List.length_range] at this
  exact this

set_option maxRecDepth 100000 in
set_option maxHeartbeats 1600000 in
theorem changed_any (fv : Value) (fs : List FlagD) (plain unk : Bool) (fold : Int) (gv : Value) (g : List (Nat × ByteArray)) (w : World) (hv : FlagRows w fv fs) (hl : fs.length ≤ 2147483647) (hg : Givens w gv g) (hgl : g.length ≤ 1099511627776) :
    Calls Try.prog 27 #[.agg #[fv, .bool plain, .bool unk, .int .i64 fold], gv] w fun e w' => ∃ cv, e = .returned cv ∧ w'.ownsRow w.heap.size 3 1 cv (chgU g fs.length).length ((chgU g fs.length).map intV) ∧ Below w.heap.size w w' := by
  obtain ⟨a, cap, rfl⟩ := hv.len
  obtain ⟨ga, gcap, rfl, hgc⟩ := hg.len
  obtain ⟨i0, hi0, hz0, hz1, hz2⟩ := info_parts infoN
  clear hv
  obtain ⟨w1, hw1⟩ : ∃ w1, w.alloc (.cells #[.slice a fs.length cap, .bool plain, .bool unk, .int .i64 fold] 24) = w1 := ⟨_, rfl⟩
  have HB1 : Hid (Below w.heap.size w w1) := Lib.hid (by rw [← hw1]; (repeat (first | (with_reducible exact Below.refl _ _) | (with_reducible assumption) | ((with_reducible refine Below.alloc ?_ ?_ _); rotate_left; focus ((try simp only [World.size_alloc, size_setCell, World.heap_drewN]); (try omega); done)) | ((with_reducible refine Below.setCell ?_ ?_ _); rotate_left; focus ((try simp only [World.size_alloc, size_setCell, World.heap_drewN]); (try omega); done)) | (with_reducible refine Below.drewN' ?_) | (with_reducible refine Below.drew ?_))))
  have HX : Hid (w1.heap[w.heap.size]? = some (.cells #[.slice a fs.length cap, .bool plain, .bool unk, .int .i64 fold] 24 (0, 0))) := Lib.hid (by rw [← hw1]; exact heap_at _ _ _ rfl)
  have c0 : w1.cell? ⟨w.heap.size, 0, none⟩ = some (.slice a fs.length cap) := by simp [World.cell?, HX.out]
  have HG := Lib.hid (hg.later HB1.out.block)
  have hs1 : w.heap.size ≤ w1.heap.size := HB1.out.size
  have row0 : w1.ownsRow w1.heap.size 3 1 (.slice none 0 0) (chgU g 0).length ((chgU g 0).map intV) := ⟨rfl, .inl ⟨rfl, rfl⟩⟩
  have HR0 := Lib.hid row0
  clear hg row0
  go_enter Try.func27, Try.ntmps27
  go_wp2_with fail
  clear hw1 c0
  go_loopw [5, 12] (fun vo vi wr => ∃ k : Nat, k ≤ fs.length ∧ vi = .int .i64 k ∧ Below w1.heap.size w1 wr ∧ wr.ownsRow w1.heap.size 3 1 vo (chgU g k).length ((chgU g k).map intV)) (fun _ vi _ => fs.length - (intOf vi).toNat)
  case atStart => exact ⟨0, Nat.zero_le _, rfl, Below.refl _ _, HR0.out⟩
  case round =>
    obtain ⟨k, hk, rfl, hbel, hrow⟩ := hrel
    obtain ⟨oa, oc, rfl⟩ := row_form hrow
    have HROW := Lib.hid hrow
    have HBE := Lib.hid hbel
    clear hrow hbel
    by_cases hlt : k < fs.length
    · have HGR := Lib.hid (HG.out.later HBE.out.block)
      have HYES := Lib.hid (chgU_yes g k)
      have HNOT := Lib.hid (chgU_no g k)
      have hcl := chgU_len g k
      generalize chgU g k = ck at *
      go_wp2_with fail
      go_loopw [5, 17] (fun vo vj w2 => vo = .slice oa ck.length oc ∧ ∃ j : Nat, j ≤ g.length ∧ vj = .int .i64 j ∧ Below wr.heap.size wr w2 ∧ (g.any fun x => x.1 == k) = ((g.drop j).any fun x => x.1 == k)) (fun _ vj _ => g.length - (intOf vj).toNat)
      case atStart => exact ⟨rfl, 0, Nat.zero_le _, rfl, Below.refl _ _, rfl⟩
      case round =>
        obtain ⟨rfl, j, hj, rfl, hbel2, hany⟩ := hrel
        have HANY := Lib.hid hany
        clear hany
        by_cases hlt2 : j < g.length
        · obtain ⟨gb, gof, rfl, g1, g2⟩ := (HGR.out.later hbel2.block).cell hlt2
          have hd : g.drop j = g[j] :: g.drop (j + 1) := List.drop_eq_getElem_cons hlt2
          have HD := Lib.hid hd
          clear hd
          have HBE2 := Lib.hid hbel2
          have hb2s := hbel2.size
          clear hbel2
          cases he : (g[j].1 == k) with
          | true =>
            have he' : ((g[j].1 : Int) == (k : Int)) = true := by rw [beq_iff_eq] at he ⊢; omega
            have HE := Lib.hid (HYES.out (by rw [HANY.out, HD.out, List.any_cons, he]; rfl))
            clear he HANY HNOT HYES
            generalize g[j] = x at *
            obtain ⟨x1, x2⟩ := x
            simp only at he' g1 g2
            have hrow2 := ownsRow_at (w' := wr) HROW.out fun b hb => by obtain ⟨_, c, hc⟩ := ownsRow_cells HROW.out hb; exact HBE2.out.block b (lt_of_block hc)
            have hrow3 := (hrow2.alloc (.cells #[.int .i64 x1, .string x2] 94)).alloc (.cells #[.int .i64 k] 3)
            have hrow1 : w1.heap.size ≤ wr.heap.size := Nat.le_trans HBE.out.size hb2s
            have HROW3 := Lib.hid hrow3
            clear hrow2 hrow3
            go_wp2_with (
              at_builtin
              refine wpList_append_lies _ (by rfl) _ _ _ (by rfl) w1.heap.size 3 i0 _ 1 8 Try.underlying31 hi0 hz0 hz1 hz2 rfl (by omega) (.slice oa ck.length oc) ck.length (ck.map intV) (by rfl) HROW3.out
                ⟨wr.heap.size + 1, 0, none⟩ 1 1 [.int .i64 k] (by rfl) (by rfl) (World.news_of_block (cs := #[.int .i64 k]) (t := 3) (fr := (0, 0)) (heap_at _ _ _ (by simp))) (by simp [Value.oneCell'])
                (by omega) (by unfold maxLen; omega) (by omega) (by simp only [World.size_alloc]; omega) (wr.heap.size + 2) (by simp only [World.size_alloc]) ?_
              intro gg gcp w5 hown1 hgrow hat hlt
              have HOWN := Lib.hid hown1
              have HGROW := Lib.hid hgrow
              clear hown1 hgrow hat)
            go_roundw
            case rel =>
              refine ⟨k + 1, by omega, by go_num, ?_, by rw [HE.out]; simpa [intV] using HOWN.out⟩
              have q1 := (Below.after HBE.out HBE2.out)
              have q2 : Below w1.heap.size w1 ((wr.alloc (.cells #[.int .i64 x1, .string x2] 94)).alloc (.cells #[.int .i64 k] 3)) := (q1.alloc hrow1 _).alloc (by simp; omega) _
              exact q2.trans (grownBy_below HGROW.out (fun b hb => (ownsRow_cells HROW3.out hb).1) q2.size)
            case measure => simp [intOf]; omega
          | false =>
            have he' : ((g[j].1 : Int) == (k : Int)) = false := by
              rw [beq_eq_false_iff_ne] at he ⊢; omega
            have HE : Hid ((g.any fun x => x.1 == k) = ((g.drop (j + 1)).any fun x => x.1 == k)) := Lib.hid (by rw [HANY.out, HD.out, List.any_cons, he]; rfl)
            clear he HANY
            generalize g[j] = x at *
            obtain ⟨x1, x2⟩ := x
            simp only at he' g1 g2
            go_wp2_with fail
            go_roundw
            case rel => exact ⟨rfl, j + 1, by omega, by go_num, HBE2.out.alloc hb2s _, HE.out⟩
            case measure => simp [intOf]; omega
        · have hn : (g.any fun x => x.1 == k) = false := by rw [HANY.out, List.drop_eq_nil_of_le (by omega)]; rfl
          have HE := Lib.hid (HNOT.out hn)
          have HBE3 := Lib.hid hbel2
          clear hn HANY hbel2
          go_wp2_with fail
          go_roundw
          case rel => exact ⟨k + 1, by omega, by go_num, Below.after HBE.out HBE3.out, by rw [HE.out]; exact ownsRow_at HROW.out fun b hb => by obtain ⟨_, c, hc⟩ := ownsRow_cells HROW.out hb; exact HBE3.out.block b (lt_of_block hc)⟩
          case measure => simp [intOf]; omega
    · have e : k = fs.length := by omega
      subst e
      go_wp2_with fail
      go_ret
      exact ⟨_, rfl, row_lower HROW.out hs1, Below.after HB1.out HBE.out⟩
end Go.Proofs.Ytcpjdgbnfjdakaa
