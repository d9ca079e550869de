/- The walk of the reference's Fold. -/
import Derived.Test.YtcpjdgbnfjdakaaNorm
namespace Go.Proofs.Ytcpjdgbnfjdakaa
open Go.RowKit
set_option linter.unusedVariables false
set_option linter.unusedSimpArgs false

theorem FoldAt.reread {lo da : Bool} {s : ByteArray} {w : World} {B z k : Nat} (h : FoldAt lo da s w B z k) (hk : k < s.size) (v : Value) : (w.setCell ⟨B, k, none⟩ v).cell? ⟨B, k, none⟩ = some v := by
  obtain ⟨C, hb, hz, hs, hc⟩ := h
  have := heap_set hb k v
  simp only [World.cell?, this]
  have hlt : k < C.size := by omega
  simp [hlt]

theorem and_bits (fold : Int) (h0 : 0 ≤ fold) (h3 : fold ≤ 3) : (bits .and .i64 fold 1 == 1) = (fold == 1 || fold == 3) ∧ (bits .and .i64 fold 2 == 2) = (fold == 2 || fold == 3) := by
  have : fold = 0 ∨ fold = 1 ∨ fold = 2 ∨ fold = 3 := by omega
  rcases this with rfl | rfl | rfl | rfl <;> exact ⟨by decide, by decide⟩

set_option maxHeartbeats 4000000 in
theorem foldS_any (fold : Int) (s : ByteArray) (w : World) (hs : s.size ≤ 2147483647) :
    Calls Try.prog 48 #[.int .i64 fold, .string s] w fun e w' => e = .returned (.string (foldG (bits .and .i64 fold 1 == 1) (bits .and .i64 fold 2 == 2) s)) ∧ Below w.heap.size w w' := by
  obtain ⟨cap, C, hcv, hz, hC⟩ := run_bytes_open w s
  have hstart : ∀ lo da, FoldAt lo da s ((w.alloc (.cells C 5 (C.size, C.size + 1))).drew) w.heap.size C.size 0 := fun lo da => ⟨C, by exact heap_at w _ _ rfl, rfl, hz, fun j h => by simpa using hC j h⟩
  have HS := Lib.hid hstart
  clear hstart hC hz
  have main : ∀ lo da, (bits .and .i64 fold 1 == 1) = lo → (bits .and .i64 fold 2 == 2) = da → Calls Try.prog 48 #[.int .i64 fold, .string s] w fun e w' => e = .returned (.string (foldG lo da s)) ∧ Below w.heap.size w w' := by
    intro lo da elo eda
    go_enter Try.func48, Try.ntmps48
    go_wp2_with fail
    go_loopw [11] (fun i wr => Below w.heap.size w wr ∧ ∃ k : Nat, k ≤ s.size ∧ i = .int .i64 k ∧ FoldAt lo da s wr w.heap.size C.size k) (fun i _ => s.size - (intOf i).toNat)
    case atStart => exact ⟨by (repeat (first | (with_reducible exact Below.refl _ _) | (with_reducible assumption) | ((with_reducible refine Below.alloc ?_ ?_ _); rotate_left; focus ((try simp only [World.size_alloc, size_setCell, World.heap_drewN]); (try omega); done)) | ((with_reducible refine Below.setCell ?_ ?_ _); rotate_left; focus ((try simp only [World.size_alloc, size_setCell, World.heap_drewN]); (try omega); done)) | (with_reducible refine Below.drewN' ?_) | (with_reducible refine Below.drew ?_))), 0, Nat.zero_le _, rfl, HS.out _ _⟩
    case round =>
      clear HS hcv
      obtain ⟨hbel, k, hk, rfl, hf⟩ := hrel
      have HB := Lib.hid hbel
      have HFo := Lib.hid hf
      clear hbel hf
      by_cases hlt : k < s.size
      · have hcell := HFo.out.cell hlt
        have hfree := HFo.out.free hlt
        have hre := fun n : Int => HFo.out.reread hlt (.int .u8 n)
        have hb1 : ((s[k].toNat : Nat) : Int) < 256 := by have := s[k].toNat_lt; omega
        have HSa := Lib.hid (fun e => HFo.out.same hlt e)
        have HPu := Lib.hid (fun n e => HFo.out.put hlt n e)
        clear HFo
        have hkinds := byte_kinds lo da s[k] _ rfl
        generalize hc : (s[k].toNat : Int) = c at *
        clear hc
        have stay : ∀ wr', wr' = wr → foldB lo da s[k] = s[k] → (Below w.heap.size w wr' ∧ ∃ k' : Nat, k' ≤ s.size ∧ Value.int .i64 ((k : Int) + 1) = .int .i64 k' ∧ FoldAt lo da s wr' w.heap.size C.size k') := fun wr' e h => by subst e; exact ⟨HB.out, k + 1, by omega, by go_num, HSa.out h⟩
        have puts : ∀ wr' n, wr' = wr.setCell ⟨w.heap.size, k, none⟩ (.int .u8 n) → ((foldB lo da s[k]).toNat : Int) = n → (Below w.heap.size w wr' ∧ ∃ k' : Nat, k' ≤ s.size ∧ Value.int .i64 ((k : Int) + 1) = .int .i64 k' ∧ FoldAt lo da s wr' w.heap.size C.size k') := fun wr' n e h => by subst e; exact ⟨HB.out.setCell (Nat.le_refl _) _, k + 1, by omega, by go_num, HPu.out n h⟩
        have STAY := Lib.hid stay
        have PUTS := Lib.hid puts
        clear stay puts HSa HPu HB
        have hlo : (lo = true ∨ lo = false) ∧ (da = true ∨ da = false) := by cases lo <;> cases da <;> simp
        rcases hlo with ⟨rfl | rfl, rfl | rfl⟩
        all_goals
          rcases hkinds with ⟨t1, t2, t3, hb⟩ | ⟨t1, t2, t3, hb, hb'⟩ | ⟨t1, t2, t3, t4, t5, t6, hb, hb'⟩ | ⟨t1, t2, t3, hb, hb'⟩ | ⟨t1, t2, t3, t4, hb⟩
          all_goals
            have HBB := Lib.hid hb
            clear hb
            try have HBB' := Lib.hid hb'
            try clear hb'
            try have t7 : (c - 65 + 97 == 95) = false := by rw [beq_eq_false_iff_ne]; omega
            try have t8 : (c - 65 + 97 == 46) = false := by rw [beq_eq_false_iff_ne]; omega
            go_wp2_with fail
            go_roundw
            case rel =>
              first
                | exact STAY.out _ rfl HBB.out
                | exact STAY.out _ rfl HBB'.out
                | exact PUTS.out _ _ rfl HBB.out
                | exact PUTS.out _ 45 rfl (congrArg (fun b : UInt8 => (b.toNat : Int)) HBB.out)
                | (refine PUTS.out _ _ rfl (HBB.out.trans ?_); omega)
            case measure => simp [intOf]; omega
      · have e : k = s.size := by omega
        subst e
        have htx := HFo.out.text cap
        go_wp2_with fail
        go_ret
        exact ⟨rfl, HB.out⟩
  exact main _ _ rfl rfl
end Go.Proofs.Ytcpjdgbnfjdakaa
