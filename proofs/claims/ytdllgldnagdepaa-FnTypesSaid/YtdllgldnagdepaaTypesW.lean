/- FnTypes: each kind tells its name. (Printed by gen_cast.py.) -/
import Derived.Test.YtdllgldnagdepaaTypesA
import Derived.WalkKit
import Derived.KernelRfl
import Derived.RowKit3
import Derived.Deep.QuietTactic
import Derived.BigQuiet
import Derived.Lib.Hide
import Derived.Deep.DeepFit
import Derived.WalkSpells
import Derived.WalkLawsBesides
import Derived.Carry
import Derived.Deep.RegionHeld3
import Derived.Deep.CutRange
import Derived.Deep.CutBlock
namespace Go.Proofs.Ytdllgldnagdepaa
open Go.RowKit
set_option linter.unusedVariables false
set_option linter.unusedSimpArgs false

theorem heap_at' (w : World) (o : Obj) (n : Nat) (h : n = w.heap.size) : (w.alloc o).heap[n]? = some o := by
  subst h
  show (w.heap.push o)[w.heap.size]? = _
  simp
theorem cell_at' {w : World} {b : Nat} {cells : Array Value} {ty : TypeId} {fz : Nat × Nat} (h : w.heap[b]? = some (.cells cells ty fz)) (i : Nat) (v : Value) (hv : cells[i]? = some v) : w.cell? ⟨b, i, none⟩ = some v := by
  simp [World.cell?, h, hv]
set_option maxRecDepth 100000 in
theorem types_0 (w : World) : Calls Try.prog 3 #[.int .i64 0] w fun e w' => e = .returned (.bool true) ∧ Below w.heap.size w w' := by
  obtain ⟨w1, hw1⟩ : ∃ w1, w.alloc (.cells #[.string ⟨#[98, 111, 111, 108]⟩, .string ⟨#[105, 110, 116]⟩, .string ⟨#[105, 110, 116, 56]⟩, .string ⟨#[105, 110, 116, 49, 54]⟩, .string ⟨#[105, 110, 116, 51, 50]⟩, .string ⟨#[105, 110, 116, 54, 52]⟩, .string ⟨#[99, 111, 117, 110, 116]⟩, .string ⟨#[117, 105, 110, 116]⟩, .string ⟨#[117, 105, 110, 116, 56]⟩, .string ⟨#[117, 105, 110, 116, 49, 54]⟩, .string ⟨#[117, 105, 110, 116, 51, 50]⟩, .string ⟨#[117, 105, 110, 116, 54, 52]⟩, .string ⟨#[102, 108, 111, 97, 116, 51, 50]⟩, .string ⟨#[102, 108, 111, 97, 116, 54, 52]⟩, .string ⟨#[115, 116, 114, 105, 110, 103]⟩, .string ⟨#[100, 117, 114, 97, 116, 105, 111, 110]⟩, .string ⟨#[115, 116, 114, 105, 110, 103, 83, 108, 105, 99, 101]⟩, .string ⟨#[115, 116, 114, 105, 110, 103, 65, 114, 114, 97, 121]⟩, .string ⟨#[105, 110, 116, 83, 108, 105, 99, 101]⟩, .string ⟨#[98, 111, 111, 108, 83, 108, 105, 99, 101]⟩, .string ⟨#[115, 116, 114, 105, 110, 103, 84, 111, 83, 116, 114, 105, 110, 103]⟩] 9) = w1 := ⟨_, rfl⟩
  have hb1 : Below w.heap.size w w1 := by rw [← hw1]; exact (Below.refl _ _).alloc (Nat.le_refl _) _
  have hX : w1.heap[w.heap.size]? = some (.cells #[.string ⟨#[98, 111, 111, 108]⟩, .string ⟨#[105, 110, 116]⟩, .string ⟨#[105, 110, 116, 56]⟩, .string ⟨#[105, 110, 116, 49, 54]⟩, .string ⟨#[105, 110, 116, 51, 50]⟩, .string ⟨#[105, 110, 116, 54, 52]⟩, .string ⟨#[99, 111, 117, 110, 116]⟩, .string ⟨#[117, 105, 110, 116]⟩, .string ⟨#[117, 105, 110, 116, 56]⟩, .string ⟨#[117, 105, 110, 116, 49, 54]⟩, .string ⟨#[117, 105, 110, 116, 51, 50]⟩, .string ⟨#[117, 105, 110, 116, 54, 52]⟩, .string ⟨#[102, 108, 111, 97, 116, 51, 50]⟩, .string ⟨#[102, 108, 111, 97, 116, 54, 52]⟩, .string ⟨#[115, 116, 114, 105, 110, 103]⟩, .string ⟨#[100, 117, 114, 97, 116, 105, 111, 110]⟩, .string ⟨#[115, 116, 114, 105, 110, 103, 83, 108, 105, 99, 101]⟩, .string ⟨#[115, 116, 114, 105, 110, 103, 65, 114, 114, 97, 121]⟩, .string ⟨#[105, 110, 116, 83, 108, 105, 99, 101]⟩, .string ⟨#[98, 111, 111, 108, 83, 108, 105, 99, 101]⟩, .string ⟨#[115, 116, 114, 105, 110, 103, 84, 111, 83, 116, 114, 105, 110, 103]⟩] 9 (0, 0)) := by rw [← hw1]; exact heap_at' _ _ _ rfl
  have hlt : w.heap.size < w1.heap.size := by rw [← hw1]; simp only [World.size_alloc]; omega
  have HC := Lib.hid (fun wx (h : Below w1.heap.size w1 wx) => (show wx.cell? ⟨w.heap.size, 0, none⟩ = some (.string ⟨#[98, 111, 111, 108]⟩) from cell_at' ((h.block _ hlt).trans hX) 0 _ rfl))
  have C := Lib.hid (fun W => typeOf_0 W)
  have HB := Lib.hid hb1
  have hd1 := (Below.refl w1.heap.size w1).drew
  clear hX hb1
  go_enter Try.func3, Try.ntmps3
  go_upto_region 2 with fail
  go_region_held3 (fun wx => wx.cell? ⟨w.heap.size, 0, none⟩ = some (.string ⟨#[98, 111, 111, 108]⟩))
    (first
      | (with_reducible exact HC.out _ hd1)
      | (with_reducible exact HC.out _ hd2))
    (first
      | (go_simp; go_at_call 4; refine (C.out _).mono ?_; rintro e w2 ⟨rfl, hb2⟩; have hd2 := Below.after hd1 hb2)
      | fail)
  all_goals (go_wp2_with fail)
  all_goals go_ret
  all_goals exact ⟨rfl, Below.after HB.out hd2⟩
set_option maxRecDepth 100000 in
theorem types_1 (w : World) : Calls Try.prog 3 #[.int .i64 1] w fun e w' => e = .returned (.bool true) ∧ Below w.heap.size w w' := by
  obtain ⟨w1, hw1⟩ : ∃ w1, w.alloc (.cells #[.string ⟨#[98, 111, 111, 108]⟩, .string ⟨#[105, 110, 116]⟩, .string ⟨#[105, 110, 116, 56]⟩, .string ⟨#[105, 110, 116, 49, 54]⟩, .string ⟨#[105, 110, 116, 51, 50]⟩, .string ⟨#[105, 110, 116, 54, 52]⟩, .string ⟨#[99, 111, 117, 110, 116]⟩, .string ⟨#[117, 105, 110, 116]⟩, .string ⟨#[117, 105, 110, 116, 56]⟩, .string ⟨#[117, 105, 110, 116, 49, 54]⟩, .string ⟨#[117, 105, 110, 116, 51, 50]⟩, .string ⟨#[117, 105, 110, 116, 54, 52]⟩, .string ⟨#[102, 108, 111, 97, 116, 51, 50]⟩, .string ⟨#[102, 108, 111, 97, 116, 54, 52]⟩, .string ⟨#[115, 116, 114, 105, 110, 103]⟩, .string ⟨#[100, 117, 114, 97, 116, 105, 111, 110]⟩, .string ⟨#[115, 116, 114, 105, 110, 103, 83, 108, 105, 99, 101]⟩, .string ⟨#[115, 116, 114, 105, 110, 103, 65, 114, 114, 97, 121]⟩, .string ⟨#[105, 110, 116, 83, 108, 105, 99, 101]⟩, .string ⟨#[98, 111, 111, 108, 83, 108, 105, 99, 101]⟩, .string ⟨#[115, 116, 114, 105, 110, 103, 84, 111, 83, 116, 114, 105, 110, 103]⟩] 9) = w1 := ⟨_, rfl⟩
  have hb1 : Below w.heap.size w w1 := by rw [← hw1]; exact (Below.refl _ _).alloc (Nat.le_refl _) _
  have hX : w1.heap[w.heap.size]? = some (.cells #[.string ⟨#[98, 111, 111, 108]⟩, .string ⟨#[105, 110, 116]⟩, .string ⟨#[105, 110, 116, 56]⟩, .string ⟨#[105, 110, 116, 49, 54]⟩, .string ⟨#[105, 110, 116, 51, 50]⟩, .string ⟨#[105, 110, 116, 54, 52]⟩, .string ⟨#[99, 111, 117, 110, 116]⟩, .string ⟨#[117, 105, 110, 116]⟩, .string ⟨#[117, 105, 110, 116, 56]⟩, .string ⟨#[117, 105, 110, 116, 49, 54]⟩, .string ⟨#[117, 105, 110, 116, 51, 50]⟩, .string ⟨#[117, 105, 110, 116, 54, 52]⟩, .string ⟨#[102, 108, 111, 97, 116, 51, 50]⟩, .string ⟨#[102, 108, 111, 97, 116, 54, 52]⟩, .string ⟨#[115, 116, 114, 105, 110, 103]⟩, .string ⟨#[100, 117, 114, 97, 116, 105, 111, 110]⟩, .string ⟨#[115, 116, 114, 105, 110, 103, 83, 108, 105, 99, 101]⟩, .string ⟨#[115, 116, 114, 105, 110, 103, 65, 114, 114, 97, 121]⟩, .string ⟨#[105, 110, 116, 83, 108, 105, 99, 101]⟩, .string ⟨#[98, 111, 111, 108, 83, 108, 105, 99, 101]⟩, .string ⟨#[115, 116, 114, 105, 110, 103, 84, 111, 83, 116, 114, 105, 110, 103]⟩] 9 (0, 0)) := by rw [← hw1]; exact heap_at' _ _ _ rfl
  have hlt : w.heap.size < w1.heap.size := by rw [← hw1]; simp only [World.size_alloc]; omega
  have HC := Lib.hid (fun wx (h : Below w1.heap.size w1 wx) => (show wx.cell? ⟨w.heap.size, 1, none⟩ = some (.string ⟨#[105, 110, 116]⟩) from cell_at' ((h.block _ hlt).trans hX) 1 _ rfl))
  have C := Lib.hid (fun W => typeOf_1 W)
  have HB := Lib.hid hb1
  have hd1 := (Below.refl w1.heap.size w1).drew
  clear hX hb1
  go_enter Try.func3, Try.ntmps3
  go_upto_region 2 with fail
  go_region_held3 (fun wx => wx.cell? ⟨w.heap.size, 1, none⟩ = some (.string ⟨#[105, 110, 116]⟩))
    (first
      | (with_reducible exact HC.out _ hd1)
      | (with_reducible exact HC.out _ hd2))
    (first
      | (go_simp; go_at_call 4; refine (C.out _).mono ?_; rintro e w2 ⟨rfl, hb2⟩; have hd2 := Below.after hd1 hb2)
      | fail)
  all_goals (go_wp2_with fail)
  all_goals go_ret
  all_goals exact ⟨rfl, Below.after HB.out hd2⟩
set_option maxRecDepth 100000 in
theorem types_2 (w : World) : Calls Try.prog 3 #[.int .i64 2] w fun e w' => e = .returned (.bool true) ∧ Below w.heap.size w w' := by
  obtain ⟨w1, hw1⟩ : ∃ w1, w.alloc (.cells #[.string ⟨#[98, 111, 111, 108]⟩, .string ⟨#[105, 110, 116]⟩, .string ⟨#[105, 110, 116, 56]⟩, .string ⟨#[105, 110, 116, 49, 54]⟩, .string ⟨#[105, 110, 116, 51, 50]⟩, .string ⟨#[105, 110, 116, 54, 52]⟩, .string ⟨#[99, 111, 117, 110, 116]⟩, .string ⟨#[117, 105, 110, 116]⟩, .string ⟨#[117, 105, 110, 116, 56]⟩, .string ⟨#[117, 105, 110, 116, 49, 54]⟩, .string ⟨#[117, 105, 110, 116, 51, 50]⟩, .string ⟨#[117, 105, 110, 116, 54, 52]⟩, .string ⟨#[102, 108, 111, 97, 116, 51, 50]⟩, .string ⟨#[102, 108, 111, 97, 116, 54, 52]⟩, .string ⟨#[115, 116, 114, 105, 110, 103]⟩, .string ⟨#[100, 117, 114, 97, 116, 105, 111, 110]⟩, .string ⟨#[115, 116, 114, 105, 110, 103, 83, 108, 105, 99, 101]⟩, .string ⟨#[115, 116, 114, 105, 110, 103, 65, 114, 114, 97, 121]⟩, .string ⟨#[105, 110, 116, 83, 108, 105, 99, 101]⟩, .string ⟨#[98, 111, 111, 108, 83, 108, 105, 99, 101]⟩, .string ⟨#[115, 116, 114, 105, 110, 103, 84, 111, 83, 116, 114, 105, 110, 103]⟩] 9) = w1 := ⟨_, rfl⟩
  have hb1 : Below w.heap.size w w1 := by rw [← hw1]; exact (Below.refl _ _).alloc (Nat.le_refl _) _
  have hX : w1.heap[w.heap.size]? = some (.cells #[.string ⟨#[98, 111, 111, 108]⟩, .string ⟨#[105, 110, 116]⟩, .string ⟨#[105, 110, 116, 56]⟩, .string ⟨#[105, 110, 116, 49, 54]⟩, .string ⟨#[105, 110, 116, 51, 50]⟩, .string ⟨#[105, 110, 116, 54, 52]⟩, .string ⟨#[99, 111, 117, 110, 116]⟩, .string ⟨#[117, 105, 110, 116]⟩, .string ⟨#[117, 105, 110, 116, 56]⟩, .string ⟨#[117, 105, 110, 116, 49, 54]⟩, .string ⟨#[117, 105, 110, 116, 51, 50]⟩, .string ⟨#[117, 105, 110, 116, 54, 52]⟩, .string ⟨#[102, 108, 111, 97, 116, 51, 50]⟩, .string ⟨#[102, 108, 111, 97, 116, 54, 52]⟩, .string ⟨#[115, 116, 114, 105, 110, 103]⟩, .string ⟨#[100, 117, 114, 97, 116, 105, 111, 110]⟩, .string ⟨#[115, 116, 114, 105, 110, 103, 83, 108, 105, 99, 101]⟩, .string ⟨#[115, 116, 114, 105, 110, 103, 65, 114, 114, 97, 121]⟩, .string ⟨#[105, 110, 116, 83, 108, 105, 99, 101]⟩, .string ⟨#[98, 111, 111, 108, 83, 108, 105, 99, 101]⟩, .string ⟨#[115, 116, 114, 105, 110, 103, 84, 111, 83, 116, 114, 105, 110, 103]⟩] 9 (0, 0)) := by rw [← hw1]; exact heap_at' _ _ _ rfl
  have hlt : w.heap.size < w1.heap.size := by rw [← hw1]; simp only [World.size_alloc]; omega
  have HC := Lib.hid (fun wx (h : Below w1.heap.size w1 wx) => (show wx.cell? ⟨w.heap.size, 2, none⟩ = some (.string ⟨#[105, 110, 116, 56]⟩) from cell_at' ((h.block _ hlt).trans hX) 2 _ rfl))
  have C := Lib.hid (fun W => typeOf_2 W)
  have HB := Lib.hid hb1
  have hd1 := (Below.refl w1.heap.size w1).drew
  clear hX hb1
  go_enter Try.func3, Try.ntmps3
  go_upto_region 2 with fail
  go_region_held3 (fun wx => wx.cell? ⟨w.heap.size, 2, none⟩ = some (.string ⟨#[105, 110, 116, 56]⟩))
    (first
      | (with_reducible exact HC.out _ hd1)
      | (with_reducible exact HC.out _ hd2))
    (first
      | (go_simp; go_at_call 4; refine (C.out _).mono ?_; rintro e w2 ⟨rfl, hb2⟩; have hd2 := Below.after hd1 hb2)
      | fail)
  all_goals (go_wp2_with fail)
  all_goals go_ret
  all_goals exact ⟨rfl, Below.after HB.out hd2⟩
set_option maxRecDepth 100000 in
theorem types_3 (w : World) : Calls Try.prog 3 #[.int .i64 3] w fun e w' => e = .returned (.bool true) ∧ Below w.heap.size w w' := by
  obtain ⟨w1, hw1⟩ : ∃ w1, w.alloc (.cells #[.string ⟨#[98, 111, 111, 108]⟩, .string ⟨#[105, 110, 116]⟩, .string ⟨#[105, 110, 116, 56]⟩, .string ⟨#[105, 110, 116, 49, 54]⟩, .string ⟨#[105, 110, 116, 51, 50]⟩, .string ⟨#[105, 110, 116, 54, 52]⟩, .string ⟨#[99, 111, 117, 110, 116]⟩, .string ⟨#[117, 105, 110, 116]⟩, .string ⟨#[117, 105, 110, 116, 56]⟩, .string ⟨#[117, 105, 110, 116, 49, 54]⟩, .string ⟨#[117, 105, 110, 116, 51, 50]⟩, .string ⟨#[117, 105, 110, 116, 54, 52]⟩, .string ⟨#[102, 108, 111, 97, 116, 51, 50]⟩, .string ⟨#[102, 108, 111, 97, 116, 54, 52]⟩, .string ⟨#[115, 116, 114, 105, 110, 103]⟩, .string ⟨#[100, 117, 114, 97, 116, 105, 111, 110]⟩, .string ⟨#[115, 116, 114, 105, 110, 103, 83, 108, 105, 99, 101]⟩, .string ⟨#[115, 116, 114, 105, 110, 103, 65, 114, 114, 97, 121]⟩, .string ⟨#[105, 110, 116, 83, 108, 105, 99, 101]⟩, .string ⟨#[98, 111, 111, 108, 83, 108, 105, 99, 101]⟩, .string ⟨#[115, 116, 114, 105, 110, 103, 84, 111, 83, 116, 114, 105, 110, 103]⟩] 9) = w1 := ⟨_, rfl⟩
  have hb1 : Below w.heap.size w w1 := by rw [← hw1]; exact (Below.refl _ _).alloc (Nat.le_refl _) _
  have hX : w1.heap[w.heap.size]? = some (.cells #[.string ⟨#[98, 111, 111, 108]⟩, .string ⟨#[105, 110, 116]⟩, .string ⟨#[105, 110, 116, 56]⟩, .string ⟨#[105, 110, 116, 49, 54]⟩, .string ⟨#[105, 110, 116, 51, 50]⟩, .string ⟨#[105, 110, 116, 54, 52]⟩, .string ⟨#[99, 111, 117, 110, 116]⟩, .string ⟨#[117, 105, 110, 116]⟩, .string ⟨#[117, 105, 110, 116, 56]⟩, .string ⟨#[117, 105, 110, 116, 49, 54]⟩, .string ⟨#[117, 105, 110, 116, 51, 50]⟩, .string ⟨#[117, 105, 110, 116, 54, 52]⟩, .string ⟨#[102, 108, 111, 97, 116, 51, 50]⟩, .string ⟨#[102, 108, 111, 97, 116, 54, 52]⟩, .string ⟨#[115, 116, 114, 105, 110, 103]⟩, .string ⟨#[100, 117, 114, 97, 116, 105, 111, 110]⟩, .string ⟨#[115, 116, 114, 105, 110, 103, 83, 108, 105, 99, 101]⟩, .string ⟨#[115, 116, 114, 105, 110, 103, 65, 114, 114, 97, 121]⟩, .string ⟨#[105, 110, 116, 83, 108, 105, 99, 101]⟩, .string ⟨#[98, 111, 111, 108, 83, 108, 105, 99, 101]⟩, .string ⟨#[115, 116, 114, 105, 110, 103, 84, 111, 83, 116, 114, 105, 110, 103]⟩] 9 (0, 0)) := by rw [← hw1]; exact heap_at' _ _ _ rfl
  have hlt : w.heap.size < w1.heap.size := by rw [← hw1]; simp only [World.size_alloc]; omega
  have HC := Lib.hid (fun wx (h : Below w1.heap.size w1 wx) => (show wx.cell? ⟨w.heap.size, 3, none⟩ = some (.string ⟨#[105, 110, 116, 49, 54]⟩) from cell_at' ((h.block _ hlt).trans hX) 3 _ rfl))
  have C := Lib.hid (fun W => typeOf_3 W)
  have HB := Lib.hid hb1
  have hd1 := (Below.refl w1.heap.size w1).drew
  clear hX hb1
  go_enter Try.func3, Try.ntmps3
  go_upto_region 2 with fail
  go_region_held3 (fun wx => wx.cell? ⟨w.heap.size, 3, none⟩ = some (.string ⟨#[105, 110, 116, 49, 54]⟩))
    (first
      | (with_reducible exact HC.out _ hd1)
      | (with_reducible exact HC.out _ hd2))
    (first
      | (go_simp; go_at_call 4; refine (C.out _).mono ?_; rintro e w2 ⟨rfl, hb2⟩; have hd2 := Below.after hd1 hb2)
      | fail)
  all_goals (go_wp2_with fail)
  all_goals go_ret
  all_goals exact ⟨rfl, Below.after HB.out hd2⟩
set_option maxRecDepth 100000 in
theorem types_4 (w : World) : Calls Try.prog 3 #[.int .i64 4] w fun e w' => e = .returned (.bool true) ∧ Below w.heap.size w w' := by
  obtain ⟨w1, hw1⟩ : ∃ w1, w.alloc (.cells #[.string ⟨#[98, 111, 111, 108]⟩, .string ⟨#[105, 110, 116]⟩, .string ⟨#[105, 110, 116, 56]⟩, .string ⟨#[105, 110, 116, 49, 54]⟩, .string ⟨#[105, 110, 116, 51, 50]⟩, .string ⟨#[105, 110, 116, 54, 52]⟩, .string ⟨#[99, 111, 117, 110, 116]⟩, .string ⟨#[117, 105, 110, 116]⟩, .string ⟨#[117, 105, 110, 116, 56]⟩, .string ⟨#[117, 105, 110, 116, 49, 54]⟩, .string ⟨#[117, 105, 110, 116, 51, 50]⟩, .string ⟨#[117, 105, 110, 116, 54, 52]⟩, .string ⟨#[102, 108, 111, 97, 116, 51, 50]⟩, .string ⟨#[102, 108, 111, 97, 116, 54, 52]⟩, .string ⟨#[115, 116, 114, 105, 110, 103]⟩, .string ⟨#[100, 117, 114, 97, 116, 105, 111, 110]⟩, .string ⟨#[115, 116, 114, 105, 110, 103, 83, 108, 105, 99, 101]⟩, .string ⟨#[115, 116, 114, 105, 110, 103, 65, 114, 114, 97, 121]⟩, .string ⟨#[105, 110, 116, 83, 108, 105, 99, 101]⟩, .string ⟨#[98, 111, 111, 108, 83, 108, 105, 99, 101]⟩, .string ⟨#[115, 116, 114, 105, 110, 103, 84, 111, 83, 116, 114, 105, 110, 103]⟩] 9) = w1 := ⟨_, rfl⟩
  have hb1 : Below w.heap.size w w1 := by rw [← hw1]; exact (Below.refl _ _).alloc (Nat.le_refl _) _
  have hX : w1.heap[w.heap.size]? = some (.cells #[.string ⟨#[98, 111, 111, 108]⟩, .string ⟨#[105, 110, 116]⟩, .string ⟨#[105, 110, 116, 56]⟩, .string ⟨#[105, 110, 116, 49, 54]⟩, .string ⟨#[105, 110, 116, 51, 50]⟩, .string ⟨#[105, 110, 116, 54, 52]⟩, .string ⟨#[99, 111, 117, 110, 116]⟩, .string ⟨#[117, 105, 110, 116]⟩, .string ⟨#[117, 105, 110, 116, 56]⟩, .string ⟨#[117, 105, 110, 116, 49, 54]⟩, .string ⟨#[117, 105, 110, 116, 51, 50]⟩, .string ⟨#[117, 105, 110, 116, 54, 52]⟩, .string ⟨#[102, 108, 111, 97, 116, 51, 50]⟩, .string ⟨#[102, 108, 111, 97, 116, 54, 52]⟩, .string ⟨#[115, 116, 114, 105, 110, 103]⟩, .string ⟨#[100, 117, 114, 97, 116, 105, 111, 110]⟩, .string ⟨#[115, 116, 114, 105, 110, 103, 83, 108, 105, 99, 101]⟩, .string ⟨#[115, 116, 114, 105, 110, 103, 65, 114, 114, 97, 121]⟩, .string ⟨#[105, 110, 116, 83, 108, 105, 99, 101]⟩, .string ⟨#[98, 111, 111, 108, 83, 108, 105, 99, 101]⟩, .string ⟨#[115, 116, 114, 105, 110, 103, 84, 111, 83, 116, 114, 105, 110, 103]⟩] 9 (0, 0)) := by rw [← hw1]; exact heap_at' _ _ _ rfl
  have hlt : w.heap.size < w1.heap.size := by rw [← hw1]; simp only [World.size_alloc]; omega
  have HC := Lib.hid (fun wx (h : Below w1.heap.size w1 wx) => (show wx.cell? ⟨w.heap.size, 4, none⟩ = some (.string ⟨#[105, 110, 116, 51, 50]⟩) from cell_at' ((h.block _ hlt).trans hX) 4 _ rfl))
  have C := Lib.hid (fun W => typeOf_4 W)
  have HB := Lib.hid hb1
  have hd1 := (Below.refl w1.heap.size w1).drew
  clear hX hb1
  go_enter Try.func3, Try.ntmps3
  go_upto_region 2 with fail
  go_region_held3 (fun wx => wx.cell? ⟨w.heap.size, 4, none⟩ = some (.string ⟨#[105, 110, 116, 51, 50]⟩))
    (first
      | (with_reducible exact HC.out _ hd1)
      | (with_reducible exact HC.out _ hd2))
    (first
      | (go_simp; go_at_call 4; refine (C.out _).mono ?_; rintro e w2 ⟨rfl, hb2⟩; have hd2 := Below.after hd1 hb2)
      | fail)
  all_goals (go_wp2_with fail)
  all_goals go_ret
  all_goals exact ⟨rfl, Below.after HB.out hd2⟩
set_option maxRecDepth 100000 in
theorem types_5 (w : World) : Calls Try.prog 3 #[.int .i64 5] w fun e w' => e = .returned (.bool true) ∧ Below w.heap.size w w' := by
  obtain ⟨w1, hw1⟩ : ∃ w1, w.alloc (.cells #[.string ⟨#[98, 111, 111, 108]⟩, .string ⟨#[105, 110, 116]⟩, .string ⟨#[105, 110, 116, 56]⟩, .string ⟨#[105, 110, 116, 49, 54]⟩, .string ⟨#[105, 110, 116, 51, 50]⟩, .string ⟨#[105, 110, 116, 54, 52]⟩, .string ⟨#[99, 111, 117, 110, 116]⟩, .string ⟨#[117, 105, 110, 116]⟩, .string ⟨#[117, 105, 110, 116, 56]⟩, .string ⟨#[117, 105, 110, 116, 49, 54]⟩, .string ⟨#[117, 105, 110, 116, 51, 50]⟩, .string ⟨#[117, 105, 110, 116, 54, 52]⟩, .string ⟨#[102, 108, 111, 97, 116, 51, 50]⟩, .string ⟨#[102, 108, 111, 97, 116, 54, 52]⟩, .string ⟨#[115, 116, 114, 105, 110, 103]⟩, .string ⟨#[100, 117, 114, 97, 116, 105, 111, 110]⟩, .string ⟨#[115, 116, 114, 105, 110, 103, 83, 108, 105, 99, 101]⟩, .string ⟨#[115, 116, 114, 105, 110, 103, 65, 114, 114, 97, 121]⟩, .string ⟨#[105, 110, 116, 83, 108, 105, 99, 101]⟩, .string ⟨#[98, 111, 111, 108, 83, 108, 105, 99, 101]⟩, .string ⟨#[115, 116, 114, 105, 110, 103, 84, 111, 83, 116, 114, 105, 110, 103]⟩] 9) = w1 := ⟨_, rfl⟩
  have hb1 : Below w.heap.size w w1 := by rw [← hw1]; exact (Below.refl _ _).alloc (Nat.le_refl _) _
  have hX : w1.heap[w.heap.size]? = some (.cells #[.string ⟨#[98, 111, 111, 108]⟩, .string ⟨#[105, 110, 116]⟩, .string ⟨#[105, 110, 116, 56]⟩, .string ⟨#[105, 110, 116, 49, 54]⟩, .string ⟨#[105, 110, 116, 51, 50]⟩, .string ⟨#[105, 110, 116, 54, 52]⟩, .string ⟨#[99, 111, 117, 110, 116]⟩, .string ⟨#[117, 105, 110, 116]⟩, .string ⟨#[117, 105, 110, 116, 56]⟩, .string ⟨#[117, 105, 110, 116, 49, 54]⟩, .string ⟨#[117, 105, 110, 116, 51, 50]⟩, .string ⟨#[117, 105, 110, 116, 54, 52]⟩, .string ⟨#[102, 108, 111, 97, 116, 51, 50]⟩, .string ⟨#[102, 108, 111, 97, 116, 54, 52]⟩, .string ⟨#[115, 116, 114, 105, 110, 103]⟩, .string ⟨#[100, 117, 114, 97, 116, 105, 111, 110]⟩, .string ⟨#[115, 116, 114, 105, 110, 103, 83, 108, 105, 99, 101]⟩, .string ⟨#[115, 116, 114, 105, 110, 103, 65, 114, 114, 97, 121]⟩, .string ⟨#[105, 110, 116, 83, 108, 105, 99, 101]⟩, .string ⟨#[98, 111, 111, 108, 83, 108, 105, 99, 101]⟩, .string ⟨#[115, 116, 114, 105, 110, 103, 84, 111, 83, 116, 114, 105, 110, 103]⟩] 9 (0, 0)) := by rw [← hw1]; exact heap_at' _ _ _ rfl
  have hlt : w.heap.size < w1.heap.size := by rw [← hw1]; simp only [World.size_alloc]; omega
  have HC := Lib.hid (fun wx (h : Below w1.heap.size w1 wx) => (show wx.cell? ⟨w.heap.size, 5, none⟩ = some (.string ⟨#[105, 110, 116, 54, 52]⟩) from cell_at' ((h.block _ hlt).trans hX) 5 _ rfl))
  have C := Lib.hid (fun W => typeOf_5 W)
  have HB := Lib.hid hb1
  have hd1 := (Below.refl w1.heap.size w1).drew
  clear hX hb1
  go_enter Try.func3, Try.ntmps3
  go_upto_region 2 with fail
  go_region_held3 (fun wx => wx.cell? ⟨w.heap.size, 5, none⟩ = some (.string ⟨#[105, 110, 116, 54, 52]⟩))
    (first
      | (with_reducible exact HC.out _ hd1)
      | (with_reducible exact HC.out _ hd2))
    (first
      | (go_simp; go_at_call 4; refine (C.out _).mono ?_; rintro e w2 ⟨rfl, hb2⟩; have hd2 := Below.after hd1 hb2)
      | fail)
  all_goals (go_wp2_with fail)
  all_goals go_ret
  all_goals exact ⟨rfl, Below.after HB.out hd2⟩
set_option maxRecDepth 100000 in
theorem types_6 (w : World) : Calls Try.prog 3 #[.int .i64 6] w fun e w' => e = .returned (.bool true) ∧ Below w.heap.size w w' := by
  obtain ⟨w1, hw1⟩ : ∃ w1, w.alloc (.cells #[.string ⟨#[98, 111, 111, 108]⟩, .string ⟨#[105, 110, 116]⟩, .string ⟨#[105, 110, 116, 56]⟩, .string ⟨#[105, 110, 116, 49, 54]⟩, .string ⟨#[105, 110, 116, 51, 50]⟩, .string ⟨#[105, 110, 116, 54, 52]⟩, .string ⟨#[99, 111, 117, 110, 116]⟩, .string ⟨#[117, 105, 110, 116]⟩, .string ⟨#[117, 105, 110, 116, 56]⟩, .string ⟨#[117, 105, 110, 116, 49, 54]⟩, .string ⟨#[117, 105, 110, 116, 51, 50]⟩, .string ⟨#[117, 105, 110, 116, 54, 52]⟩, .string ⟨#[102, 108, 111, 97, 116, 51, 50]⟩, .string ⟨#[102, 108, 111, 97, 116, 54, 52]⟩, .string ⟨#[115, 116, 114, 105, 110, 103]⟩, .string ⟨#[100, 117, 114, 97, 116, 105, 111, 110]⟩, .string ⟨#[115, 116, 114, 105, 110, 103, 83, 108, 105, 99, 101]⟩, .string ⟨#[115, 116, 114, 105, 110, 103, 65, 114, 114, 97, 121]⟩, .string ⟨#[105, 110, 116, 83, 108, 105, 99, 101]⟩, .string ⟨#[98, 111, 111, 108, 83, 108, 105, 99, 101]⟩, .string ⟨#[115, 116, 114, 105, 110, 103, 84, 111, 83, 116, 114, 105, 110, 103]⟩] 9) = w1 := ⟨_, rfl⟩
  have hb1 : Below w.heap.size w w1 := by rw [← hw1]; exact (Below.refl _ _).alloc (Nat.le_refl _) _
  have hX : w1.heap[w.heap.size]? = some (.cells #[.string ⟨#[98, 111, 111, 108]⟩, .string ⟨#[105, 110, 116]⟩, .string ⟨#[105, 110, 116, 56]⟩, .string ⟨#[105, 110, 116, 49, 54]⟩, .string ⟨#[105, 110, 116, 51, 50]⟩, .string ⟨#[105, 110, 116, 54, 52]⟩, .string ⟨#[99, 111, 117, 110, 116]⟩, .string ⟨#[117, 105, 110, 116]⟩, .string ⟨#[117, 105, 110, 116, 56]⟩, .string ⟨#[117, 105, 110, 116, 49, 54]⟩, .string ⟨#[117, 105, 110, 116, 51, 50]⟩, .string ⟨#[117, 105, 110, 116, 54, 52]⟩, .string ⟨#[102, 108, 111, 97, 116, 51, 50]⟩, .string ⟨#[102, 108, 111, 97, 116, 54, 52]⟩, .string ⟨#[115, 116, 114, 105, 110, 103]⟩, .string ⟨#[100, 117, 114, 97, 116, 105, 111, 110]⟩, .string ⟨#[115, 116, 114, 105, 110, 103, 83, 108, 105, 99, 101]⟩, .string ⟨#[115, 116, 114, 105, 110, 103, 65, 114, 114, 97, 121]⟩, .string ⟨#[105, 110, 116, 83, 108, 105, 99, 101]⟩, .string ⟨#[98, 111, 111, 108, 83, 108, 105, 99, 101]⟩, .string ⟨#[115, 116, 114, 105, 110, 103, 84, 111, 83, 116, 114, 105, 110, 103]⟩] 9 (0, 0)) := by rw [← hw1]; exact heap_at' _ _ _ rfl
  have hlt : w.heap.size < w1.heap.size := by rw [← hw1]; simp only [World.size_alloc]; omega
  have HC := Lib.hid (fun wx (h : Below w1.heap.size w1 wx) => (show wx.cell? ⟨w.heap.size, 6, none⟩ = some (.string ⟨#[99, 111, 117, 110, 116]⟩) from cell_at' ((h.block _ hlt).trans hX) 6 _ rfl))
  have C := Lib.hid (fun W => typeOf_6 W)
  have HB := Lib.hid hb1
  have hd1 := (Below.refl w1.heap.size w1).drew
  clear hX hb1
  go_enter Try.func3, Try.ntmps3
  go_upto_region 2 with fail
  go_region_held3 (fun wx => wx.cell? ⟨w.heap.size, 6, none⟩ = some (.string ⟨#[99, 111, 117, 110, 116]⟩))
    (first
      | (with_reducible exact HC.out _ hd1)
      | (with_reducible exact HC.out _ hd2))
    (first
      | (go_simp; go_at_call 4; refine (C.out _).mono ?_; rintro e w2 ⟨rfl, hb2⟩; have hd2 := Below.after hd1 hb2)
      | fail)
  all_goals (go_wp2_with fail)
  all_goals go_ret
  all_goals exact ⟨rfl, Below.after HB.out hd2⟩
set_option maxRecDepth 100000 in
theorem types_7 (w : World) : Calls Try.prog 3 #[.int .i64 7] w fun e w' => e = .returned (.bool true) ∧ Below w.heap.size w w' := by
  obtain ⟨w1, hw1⟩ : ∃ w1, w.alloc (.cells #[.string ⟨#[98, 111, 111, 108]⟩, .string ⟨#[105, 110, 116]⟩, .string ⟨#[105, 110, 116, 56]⟩, .string ⟨#[105, 110, 116, 49, 54]⟩, .string ⟨#[105, 110, 116, 51, 50]⟩, .string ⟨#[105, 110, 116, 54, 52]⟩, .string ⟨#[99, 111, 117, 110, 116]⟩, .string ⟨#[117, 105, 110, 116]⟩, .string ⟨#[117, 105, 110, 116, 56]⟩, .string ⟨#[117, 105, 110, 116, 49, 54]⟩, .string ⟨#[117, 105, 110, 116, 51, 50]⟩, .string ⟨#[117, 105, 110, 116, 54, 52]⟩, .string ⟨#[102, 108, 111, 97, 116, 51, 50]⟩, .string ⟨#[102, 108, 111, 97, 116, 54, 52]⟩, .string ⟨#[115, 116, 114, 105, 110, 103]⟩, .string ⟨#[100, 117, 114, 97, 116, 105, 111, 110]⟩, .string ⟨#[115, 116, 114, 105, 110, 103, 83, 108, 105, 99, 101]⟩, .string ⟨#[115, 116, 114, 105, 110, 103, 65, 114, 114, 97, 121]⟩, .string ⟨#[105, 110, 116, 83, 108, 105, 99, 101]⟩, .string ⟨#[98, 111, 111, 108, 83, 108, 105, 99, 101]⟩, .string ⟨#[115, 116, 114, 105, 110, 103, 84, 111, 83, 116, 114, 105, 110, 103]⟩] 9) = w1 := ⟨_, rfl⟩
  have hb1 : Below w.heap.size w w1 := by rw [← hw1]; exact (Below.refl _ _).alloc (Nat.le_refl _) _
  have hX : w1.heap[w.heap.size]? = some (.cells #[.string ⟨#[98, 111, 111, 108]⟩, .string ⟨#[105, 110, 116]⟩, .string ⟨#[105, 110, 116, 56]⟩, .string ⟨#[105, 110, 116, 49, 54]⟩, .string ⟨#[105, 110, 116, 51, 50]⟩, .string ⟨#[105, 110, 116, 54, 52]⟩, .string ⟨#[99, 111, 117, 110, 116]⟩, .string ⟨#[117, 105, 110, 116]⟩, .string ⟨#[117, 105, 110, 116, 56]⟩, .string ⟨#[117, 105, 110, 116, 49, 54]⟩, .string ⟨#[117, 105, 110, 116, 51, 50]⟩, .string ⟨#[117, 105, 110, 116, 54, 52]⟩, .string ⟨#[102, 108, 111, 97, 116, 51, 50]⟩, .string ⟨#[102, 108, 111, 97, 116, 54, 52]⟩, .string ⟨#[115, 116, 114, 105, 110, 103]⟩, .string ⟨#[100, 117, 114, 97, 116, 105, 111, 110]⟩, .string ⟨#[115, 116, 114, 105, 110, 103, 83, 108, 105, 99, 101]⟩, .string ⟨#[115, 116, 114, 105, 110, 103, 65, 114, 114, 97, 121]⟩, .string ⟨#[105, 110, 116, 83, 108, 105, 99, 101]⟩, .string ⟨#[98, 111, 111, 108, 83, 108, 105, 99, 101]⟩, .string ⟨#[115, 116, 114, 105, 110, 103, 84, 111, 83, 116, 114, 105, 110, 103]⟩] 9 (0, 0)) := by rw [← hw1]; exact heap_at' _ _ _ rfl
  have hlt : w.heap.size < w1.heap.size := by rw [← hw1]; simp only [World.size_alloc]; omega
  have HC := Lib.hid (fun wx (h : Below w1.heap.size w1 wx) => (show wx.cell? ⟨w.heap.size, 7, none⟩ = some (.string ⟨#[117, 105, 110, 116]⟩) from cell_at' ((h.block _ hlt).trans hX) 7 _ rfl))
  have C := Lib.hid (fun W => typeOf_7 W)
  have HB := Lib.hid hb1
  have hd1 := (Below.refl w1.heap.size w1).drew
  clear hX hb1
  go_enter Try.func3, Try.ntmps3
  go_upto_region 2 with fail
  go_region_held3 (fun wx => wx.cell? ⟨w.heap.size, 7, none⟩ = some (.string ⟨#[117, 105, 110, 116]⟩))
    (first
      | (with_reducible exact HC.out _ hd1)
      | (with_reducible exact HC.out _ hd2))
    (first
      | (go_simp; go_at_call 4; refine (C.out _).mono ?_; rintro e w2 ⟨rfl, hb2⟩; have hd2 := Below.after hd1 hb2)
      | fail)
  all_goals (go_wp2_with fail)
  all_goals go_ret
  all_goals exact ⟨rfl, Below.after HB.out hd2⟩
set_option maxRecDepth 100000 in
theorem types_8 (w : World) : Calls Try.prog 3 #[.int .i64 8] w fun e w' => e = .returned (.bool true) ∧ Below w.heap.size w w' := by
  obtain ⟨w1, hw1⟩ : ∃ w1, w.alloc (.cells #[.string ⟨#[98, 111, 111, 108]⟩, .string ⟨#[105, 110, 116]⟩, .string ⟨#[105, 110, 116, 56]⟩, .string ⟨#[105, 110, 116, 49, 54]⟩, .string ⟨#[105, 110, 116, 51, 50]⟩, .string ⟨#[105, 110, 116, 54, 52]⟩, .string ⟨#[99, 111, 117, 110, 116]⟩, .string ⟨#[117, 105, 110, 116]⟩, .string ⟨#[117, 105, 110, 116, 56]⟩, .string ⟨#[117, 105, 110, 116, 49, 54]⟩, .string ⟨#[117, 105, 110, 116, 51, 50]⟩, .string ⟨#[117, 105, 110, 116, 54, 52]⟩, .string ⟨#[102, 108, 111, 97, 116, 51, 50]⟩, .string ⟨#[102, 108, 111, 97, 116, 54, 52]⟩, .string ⟨#[115, 116, 114, 105, 110, 103]⟩, .string ⟨#[100, 117, 114, 97, 116, 105, 111, 110]⟩, .string ⟨#[115, 116, 114, 105, 110, 103, 83, 108, 105, 99, 101]⟩, .string ⟨#[115, 116, 114, 105, 110, 103, 65, 114, 114, 97, 121]⟩, .string ⟨#[105, 110, 116, 83, 108, 105, 99, 101]⟩, .string ⟨#[98, 111, 111, 108, 83, 108, 105, 99, 101]⟩, .string ⟨#[115, 116, 114, 105, 110, 103, 84, 111, 83, 116, 114, 105, 110, 103]⟩] 9) = w1 := ⟨_, rfl⟩
  have hb1 : Below w.heap.size w w1 := by rw [← hw1]; exact (Below.refl _ _).alloc (Nat.le_refl _) _
  have hX : w1.heap[w.heap.size]? = some (.cells #[.string ⟨#[98, 111, 111, 108]⟩, .string ⟨#[105, 110, 116]⟩, .string ⟨#[105, 110, 116, 56]⟩, .string ⟨#[105, 110, 116, 49, 54]⟩, .string ⟨#[105, 110, 116, 51, 50]⟩, .string ⟨#[105, 110, 116, 54, 52]⟩, .string ⟨#[99, 111, 117, 110, 116]⟩, .string ⟨#[117, 105, 110, 116]⟩, .string ⟨#[117, 105, 110, 116, 56]⟩, .string ⟨#[117, 105, 110, 116, 49, 54]⟩, .string ⟨#[117, 105, 110, 116, 51, 50]⟩, .string ⟨#[117, 105, 110, 116, 54, 52]⟩, .string ⟨#[102, 108, 111, 97, 116, 51, 50]⟩, .string ⟨#[102, 108, 111, 97, 116, 54, 52]⟩, .string ⟨#[115, 116, 114, 105, 110, 103]⟩, .string ⟨#[100, 117, 114, 97, 116, 105, 111, 110]⟩, .string ⟨#[115, 116, 114, 105, 110, 103, 83, 108, 105, 99, 101]⟩, .string ⟨#[115, 116, 114, 105, 110, 103, 65, 114, 114, 97, 121]⟩, .string ⟨#[105, 110, 116, 83, 108, 105, 99, 101]⟩, .string ⟨#[98, 111, 111, 108, 83, 108, 105, 99, 101]⟩, .string ⟨#[115, 116, 114, 105, 110, 103, 84, 111, 83, 116, 114, 105, 110, 103]⟩] 9 (0, 0)) := by rw [← hw1]; exact heap_at' _ _ _ rfl
  have hlt : w.heap.size < w1.heap.size := by rw [← hw1]; simp only [World.size_alloc]; omega
  have HC := Lib.hid (fun wx (h : Below w1.heap.size w1 wx) => (show wx.cell? ⟨w.heap.size, 8, none⟩ = some (.string ⟨#[117, 105, 110, 116, 56]⟩) from cell_at' ((h.block _ hlt).trans hX) 8 _ rfl))
  have C := Lib.hid (fun W => typeOf_8 W)
  have HB := Lib.hid hb1
  have hd1 := (Below.refl w1.heap.size w1).drew
  clear hX hb1
  go_enter Try.func3, Try.ntmps3
  go_upto_region 2 with fail
  go_region_held3 (fun wx => wx.cell? ⟨w.heap.size, 8, none⟩ = some (.string ⟨#[117, 105, 110, 116, 56]⟩))
    (first
      | (with_reducible exact HC.out _ hd1)
      | (with_reducible exact HC.out _ hd2))
    (first
      | (go_simp; go_at_call 4; refine (C.out _).mono ?_; rintro e w2 ⟨rfl, hb2⟩; have hd2 := Below.after hd1 hb2)
      | fail)
  all_goals (go_wp2_with fail)
  all_goals go_ret
  all_goals exact ⟨rfl, Below.after HB.out hd2⟩
set_option maxRecDepth 100000 in
theorem types_9 (w : World) : Calls Try.prog 3 #[.int .i64 9] w fun e w' => e = .returned (.bool true) ∧ Below w.heap.size w w' := by
  obtain ⟨w1, hw1⟩ : ∃ w1, w.alloc (.cells #[.string ⟨#[98, 111, 111, 108]⟩, .string ⟨#[105, 110, 116]⟩, .string ⟨#[105, 110, 116, 56]⟩, .string ⟨#[105, 110, 116, 49, 54]⟩, .string ⟨#[105, 110, 116, 51, 50]⟩, .string ⟨#[105, 110, 116, 54, 52]⟩, .string ⟨#[99, 111, 117, 110, 116]⟩, .string ⟨#[117, 105, 110, 116]⟩, .string ⟨#[117, 105, 110, 116, 56]⟩, .string ⟨#[117, 105, 110, 116, 49, 54]⟩, .string ⟨#[117, 105, 110, 116, 51, 50]⟩, .string ⟨#[117, 105, 110, 116, 54, 52]⟩, .string ⟨#[102, 108, 111, 97, 116, 51, 50]⟩, .string ⟨#[102, 108, 111, 97, 116, 54, 52]⟩, .string ⟨#[115, 116, 114, 105, 110, 103]⟩, .string ⟨#[100, 117, 114, 97, 116, 105, 111, 110]⟩, .string ⟨#[115, 116, 114, 105, 110, 103, 83, 108, 105, 99, 101]⟩, .string ⟨#[115, 116, 114, 105, 110, 103, 65, 114, 114, 97, 121]⟩, .string ⟨#[105, 110, 116, 83, 108, 105, 99, 101]⟩, .string ⟨#[98, 111, 111, 108, 83, 108, 105, 99, 101]⟩, .string ⟨#[115, 116, 114, 105, 110, 103, 84, 111, 83, 116, 114, 105, 110, 103]⟩] 9) = w1 := ⟨_, rfl⟩
  have hb1 : Below w.heap.size w w1 := by rw [← hw1]; exact (Below.refl _ _).alloc (Nat.le_refl _) _
  have hX : w1.heap[w.heap.size]? = some (.cells #[.string ⟨#[98, 111, 111, 108]⟩, .string ⟨#[105, 110, 116]⟩, .string ⟨#[105, 110, 116, 56]⟩, .string ⟨#[105, 110, 116, 49, 54]⟩, .string ⟨#[105, 110, 116, 51, 50]⟩, .string ⟨#[105, 110, 116, 54, 52]⟩, .string ⟨#[99, 111, 117, 110, 116]⟩, .string ⟨#[117, 105, 110, 116]⟩, .string ⟨#[117, 105, 110, 116, 56]⟩, .string ⟨#[117, 105, 110, 116, 49, 54]⟩, .string ⟨#[117, 105, 110, 116, 51, 50]⟩, .string ⟨#[117, 105, 110, 116, 54, 52]⟩, .string ⟨#[102, 108, 111, 97, 116, 51, 50]⟩, .string ⟨#[102, 108, 111, 97, 116, 54, 52]⟩, .string ⟨#[115, 116, 114, 105, 110, 103]⟩, .string ⟨#[100, 117, 114, 97, 116, 105, 111, 110]⟩, .string ⟨#[115, 116, 114, 105, 110, 103, 83, 108, 105, 99, 101]⟩, .string ⟨#[115, 116, 114, 105, 110, 103, 65, 114, 114, 97, 121]⟩, .string ⟨#[105, 110, 116, 83, 108, 105, 99, 101]⟩, .string ⟨#[98, 111, 111, 108, 83, 108, 105, 99, 101]⟩, .string ⟨#[115, 116, 114, 105, 110, 103, 84, 111, 83, 116, 114, 105, 110, 103]⟩] 9 (0, 0)) := by rw [← hw1]; exact heap_at' _ _ _ rfl
  have hlt : w.heap.size < w1.heap.size := by rw [← hw1]; simp only [World.size_alloc]; omega
  have HC := Lib.hid (fun wx (h : Below w1.heap.size w1 wx) => (show wx.cell? ⟨w.heap.size, 9, none⟩ = some (.string ⟨#[117, 105, 110, 116, 49, 54]⟩) from cell_at' ((h.block _ hlt).trans hX) 9 _ rfl))
  have C := Lib.hid (fun W => typeOf_9 W)
  have HB := Lib.hid hb1
  have hd1 := (Below.refl w1.heap.size w1).drew
  clear hX hb1
  go_enter Try.func3, Try.ntmps3
  go_upto_region 2 with fail
  go_region_held3 (fun wx => wx.cell? ⟨w.heap.size, 9, none⟩ = some (.string ⟨#[117, 105, 110, 116, 49, 54]⟩))
    (first
      | (with_reducible exact HC.out _ hd1)
      | (with_reducible exact HC.out _ hd2))
    (first
      | (go_simp; go_at_call 4; refine (C.out _).mono ?_; rintro e w2 ⟨rfl, hb2⟩; have hd2 := Below.after hd1 hb2)
      | fail)
  all_goals (go_wp2_with fail)
  all_goals go_ret
  all_goals exact ⟨rfl, Below.after HB.out hd2⟩
set_option maxRecDepth 100000 in
theorem types_10 (w : World) : Calls Try.prog 3 #[.int .i64 10] w fun e w' => e = .returned (.bool true) ∧ Below w.heap.size w w' := by
  obtain ⟨w1, hw1⟩ : ∃ w1, w.alloc (.cells #[.string ⟨#[98, 111, 111, 108]⟩, .string ⟨#[105, 110, 116]⟩, .string ⟨#[105, 110, 116, 56]⟩, .string ⟨#[105, 110, 116, 49, 54]⟩, .string ⟨#[105, 110, 116, 51, 50]⟩, .string ⟨#[105, 110, 116, 54, 52]⟩, .string ⟨#[99, 111, 117, 110, 116]⟩, .string ⟨#[117, 105, 110, 116]⟩, .string ⟨#[117, 105, 110, 116, 56]⟩, .string ⟨#[117, 105, 110, 116, 49, 54]⟩, .string ⟨#[117, 105, 110, 116, 51, 50]⟩, .string ⟨#[117, 105, 110, 116, 54, 52]⟩, .string ⟨#[102, 108, 111, 97, 116, 51, 50]⟩, .string ⟨#[102, 108, 111, 97, 116, 54, 52]⟩, .string ⟨#[115, 116, 114, 105, 110, 103]⟩, .string ⟨#[100, 117, 114, 97, 116, 105, 111, 110]⟩, .string ⟨#[115, 116, 114, 105, 110, 103, 83, 108, 105, 99, 101]⟩, .string ⟨#[115, 116, 114, 105, 110, 103, 65, 114, 114, 97, 121]⟩, .string ⟨#[105, 110, 116, 83, 108, 105, 99, 101]⟩, .string ⟨#[98, 111, 111, 108, 83, 108, 105, 99, 101]⟩, .string ⟨#[115, 116, 114, 105, 110, 103, 84, 111, 83, 116, 114, 105, 110, 103]⟩] 9) = w1 := ⟨_, rfl⟩
  have hb1 : Below w.heap.size w w1 := by rw [← hw1]; exact (Below.refl _ _).alloc (Nat.le_refl _) _
  have hX : w1.heap[w.heap.size]? = some (.cells #[.string ⟨#[98, 111, 111, 108]⟩, .string ⟨#[105, 110, 116]⟩, .string ⟨#[105, 110, 116, 56]⟩, .string ⟨#[105, 110, 116, 49, 54]⟩, .string ⟨#[105, 110, 116, 51, 50]⟩, .string ⟨#[105, 110, 116, 54, 52]⟩, .string ⟨#[99, 111, 117, 110, 116]⟩, .string ⟨#[117, 105, 110, 116]⟩, .string ⟨#[117, 105, 110, 116, 56]⟩, .string ⟨#[117, 105, 110, 116, 49, 54]⟩, .string ⟨#[117, 105, 110, 116, 51, 50]⟩, .string ⟨#[117, 105, 110, 116, 54, 52]⟩, .string ⟨#[102, 108, 111, 97, 116, 51, 50]⟩, .string ⟨#[102, 108, 111, 97, 116, 54, 52]⟩, .string ⟨#[115, 116, 114, 105, 110, 103]⟩, .string ⟨#[100, 117, 114, 97, 116, 105, 111, 110]⟩, .string ⟨#[115, 116, 114, 105, 110, 103, 83, 108, 105, 99, 101]⟩, .string ⟨#[115, 116, 114, 105, 110, 103, 65, 114, 114, 97, 121]⟩, .string ⟨#[105, 110, 116, 83, 108, 105, 99, 101]⟩, .string ⟨#[98, 111, 111, 108, 83, 108, 105, 99, 101]⟩, .string ⟨#[115, 116, 114, 105, 110, 103, 84, 111, 83, 116, 114, 105, 110, 103]⟩] 9 (0, 0)) := by rw [← hw1]; exact heap_at' _ _ _ rfl
  have hlt : w.heap.size < w1.heap.size := by rw [← hw1]; simp only [World.size_alloc]; omega
  have HC := Lib.hid (fun wx (h : Below w1.heap.size w1 wx) => (show wx.cell? ⟨w.heap.size, 10, none⟩ = some (.string ⟨#[117, 105, 110, 116, 51, 50]⟩) from cell_at' ((h.block _ hlt).trans hX) 10 _ rfl))
  have C := Lib.hid (fun W => typeOf_10 W)
  have HB := Lib.hid hb1
  have hd1 := (Below.refl w1.heap.size w1).drew
  clear hX hb1
  go_enter Try.func3, Try.ntmps3
  go_upto_region 2 with fail
  go_region_held3 (fun wx => wx.cell? ⟨w.heap.size, 10, none⟩ = some (.string ⟨#[117, 105, 110, 116, 51, 50]⟩))
    (first
      | (with_reducible exact HC.out _ hd1)
      | (with_reducible exact HC.out _ hd2))
    (first
      | (go_simp; go_at_call 4; refine (C.out _).mono ?_; rintro e w2 ⟨rfl, hb2⟩; have hd2 := Below.after hd1 hb2)
      | fail)
  all_goals (go_wp2_with fail)
  all_goals go_ret
  all_goals exact ⟨rfl, Below.after HB.out hd2⟩
set_option maxRecDepth 100000 in
theorem types_11 (w : World) : Calls Try.prog 3 #[.int .i64 11] w fun e w' => e = .returned (.bool true) ∧ Below w.heap.size w w' := by
  obtain ⟨w1, hw1⟩ : ∃ w1, w.alloc (.cells #[.string ⟨#[98, 111, 111, 108]⟩, .string ⟨#[105, 110, 116]⟩, .string ⟨#[105, 110, 116, 56]⟩, .string ⟨#[105, 110, 116, 49, 54]⟩, .string ⟨#[105, 110, 116, 51, 50]⟩, .string ⟨#[105, 110, 116, 54, 52]⟩, .string ⟨#[99, 111, 117, 110, 116]⟩, .string ⟨#[117, 105, 110, 116]⟩, .string ⟨#[117, 105, 110, 116, 56]⟩, .string ⟨#[117, 105, 110, 116, 49, 54]⟩, .string ⟨#[117, 105, 110, 116, 51, 50]⟩, .string ⟨#[117, 105, 110, 116, 54, 52]⟩, .string ⟨#[102, 108, 111, 97, 116, 51, 50]⟩, .string ⟨#[102, 108, 111, 97, 116, 54, 52]⟩, .string ⟨#[115, 116, 114, 105, 110, 103]⟩, .string ⟨#[100, 117, 114, 97, 116, 105, 111, 110]⟩, .string ⟨#[115, 116, 114, 105, 110, 103, 83, 108, 105, 99, 101]⟩, .string ⟨#[115, 116, 114, 105, 110, 103, 65, 114, 114, 97, 121]⟩, .string ⟨#[105, 110, 116, 83, 108, 105, 99, 101]⟩, .string ⟨#[98, 111, 111, 108, 83, 108, 105, 99, 101]⟩, .string ⟨#[115, 116, 114, 105, 110, 103, 84, 111, 83, 116, 114, 105, 110, 103]⟩] 9) = w1 := ⟨_, rfl⟩
  have hb1 : Below w.heap.size w w1 := by rw [← hw1]; exact (Below.refl _ _).alloc (Nat.le_refl _) _
  have hX : w1.heap[w.heap.size]? = some (.cells #[.string ⟨#[98, 111, 111, 108]⟩, .string ⟨#[105, 110, 116]⟩, .string ⟨#[105, 110, 116, 56]⟩, .string ⟨#[105, 110, 116, 49, 54]⟩, .string ⟨#[105, 110, 116, 51, 50]⟩, .string ⟨#[105, 110, 116, 54, 52]⟩, .string ⟨#[99, 111, 117, 110, 116]⟩, .string ⟨#[117, 105, 110, 116]⟩, .string ⟨#[117, 105, 110, 116, 56]⟩, .string ⟨#[117, 105, 110, 116, 49, 54]⟩, .string ⟨#[117, 105, 110, 116, 51, 50]⟩, .string ⟨#[117, 105, 110, 116, 54, 52]⟩, .string ⟨#[102, 108, 111, 97, 116, 51, 50]⟩, .string ⟨#[102, 108, 111, 97, 116, 54, 52]⟩, .string ⟨#[115, 116, 114, 105, 110, 103]⟩, .string ⟨#[100, 117, 114, 97, 116, 105, 111, 110]⟩, .string ⟨#[115, 116, 114, 105, 110, 103, 83, 108, 105, 99, 101]⟩, .string ⟨#[115, 116, 114, 105, 110, 103, 65, 114, 114, 97, 121]⟩, .string ⟨#[105, 110, 116, 83, 108, 105, 99, 101]⟩, .string ⟨#[98, 111, 111, 108, 83, 108, 105, 99, 101]⟩, .string ⟨#[115, 116, 114, 105, 110, 103, 84, 111, 83, 116, 114, 105, 110, 103]⟩] 9 (0, 0)) := by rw [← hw1]; exact heap_at' _ _ _ rfl
  have hlt : w.heap.size < w1.heap.size := by rw [← hw1]; simp only [World.size_alloc]; omega
  have HC := Lib.hid (fun wx (h : Below w1.heap.size w1 wx) => (show wx.cell? ⟨w.heap.size, 11, none⟩ = some (.string ⟨#[117, 105, 110, 116, 54, 52]⟩) from cell_at' ((h.block _ hlt).trans hX) 11 _ rfl))
  have C := Lib.hid (fun W => typeOf_11 W)
  have HB := Lib.hid hb1
  have hd1 := (Below.refl w1.heap.size w1).drew
  clear hX hb1
  go_enter Try.func3, Try.ntmps3
  go_upto_region 2 with fail
  go_region_held3 (fun wx => wx.cell? ⟨w.heap.size, 11, none⟩ = some (.string ⟨#[117, 105, 110, 116, 54, 52]⟩))
    (first
      | (with_reducible exact HC.out _ hd1)
      | (with_reducible exact HC.out _ hd2))
    (first
      | (go_simp; go_at_call 4; refine (C.out _).mono ?_; rintro e w2 ⟨rfl, hb2⟩; have hd2 := Below.after hd1 hb2)
      | fail)
  all_goals (go_wp2_with fail)
  all_goals go_ret
  all_goals exact ⟨rfl, Below.after HB.out hd2⟩
set_option maxRecDepth 100000 in
theorem types_12 (w : World) : Calls Try.prog 3 #[.int .i64 12] w fun e w' => e = .returned (.bool true) ∧ Below w.heap.size w w' := by
  obtain ⟨w1, hw1⟩ : ∃ w1, w.alloc (.cells #[.string ⟨#[98, 111, 111, 108]⟩, .string ⟨#[105, 110, 116]⟩, .string ⟨#[105, 110, 116, 56]⟩, .string ⟨#[105, 110, 116, 49, 54]⟩, .string ⟨#[105, 110, 116, 51, 50]⟩, .string ⟨#[105, 110, 116, 54, 52]⟩, .string ⟨#[99, 111, 117, 110, 116]⟩, .string ⟨#[117, 105, 110, 116]⟩, .string ⟨#[117, 105, 110, 116, 56]⟩, .string ⟨#[117, 105, 110, 116, 49, 54]⟩, .string ⟨#[117, 105, 110, 116, 51, 50]⟩, .string ⟨#[117, 105, 110, 116, 54, 52]⟩, .string ⟨#[102, 108, 111, 97, 116, 51, 50]⟩, .string ⟨#[102, 108, 111, 97, 116, 54, 52]⟩, .string ⟨#[115, 116, 114, 105, 110, 103]⟩, .string ⟨#[100, 117, 114, 97, 116, 105, 111, 110]⟩, .string ⟨#[115, 116, 114, 105, 110, 103, 83, 108, 105, 99, 101]⟩, .string ⟨#[115, 116, 114, 105, 110, 103, 65, 114, 114, 97, 121]⟩, .string ⟨#[105, 110, 116, 83, 108, 105, 99, 101]⟩, .string ⟨#[98, 111, 111, 108, 83, 108, 105, 99, 101]⟩, .string ⟨#[115, 116, 114, 105, 110, 103, 84, 111, 83, 116, 114, 105, 110, 103]⟩] 9) = w1 := ⟨_, rfl⟩
  have hb1 : Below w.heap.size w w1 := by rw [← hw1]; exact (Below.refl _ _).alloc (Nat.le_refl _) _
  have hX : w1.heap[w.heap.size]? = some (.cells #[.string ⟨#[98, 111, 111, 108]⟩, .string ⟨#[105, 110, 116]⟩, .string ⟨#[105, 110, 116, 56]⟩, .string ⟨#[105, 110, 116, 49, 54]⟩, .string ⟨#[105, 110, 116, 51, 50]⟩, .string ⟨#[105, 110, 116, 54, 52]⟩, .string ⟨#[99, 111, 117, 110, 116]⟩, .string ⟨#[117, 105, 110, 116]⟩, .string ⟨#[117, 105, 110, 116, 56]⟩, .string ⟨#[117, 105, 110, 116, 49, 54]⟩, .string ⟨#[117, 105, 110, 116, 51, 50]⟩, .string ⟨#[117, 105, 110, 116, 54, 52]⟩, .string ⟨#[102, 108, 111, 97, 116, 51, 50]⟩, .string ⟨#[102, 108, 111, 97, 116, 54, 52]⟩, .string ⟨#[115, 116, 114, 105, 110, 103]⟩, .string ⟨#[100, 117, 114, 97, 116, 105, 111, 110]⟩, .string ⟨#[115, 116, 114, 105, 110, 103, 83, 108, 105, 99, 101]⟩, .string ⟨#[115, 116, 114, 105, 110, 103, 65, 114, 114, 97, 121]⟩, .string ⟨#[105, 110, 116, 83, 108, 105, 99, 101]⟩, .string ⟨#[98, 111, 111, 108, 83, 108, 105, 99, 101]⟩, .string ⟨#[115, 116, 114, 105, 110, 103, 84, 111, 83, 116, 114, 105, 110, 103]⟩] 9 (0, 0)) := by rw [← hw1]; exact heap_at' _ _ _ rfl
  have hlt : w.heap.size < w1.heap.size := by rw [← hw1]; simp only [World.size_alloc]; omega
  have HC := Lib.hid (fun wx (h : Below w1.heap.size w1 wx) => (show wx.cell? ⟨w.heap.size, 12, none⟩ = some (.string ⟨#[102, 108, 111, 97, 116, 51, 50]⟩) from cell_at' ((h.block _ hlt).trans hX) 12 _ rfl))
  have C := Lib.hid (fun W => typeOf_12 W)
  have HB := Lib.hid hb1
  have hd1 := (Below.refl w1.heap.size w1).drew
  clear hX hb1
  go_enter Try.func3, Try.ntmps3
  go_upto_region 2 with fail
  go_region_held3 (fun wx => wx.cell? ⟨w.heap.size, 12, none⟩ = some (.string ⟨#[102, 108, 111, 97, 116, 51, 50]⟩))
    (first
      | (with_reducible exact HC.out _ hd1)
      | (with_reducible exact HC.out _ hd2))
    (first
      | (go_simp; go_at_call 4; refine (C.out _).mono ?_; rintro e w2 ⟨rfl, hb2⟩; have hd2 := Below.after hd1 hb2)
      | fail)
  all_goals (go_wp2_with fail)
  all_goals go_ret
  all_goals exact ⟨rfl, Below.after HB.out hd2⟩
set_option maxRecDepth 100000 in
theorem types_13 (w : World) : Calls Try.prog 3 #[.int .i64 13] w fun e w' => e = .returned (.bool true) ∧ Below w.heap.size w w' := by
  obtain ⟨w1, hw1⟩ : ∃ w1, w.alloc (.cells #[.string ⟨#[98, 111, 111, 108]⟩, .string ⟨#[105, 110, 116]⟩, .string ⟨#[105, 110, 116, 56]⟩, .string ⟨#[105, 110, 116, 49, 54]⟩, .string ⟨#[105, 110, 116, 51, 50]⟩, .string ⟨#[105, 110, 116, 54, 52]⟩, .string ⟨#[99, 111, 117, 110, 116]⟩, .string ⟨#[117, 105, 110, 116]⟩, .string ⟨#[117, 105, 110, 116, 56]⟩, .string ⟨#[117, 105, 110, 116, 49, 54]⟩, .string ⟨#[117, 105, 110, 116, 51, 50]⟩, .string ⟨#[117, 105, 110, 116, 54, 52]⟩, .string ⟨#[102, 108, 111, 97, 116, 51, 50]⟩, .string ⟨#[102, 108, 111, 97, 116, 54, 52]⟩, .string ⟨#[115, 116, 114, 105, 110, 103]⟩, .string ⟨#[100, 117, 114, 97, 116, 105, 111, 110]⟩, .string ⟨#[115, 116, 114, 105, 110, 103, 83, 108, 105, 99, 101]⟩, .string ⟨#[115, 116, 114, 105, 110, 103, 65, 114, 114, 97, 121]⟩, .string ⟨#[105, 110, 116, 83, 108, 105, 99, 101]⟩, .string ⟨#[98, 111, 111, 108, 83, 108, 105, 99, 101]⟩, .string ⟨#[115, 116, 114, 105, 110, 103, 84, 111, 83, 116, 114, 105, 110, 103]⟩] 9) = w1 := ⟨_, rfl⟩
  have hb1 : Below w.heap.size w w1 := by rw [← hw1]; exact (Below.refl _ _).alloc (Nat.le_refl _) _
  have hX : w1.heap[w.heap.size]? = some (.cells #[.string ⟨#[98, 111, 111, 108]⟩, .string ⟨#[105, 110, 116]⟩, .string ⟨#[105, 110, 116, 56]⟩, .string ⟨#[105, 110, 116, 49, 54]⟩, .string ⟨#[105, 110, 116, 51, 50]⟩, .string ⟨#[105, 110, 116, 54, 52]⟩, .string ⟨#[99, 111, 117, 110, 116]⟩, .string ⟨#[117, 105, 110, 116]⟩, .string ⟨#[117, 105, 110, 116, 56]⟩, .string ⟨#[117, 105, 110, 116, 49, 54]⟩, .string ⟨#[117, 105, 110, 116, 51, 50]⟩, .string ⟨#[117, 105, 110, 116, 54, 52]⟩, .string ⟨#[102, 108, 111, 97, 116, 51, 50]⟩, .string ⟨#[102, 108, 111, 97, 116, 54, 52]⟩, .string ⟨#[115, 116, 114, 105, 110, 103]⟩, .string ⟨#[100, 117, 114, 97, 116, 105, 111, 110]⟩, .string ⟨#[115, 116, 114, 105, 110, 103, 83, 108, 105, 99, 101]⟩, .string ⟨#[115, 116, 114, 105, 110, 103, 65, 114, 114, 97, 121]⟩, .string ⟨#[105, 110, 116, 83, 108, 105, 99, 101]⟩, .string ⟨#[98, 111, 111, 108, 83, 108, 105, 99, 101]⟩, .string ⟨#[115, 116, 114, 105, 110, 103, 84, 111, 83, 116, 114, 105, 110, 103]⟩] 9 (0, 0)) := by rw [← hw1]; exact heap_at' _ _ _ rfl
  have hlt : w.heap.size < w1.heap.size := by rw [← hw1]; simp only [World.size_alloc]; omega
  have HC := Lib.hid (fun wx (h : Below w1.heap.size w1 wx) => (show wx.cell? ⟨w.heap.size, 13, none⟩ = some (.string ⟨#[102, 108, 111, 97, 116, 54, 52]⟩) from cell_at' ((h.block _ hlt).trans hX) 13 _ rfl))
  have C := Lib.hid (fun W => typeOf_13 W)
  have HB := Lib.hid hb1
  have hd1 := (Below.refl w1.heap.size w1).drew
  clear hX hb1
  go_enter Try.func3, Try.ntmps3
  go_upto_region 2 with fail
  go_region_held3 (fun wx => wx.cell? ⟨w.heap.size, 13, none⟩ = some (.string ⟨#[102, 108, 111, 97, 116, 54, 52]⟩))
    (first
      | (with_reducible exact HC.out _ hd1)
      | (with_reducible exact HC.out _ hd2))
    (first
      | (go_simp; go_at_call 4; refine (C.out _).mono ?_; rintro e w2 ⟨rfl, hb2⟩; have hd2 := Below.after hd1 hb2)
      | fail)
  all_goals (go_wp2_with fail)
  all_goals go_ret
  all_goals exact ⟨rfl, Below.after HB.out hd2⟩
set_option maxRecDepth 100000 in
theorem types_14 (w : World) : Calls Try.prog 3 #[.int .i64 14] w fun e w' => e = .returned (.bool true) ∧ Below w.heap.size w w' := by
  obtain ⟨w1, hw1⟩ : ∃ w1, w.alloc (.cells #[.string ⟨#[98, 111, 111, 108]⟩, .string ⟨#[105, 110, 116]⟩, .string ⟨#[105, 110, 116, 56]⟩, .string ⟨#[105, 110, 116, 49, 54]⟩, .string ⟨#[105, 110, 116, 51, 50]⟩, .string ⟨#[105, 110, 116, 54, 52]⟩, .string ⟨#[99, 111, 117, 110, 116]⟩, .string ⟨#[117, 105, 110, 116]⟩, .string ⟨#[117, 105, 110, 116, 56]⟩, .string ⟨#[117, 105, 110, 116, 49, 54]⟩, .string ⟨#[117, 105, 110, 116, 51, 50]⟩, .string ⟨#[117, 105, 110, 116, 54, 52]⟩, .string ⟨#[102, 108, 111, 97, 116, 51, 50]⟩, .string ⟨#[102, 108, 111, 97, 116, 54, 52]⟩, .string ⟨#[115, 116, 114, 105, 110, 103]⟩, .string ⟨#[100, 117, 114, 97, 116, 105, 111, 110]⟩, .string ⟨#[115, 116, 114, 105, 110, 103, 83, 108, 105, 99, 101]⟩, .string ⟨#[115, 116, 114, 105, 110, 103, 65, 114, 114, 97, 121]⟩, .string ⟨#[105, 110, 116, 83, 108, 105, 99, 101]⟩, .string ⟨#[98, 111, 111, 108, 83, 108, 105, 99, 101]⟩, .string ⟨#[115, 116, 114, 105, 110, 103, 84, 111, 83, 116, 114, 105, 110, 103]⟩] 9) = w1 := ⟨_, rfl⟩
  have hb1 : Below w.heap.size w w1 := by rw [← hw1]; exact (Below.refl _ _).alloc (Nat.le_refl _) _
  have hX : w1.heap[w.heap.size]? = some (.cells #[.string ⟨#[98, 111, 111, 108]⟩, .string ⟨#[105, 110, 116]⟩, .string ⟨#[105, 110, 116, 56]⟩, .string ⟨#[105, 110, 116, 49, 54]⟩, .string ⟨#[105, 110, 116, 51, 50]⟩, .string ⟨#[105, 110, 116, 54, 52]⟩, .string ⟨#[99, 111, 117, 110, 116]⟩, .string ⟨#[117, 105, 110, 116]⟩, .string ⟨#[117, 105, 110, 116, 56]⟩, .string ⟨#[117, 105, 110, 116, 49, 54]⟩, .string ⟨#[117, 105, 110, 116, 51, 50]⟩, .string ⟨#[117, 105, 110, 116, 54, 52]⟩, .string ⟨#[102, 108, 111, 97, 116, 51, 50]⟩, .string ⟨#[102, 108, 111, 97, 116, 54, 52]⟩, .string ⟨#[115, 116, 114, 105, 110, 103]⟩, .string ⟨#[100, 117, 114, 97, 116, 105, 111, 110]⟩, .string ⟨#[115, 116, 114, 105, 110, 103, 83, 108, 105, 99, 101]⟩, .string ⟨#[115, 116, 114, 105, 110, 103, 65, 114, 114, 97, 121]⟩, .string ⟨#[105, 110, 116, 83, 108, 105, 99, 101]⟩, .string ⟨#[98, 111, 111, 108, 83, 108, 105, 99, 101]⟩, .string ⟨#[115, 116, 114, 105, 110, 103, 84, 111, 83, 116, 114, 105, 110, 103]⟩] 9 (0, 0)) := by rw [← hw1]; exact heap_at' _ _ _ rfl
  have hlt : w.heap.size < w1.heap.size := by rw [← hw1]; simp only [World.size_alloc]; omega
  have HC := Lib.hid (fun wx (h : Below w1.heap.size w1 wx) => (show wx.cell? ⟨w.heap.size, 14, none⟩ = some (.string ⟨#[115, 116, 114, 105, 110, 103]⟩) from cell_at' ((h.block _ hlt).trans hX) 14 _ rfl))
  have C := Lib.hid (fun W => typeOf_14 W)
  have HB := Lib.hid hb1
  have hd1 := (Below.refl w1.heap.size w1).drew
  clear hX hb1
  go_enter Try.func3, Try.ntmps3
  go_upto_region 2 with fail
  go_region_held3 (fun wx => wx.cell? ⟨w.heap.size, 14, none⟩ = some (.string ⟨#[115, 116, 114, 105, 110, 103]⟩))
    (first
      | (with_reducible exact HC.out _ hd1)
      | (with_reducible exact HC.out _ hd2))
    (first
      | (go_simp; go_at_call 4; refine (C.out _).mono ?_; rintro e w2 ⟨rfl, hb2⟩; have hd2 := Below.after hd1 hb2)
      | fail)
  all_goals (go_wp2_with fail)
  all_goals go_ret
  all_goals exact ⟨rfl, Below.after HB.out hd2⟩
set_option maxRecDepth 100000 in
theorem types_15 (w : World) : Calls Try.prog 3 #[.int .i64 15] w fun e w' => e = .returned (.bool true) ∧ Below w.heap.size w w' := by
  obtain ⟨w1, hw1⟩ : ∃ w1, w.alloc (.cells #[.string ⟨#[98, 111, 111, 108]⟩, .string ⟨#[105, 110, 116]⟩, .string ⟨#[105, 110, 116, 56]⟩, .string ⟨#[105, 110, 116, 49, 54]⟩, .string ⟨#[105, 110, 116, 51, 50]⟩, .string ⟨#[105, 110, 116, 54, 52]⟩, .string ⟨#[99, 111, 117, 110, 116]⟩, .string ⟨#[117, 105, 110, 116]⟩, .string ⟨#[117, 105, 110, 116, 56]⟩, .string ⟨#[117, 105, 110, 116, 49, 54]⟩, .string ⟨#[117, 105, 110, 116, 51, 50]⟩, .string ⟨#[117, 105, 110, 116, 54, 52]⟩, .string ⟨#[102, 108, 111, 97, 116, 51, 50]⟩, .string ⟨#[102, 108, 111, 97, 116, 54, 52]⟩, .string ⟨#[115, 116, 114, 105, 110, 103]⟩, .string ⟨#[100, 117, 114, 97, 116, 105, 111, 110]⟩, .string ⟨#[115, 116, 114, 105, 110, 103, 83, 108, 105, 99, 101]⟩, .string ⟨#[115, 116, 114, 105, 110, 103, 65, 114, 114, 97, 121]⟩, .string ⟨#[105, 110, 116, 83, 108, 105, 99, 101]⟩, .string ⟨#[98, 111, 111, 108, 83, 108, 105, 99, 101]⟩, .string ⟨#[115, 116, 114, 105, 110, 103, 84, 111, 83, 116, 114, 105, 110, 103]⟩] 9) = w1 := ⟨_, rfl⟩
  have hb1 : Below w.heap.size w w1 := by rw [← hw1]; exact (Below.refl _ _).alloc (Nat.le_refl _) _
  have hX : w1.heap[w.heap.size]? = some (.cells #[.string ⟨#[98, 111, 111, 108]⟩, .string ⟨#[105, 110, 116]⟩, .string ⟨#[105, 110, 116, 56]⟩, .string ⟨#[105, 110, 116, 49, 54]⟩, .string ⟨#[105, 110, 116, 51, 50]⟩, .string ⟨#[105, 110, 116, 54, 52]⟩, .string ⟨#[99, 111, 117, 110, 116]⟩, .string ⟨#[117, 105, 110, 116]⟩, .string ⟨#[117, 105, 110, 116, 56]⟩, .string ⟨#[117, 105, 110, 116, 49, 54]⟩, .string ⟨#[117, 105, 110, 116, 51, 50]⟩, .string ⟨#[117, 105, 110, 116, 54, 52]⟩, .string ⟨#[102, 108, 111, 97, 116, 51, 50]⟩, .string ⟨#[102, 108, 111, 97, 116, 54, 52]⟩, .string ⟨#[115, 116, 114, 105, 110, 103]⟩, .string ⟨#[100, 117, 114, 97, 116, 105, 111, 110]⟩, .string ⟨#[115, 116, 114, 105, 110, 103, 83, 108, 105, 99, 101]⟩, .string ⟨#[115, 116, 114, 105, 110, 103, 65, 114, 114, 97, 121]⟩, .string ⟨#[105, 110, 116, 83, 108, 105, 99, 101]⟩, .string ⟨#[98, 111, 111, 108, 83, 108, 105, 99, 101]⟩, .string ⟨#[115, 116, 114, 105, 110, 103, 84, 111, 83, 116, 114, 105, 110, 103]⟩] 9 (0, 0)) := by rw [← hw1]; exact heap_at' _ _ _ rfl
  have hlt : w.heap.size < w1.heap.size := by rw [← hw1]; simp only [World.size_alloc]; omega
  have HC := Lib.hid (fun wx (h : Below w1.heap.size w1 wx) => (show wx.cell? ⟨w.heap.size, 15, none⟩ = some (.string ⟨#[100, 117, 114, 97, 116, 105, 111, 110]⟩) from cell_at' ((h.block _ hlt).trans hX) 15 _ rfl))
  have C := Lib.hid (fun W => typeOf_15 W)
  have HB := Lib.hid hb1
  have hd1 := (Below.refl w1.heap.size w1).drew
  clear hX hb1
  go_enter Try.func3, Try.ntmps3
  go_upto_region 2 with fail
  go_region_held3 (fun wx => wx.cell? ⟨w.heap.size, 15, none⟩ = some (.string ⟨#[100, 117, 114, 97, 116, 105, 111, 110]⟩))
    (first
      | (with_reducible exact HC.out _ hd1)
      | (with_reducible exact HC.out _ hd2))
    (first
      | (go_simp; go_at_call 4; refine (C.out _).mono ?_; rintro e w2 ⟨rfl, hb2⟩; have hd2 := Below.after hd1 hb2)
      | fail)
  all_goals (go_wp2_with fail)
  all_goals go_ret
  all_goals exact ⟨rfl, Below.after HB.out hd2⟩
set_option maxRecDepth 100000 in
theorem types_16 (w : World) : Calls Try.prog 3 #[.int .i64 16] w fun e w' => e = .returned (.bool true) ∧ Below w.heap.size w w' := by
  obtain ⟨w1, hw1⟩ : ∃ w1, w.alloc (.cells #[.string ⟨#[98, 111, 111, 108]⟩, .string ⟨#[105, 110, 116]⟩, .string ⟨#[105, 110, 116, 56]⟩, .string ⟨#[105, 110, 116, 49, 54]⟩, .string ⟨#[105, 110, 116, 51, 50]⟩, .string ⟨#[105, 110, 116, 54, 52]⟩, .string ⟨#[99, 111, 117, 110, 116]⟩, .string ⟨#[117, 105, 110, 116]⟩, .string ⟨#[117, 105, 110, 116, 56]⟩, .string ⟨#[117, 105, 110, 116, 49, 54]⟩, .string ⟨#[117, 105, 110, 116, 51, 50]⟩, .string ⟨#[117, 105, 110, 116, 54, 52]⟩, .string ⟨#[102, 108, 111, 97, 116, 51, 50]⟩, .string ⟨#[102, 108, 111, 97, 116, 54, 52]⟩, .string ⟨#[115, 116, 114, 105, 110, 103]⟩, .string ⟨#[100, 117, 114, 97, 116, 105, 111, 110]⟩, .string ⟨#[115, 116, 114, 105, 110, 103, 83, 108, 105, 99, 101]⟩, .string ⟨#[115, 116, 114, 105, 110, 103, 65, 114, 114, 97, 121]⟩, .string ⟨#[105, 110, 116, 83, 108, 105, 99, 101]⟩, .string ⟨#[98, 111, 111, 108, 83, 108, 105, 99, 101]⟩, .string ⟨#[115, 116, 114, 105, 110, 103, 84, 111, 83, 116, 114, 105, 110, 103]⟩] 9) = w1 := ⟨_, rfl⟩
  have hb1 : Below w.heap.size w w1 := by rw [← hw1]; exact (Below.refl _ _).alloc (Nat.le_refl _) _
  have hX : w1.heap[w.heap.size]? = some (.cells #[.string ⟨#[98, 111, 111, 108]⟩, .string ⟨#[105, 110, 116]⟩, .string ⟨#[105, 110, 116, 56]⟩, .string ⟨#[105, 110, 116, 49, 54]⟩, .string ⟨#[105, 110, 116, 51, 50]⟩, .string ⟨#[105, 110, 116, 54, 52]⟩, .string ⟨#[99, 111, 117, 110, 116]⟩, .string ⟨#[117, 105, 110, 116]⟩, .string ⟨#[117, 105, 110, 116, 56]⟩, .string ⟨#[117, 105, 110, 116, 49, 54]⟩, .string ⟨#[117, 105, 110, 116, 51, 50]⟩, .string ⟨#[117, 105, 110, 116, 54, 52]⟩, .string ⟨#[102, 108, 111, 97, 116, 51, 50]⟩, .string ⟨#[102, 108, 111, 97, 116, 54, 52]⟩, .string ⟨#[115, 116, 114, 105, 110, 103]⟩, .string ⟨#[100, 117, 114, 97, 116, 105, 111, 110]⟩, .string ⟨#[115, 116, 114, 105, 110, 103, 83, 108, 105, 99, 101]⟩, .string ⟨#[115, 116, 114, 105, 110, 103, 65, 114, 114, 97, 121]⟩, .string ⟨#[105, 110, 116, 83, 108, 105, 99, 101]⟩, .string ⟨#[98, 111, 111, 108, 83, 108, 105, 99, 101]⟩, .string ⟨#[115, 116, 114, 105, 110, 103, 84, 111, 83, 116, 114, 105, 110, 103]⟩] 9 (0, 0)) := by rw [← hw1]; exact heap_at' _ _ _ rfl
  have hlt : w.heap.size < w1.heap.size := by rw [← hw1]; simp only [World.size_alloc]; omega
  have HC := Lib.hid (fun wx (h : Below w1.heap.size w1 wx) => (show wx.cell? ⟨w.heap.size, 16, none⟩ = some (.string ⟨#[115, 116, 114, 105, 110, 103, 83, 108, 105, 99, 101]⟩) from cell_at' ((h.block _ hlt).trans hX) 16 _ rfl))
  have C := Lib.hid (fun W => typeOf_16 W)
  have HB := Lib.hid hb1
  have hd1 := (Below.refl w1.heap.size w1).drew
  clear hX hb1
  go_enter Try.func3, Try.ntmps3
  go_upto_region 2 with fail
  go_region_held3 (fun wx => wx.cell? ⟨w.heap.size, 16, none⟩ = some (.string ⟨#[115, 116, 114, 105, 110, 103, 83, 108, 105, 99, 101]⟩))
    (first
      | (with_reducible exact HC.out _ hd1)
      | (with_reducible exact HC.out _ hd2))
    (first
      | (go_simp; go_at_call 4; refine (C.out _).mono ?_; rintro e w2 ⟨rfl, hb2⟩; have hd2 := Below.after hd1 hb2)
      | fail)
  all_goals (go_wp2_with fail)
  all_goals go_ret
  all_goals exact ⟨rfl, Below.after HB.out hd2⟩
set_option maxRecDepth 100000 in
theorem types_17 (w : World) : Calls Try.prog 3 #[.int .i64 17] w fun e w' => e = .returned (.bool true) ∧ Below w.heap.size w w' := by
  obtain ⟨w1, hw1⟩ : ∃ w1, w.alloc (.cells #[.string ⟨#[98, 111, 111, 108]⟩, .string ⟨#[105, 110, 116]⟩, .string ⟨#[105, 110, 116, 56]⟩, .string ⟨#[105, 110, 116, 49, 54]⟩, .string ⟨#[105, 110, 116, 51, 50]⟩, .string ⟨#[105, 110, 116, 54, 52]⟩, .string ⟨#[99, 111, 117, 110, 116]⟩, .string ⟨#[117, 105, 110, 116]⟩, .string ⟨#[117, 105, 110, 116, 56]⟩, .string ⟨#[117, 105, 110, 116, 49, 54]⟩, .string ⟨#[117, 105, 110, 116, 51, 50]⟩, .string ⟨#[117, 105, 110, 116, 54, 52]⟩, .string ⟨#[102, 108, 111, 97, 116, 51, 50]⟩, .string ⟨#[102, 108, 111, 97, 116, 54, 52]⟩, .string ⟨#[115, 116, 114, 105, 110, 103]⟩, .string ⟨#[100, 117, 114, 97, 116, 105, 111, 110]⟩, .string ⟨#[115, 116, 114, 105, 110, 103, 83, 108, 105, 99, 101]⟩, .string ⟨#[115, 116, 114, 105, 110, 103, 65, 114, 114, 97, 121]⟩, .string ⟨#[105, 110, 116, 83, 108, 105, 99, 101]⟩, .string ⟨#[98, 111, 111, 108, 83, 108, 105, 99, 101]⟩, .string ⟨#[115, 116, 114, 105, 110, 103, 84, 111, 83, 116, 114, 105, 110, 103]⟩] 9) = w1 := ⟨_, rfl⟩
  have hb1 : Below w.heap.size w w1 := by rw [← hw1]; exact (Below.refl _ _).alloc (Nat.le_refl _) _
  have hX : w1.heap[w.heap.size]? = some (.cells #[.string ⟨#[98, 111, 111, 108]⟩, .string ⟨#[105, 110, 116]⟩, .string ⟨#[105, 110, 116, 56]⟩, .string ⟨#[105, 110, 116, 49, 54]⟩, .string ⟨#[105, 110, 116, 51, 50]⟩, .string ⟨#[105, 110, 116, 54, 52]⟩, .string ⟨#[99, 111, 117, 110, 116]⟩, .string ⟨#[117, 105, 110, 116]⟩, .string ⟨#[117, 105, 110, 116, 56]⟩, .string ⟨#[117, 105, 110, 116, 49, 54]⟩, .string ⟨#[117, 105, 110, 116, 51, 50]⟩, .string ⟨#[117, 105, 110, 116, 54, 52]⟩, .string ⟨#[102, 108, 111, 97, 116, 51, 50]⟩, .string ⟨#[102, 108, 111, 97, 116, 54, 52]⟩, .string ⟨#[115, 116, 114, 105, 110, 103]⟩, .string ⟨#[100, 117, 114, 97, 116, 105, 111, 110]⟩, .string ⟨#[115, 116, 114, 105, 110, 103, 83, 108, 105, 99, 101]⟩, .string ⟨#[115, 116, 114, 105, 110, 103, 65, 114, 114, 97, 121]⟩, .string ⟨#[105, 110, 116, 83, 108, 105, 99, 101]⟩, .string ⟨#[98, 111, 111, 108, 83, 108, 105, 99, 101]⟩, .string ⟨#[115, 116, 114, 105, 110, 103, 84, 111, 83, 116, 114, 105, 110, 103]⟩] 9 (0, 0)) := by rw [← hw1]; exact heap_at' _ _ _ rfl
  have hlt : w.heap.size < w1.heap.size := by rw [← hw1]; simp only [World.size_alloc]; omega
  have HC := Lib.hid (fun wx (h : Below w1.heap.size w1 wx) => (show wx.cell? ⟨w.heap.size, 17, none⟩ = some (.string ⟨#[115, 116, 114, 105, 110, 103, 65, 114, 114, 97, 121]⟩) from cell_at' ((h.block _ hlt).trans hX) 17 _ rfl))
  have C := Lib.hid (fun W => typeOf_17 W)
  have HB := Lib.hid hb1
  have hd1 := (Below.refl w1.heap.size w1).drew
  clear hX hb1
  go_enter Try.func3, Try.ntmps3
  go_upto_region 2 with fail
  go_region_held3 (fun wx => wx.cell? ⟨w.heap.size, 17, none⟩ = some (.string ⟨#[115, 116, 114, 105, 110, 103, 65, 114, 114, 97, 121]⟩))
    (first
      | (with_reducible exact HC.out _ hd1)
      | (with_reducible exact HC.out _ hd2))
    (first
      | (go_simp; go_at_call 4; refine (C.out _).mono ?_; rintro e w2 ⟨rfl, hb2⟩; have hd2 := Below.after hd1 hb2)
      | fail)
  all_goals (go_wp2_with fail)
  all_goals go_ret
  all_goals exact ⟨rfl, Below.after HB.out hd2⟩
set_option maxRecDepth 100000 in
theorem types_18 (w : World) : Calls Try.prog 3 #[.int .i64 18] w fun e w' => e = .returned (.bool true) ∧ Below w.heap.size w w' := by
  obtain ⟨w1, hw1⟩ : ∃ w1, w.alloc (.cells #[.string ⟨#[98, 111, 111, 108]⟩, .string ⟨#[105, 110, 116]⟩, .string ⟨#[105, 110, 116, 56]⟩, .string ⟨#[105, 110, 116, 49, 54]⟩, .string ⟨#[105, 110, 116, 51, 50]⟩, .string ⟨#[105, 110, 116, 54, 52]⟩, .string ⟨#[99, 111, 117, 110, 116]⟩, .string ⟨#[117, 105, 110, 116]⟩, .string ⟨#[117, 105, 110, 116, 56]⟩, .string ⟨#[117, 105, 110, 116, 49, 54]⟩, .string ⟨#[117, 105, 110, 116, 51, 50]⟩, .string ⟨#[117, 105, 110, 116, 54, 52]⟩, .string ⟨#[102, 108, 111, 97, 116, 51, 50]⟩, .string ⟨#[102, 108, 111, 97, 116, 54, 52]⟩, .string ⟨#[115, 116, 114, 105, 110, 103]⟩, .string ⟨#[100, 117, 114, 97, 116, 105, 111, 110]⟩, .string ⟨#[115, 116, 114, 105, 110, 103, 83, 108, 105, 99, 101]⟩, .string ⟨#[115, 116, 114, 105, 110, 103, 65, 114, 114, 97, 121]⟩, .string ⟨#[105, 110, 116, 83, 108, 105, 99, 101]⟩, .string ⟨#[98, 111, 111, 108, 83, 108, 105, 99, 101]⟩, .string ⟨#[115, 116, 114, 105, 110, 103, 84, 111, 83, 116, 114, 105, 110, 103]⟩] 9) = w1 := ⟨_, rfl⟩
  have hb1 : Below w.heap.size w w1 := by rw [← hw1]; exact (Below.refl _ _).alloc (Nat.le_refl _) _
  have hX : w1.heap[w.heap.size]? = some (.cells #[.string ⟨#[98, 111, 111, 108]⟩, .string ⟨#[105, 110, 116]⟩, .string ⟨#[105, 110, 116, 56]⟩, .string ⟨#[105, 110, 116, 49, 54]⟩, .string ⟨#[105, 110, 116, 51, 50]⟩, .string ⟨#[105, 110, 116, 54, 52]⟩, .string ⟨#[99, 111, 117, 110, 116]⟩, .string ⟨#[117, 105, 110, 116]⟩, .string ⟨#[117, 105, 110, 116, 56]⟩, .string ⟨#[117, 105, 110, 116, 49, 54]⟩, .string ⟨#[117, 105, 110, 116, 51, 50]⟩, .string ⟨#[117, 105, 110, 116, 54, 52]⟩, .string ⟨#[102, 108, 111, 97, 116, 51, 50]⟩, .string ⟨#[102, 108, 111, 97, 116, 54, 52]⟩, .string ⟨#[115, 116, 114, 105, 110, 103]⟩, .string ⟨#[100, 117, 114, 97, 116, 105, 111, 110]⟩, .string ⟨#[115, 116, 114, 105, 110, 103, 83, 108, 105, 99, 101]⟩, .string ⟨#[115, 116, 114, 105, 110, 103, 65, 114, 114, 97, 121]⟩, .string ⟨#[105, 110, 116, 83, 108, 105, 99, 101]⟩, .string ⟨#[98, 111, 111, 108, 83, 108, 105, 99, 101]⟩, .string ⟨#[115, 116, 114, 105, 110, 103, 84, 111, 83, 116, 114, 105, 110, 103]⟩] 9 (0, 0)) := by rw [← hw1]; exact heap_at' _ _ _ rfl
  have hlt : w.heap.size < w1.heap.size := by rw [← hw1]; simp only [World.size_alloc]; omega
  have HC := Lib.hid (fun wx (h : Below w1.heap.size w1 wx) => (show wx.cell? ⟨w.heap.size, 18, none⟩ = some (.string ⟨#[105, 110, 116, 83, 108, 105, 99, 101]⟩) from cell_at' ((h.block _ hlt).trans hX) 18 _ rfl))
  have C := Lib.hid (fun W => typeOf_18 W)
  have HB := Lib.hid hb1
  have hd1 := (Below.refl w1.heap.size w1).drew
  clear hX hb1
  go_enter Try.func3, Try.ntmps3
  go_upto_region 2 with fail
  go_region_held3 (fun wx => wx.cell? ⟨w.heap.size, 18, none⟩ = some (.string ⟨#[105, 110, 116, 83, 108, 105, 99, 101]⟩))
    (first
      | (with_reducible exact HC.out _ hd1)
      | (with_reducible exact HC.out _ hd2))
    (first
      | (go_simp; go_at_call 4; refine (C.out _).mono ?_; rintro e w2 ⟨rfl, hb2⟩; have hd2 := Below.after hd1 hb2)
      | fail)
  all_goals (go_wp2_with fail)
  all_goals go_ret
  all_goals exact ⟨rfl, Below.after HB.out hd2⟩
set_option maxRecDepth 100000 in
theorem types_19 (w : World) : Calls Try.prog 3 #[.int .i64 19] w fun e w' => e = .returned (.bool true) ∧ Below w.heap.size w w' := by
  obtain ⟨w1, hw1⟩ : ∃ w1, w.alloc (.cells #[.string ⟨#[98, 111, 111, 108]⟩, .string ⟨#[105, 110, 116]⟩, .string ⟨#[105, 110, 116, 56]⟩, .string ⟨#[105, 110, 116, 49, 54]⟩, .string ⟨#[105, 110, 116, 51, 50]⟩, .string ⟨#[105, 110, 116, 54, 52]⟩, .string ⟨#[99, 111, 117, 110, 116]⟩, .string ⟨#[117, 105, 110, 116]⟩, .string ⟨#[117, 105, 110, 116, 56]⟩, .string ⟨#[117, 105, 110, 116, 49, 54]⟩, .string ⟨#[117, 105, 110, 116, 51, 50]⟩, .string ⟨#[117, 105, 110, 116, 54, 52]⟩, .string ⟨#[102, 108, 111, 97, 116, 51, 50]⟩, .string ⟨#[102, 108, 111, 97, 116, 54, 52]⟩, .string ⟨#[115, 116, 114, 105, 110, 103]⟩, .string ⟨#[100, 117, 114, 97, 116, 105, 111, 110]⟩, .string ⟨#[115, 116, 114, 105, 110, 103, 83, 108, 105, 99, 101]⟩, .string ⟨#[115, 116, 114, 105, 110, 103, 65, 114, 114, 97, 121]⟩, .string ⟨#[105, 110, 116, 83, 108, 105, 99, 101]⟩, .string ⟨#[98, 111, 111, 108, 83, 108, 105, 99, 101]⟩, .string ⟨#[115, 116, 114, 105, 110, 103, 84, 111, 83, 116, 114, 105, 110, 103]⟩] 9) = w1 := ⟨_, rfl⟩
  have hb1 : Below w.heap.size w w1 := by rw [← hw1]; exact (Below.refl _ _).alloc (Nat.le_refl _) _
  have hX : w1.heap[w.heap.size]? = some (.cells #[.string ⟨#[98, 111, 111, 108]⟩, .string ⟨#[105, 110, 116]⟩, .string ⟨#[105, 110, 116, 56]⟩, .string ⟨#[105, 110, 116, 49, 54]⟩, .string ⟨#[105, 110, 116, 51, 50]⟩, .string ⟨#[105, 110, 116, 54, 52]⟩, .string ⟨#[99, 111, 117, 110, 116]⟩, .string ⟨#[117, 105, 110, 116]⟩, .string ⟨#[117, 105, 110, 116, 56]⟩, .string ⟨#[117, 105, 110, 116, 49, 54]⟩, .string ⟨#[117, 105, 110, 116, 51, 50]⟩, .string ⟨#[117, 105, 110, 116, 54, 52]⟩, .string ⟨#[102, 108, 111, 97, 116, 51, 50]⟩, .string ⟨#[102, 108, 111, 97, 116, 54, 52]⟩, .string ⟨#[115, 116, 114, 105, 110, 103]⟩, .string ⟨#[100, 117, 114, 97, 116, 105, 111, 110]⟩, .string ⟨#[115, 116, 114, 105, 110, 103, 83, 108, 105, 99, 101]⟩, .string ⟨#[115, 116, 114, 105, 110, 103, 65, 114, 114, 97, 121]⟩, .string ⟨#[105, 110, 116, 83, 108, 105, 99, 101]⟩, .string ⟨#[98, 111, 111, 108, 83, 108, 105, 99, 101]⟩, .string ⟨#[115, 116, 114, 105, 110, 103, 84, 111, 83, 116, 114, 105, 110, 103]⟩] 9 (0, 0)) := by rw [← hw1]; exact heap_at' _ _ _ rfl
  have hlt : w.heap.size < w1.heap.size := by rw [← hw1]; simp only [World.size_alloc]; omega
  have HC := Lib.hid (fun wx (h : Below w1.heap.size w1 wx) => (show wx.cell? ⟨w.heap.size, 19, none⟩ = some (.string ⟨#[98, 111, 111, 108, 83, 108, 105, 99, 101]⟩) from cell_at' ((h.block _ hlt).trans hX) 19 _ rfl))
  have C := Lib.hid (fun W => typeOf_19 W)
  have HB := Lib.hid hb1
  have hd1 := (Below.refl w1.heap.size w1).drew
  clear hX hb1
  go_enter Try.func3, Try.ntmps3
  go_upto_region 2 with fail
  go_region_held3 (fun wx => wx.cell? ⟨w.heap.size, 19, none⟩ = some (.string ⟨#[98, 111, 111, 108, 83, 108, 105, 99, 101]⟩))
    (first
      | (with_reducible exact HC.out _ hd1)
      | (with_reducible exact HC.out _ hd2))
    (first
      | (go_simp; go_at_call 4; refine (C.out _).mono ?_; rintro e w2 ⟨rfl, hb2⟩; have hd2 := Below.after hd1 hb2)
      | fail)
  all_goals (go_wp2_with fail)
  all_goals go_ret
  all_goals exact ⟨rfl, Below.after HB.out hd2⟩
set_option maxRecDepth 100000 in
theorem types_20 (w : World) : Calls Try.prog 3 #[.int .i64 20] w fun e w' => e = .returned (.bool true) ∧ Below w.heap.size w w' := by
  obtain ⟨w1, hw1⟩ : ∃ w1, w.alloc (.cells #[.string ⟨#[98, 111, 111, 108]⟩, .string ⟨#[105, 110, 116]⟩, .string ⟨#[105, 110, 116, 56]⟩, .string ⟨#[105, 110, 116, 49, 54]⟩, .string ⟨#[105, 110, 116, 51, 50]⟩, .string ⟨#[105, 110, 116, 54, 52]⟩, .string ⟨#[99, 111, 117, 110, 116]⟩, .string ⟨#[117, 105, 110, 116]⟩, .string ⟨#[117, 105, 110, 116, 56]⟩, .string ⟨#[117, 105, 110, 116, 49, 54]⟩, .string ⟨#[117, 105, 110, 116, 51, 50]⟩, .string ⟨#[117, 105, 110, 116, 54, 52]⟩, .string ⟨#[102, 108, 111, 97, 116, 51, 50]⟩, .string ⟨#[102, 108, 111, 97, 116, 54, 52]⟩, .string ⟨#[115, 116, 114, 105, 110, 103]⟩, .string ⟨#[100, 117, 114, 97, 116, 105, 111, 110]⟩, .string ⟨#[115, 116, 114, 105, 110, 103, 83, 108, 105, 99, 101]⟩, .string ⟨#[115, 116, 114, 105, 110, 103, 65, 114, 114, 97, 121]⟩, .string ⟨#[105, 110, 116, 83, 108, 105, 99, 101]⟩, .string ⟨#[98, 111, 111, 108, 83, 108, 105, 99, 101]⟩, .string ⟨#[115, 116, 114, 105, 110, 103, 84, 111, 83, 116, 114, 105, 110, 103]⟩] 9) = w1 := ⟨_, rfl⟩
  have hb1 : Below w.heap.size w w1 := by rw [← hw1]; exact (Below.refl _ _).alloc (Nat.le_refl _) _
  have hX : w1.heap[w.heap.size]? = some (.cells #[.string ⟨#[98, 111, 111, 108]⟩, .string ⟨#[105, 110, 116]⟩, .string ⟨#[105, 110, 116, 56]⟩, .string ⟨#[105, 110, 116, 49, 54]⟩, .string ⟨#[105, 110, 116, 51, 50]⟩, .string ⟨#[105, 110, 116, 54, 52]⟩, .string ⟨#[99, 111, 117, 110, 116]⟩, .string ⟨#[117, 105, 110, 116]⟩, .string ⟨#[117, 105, 110, 116, 56]⟩, .string ⟨#[117, 105, 110, 116, 49, 54]⟩, .string ⟨#[117, 105, 110, 116, 51, 50]⟩, .string ⟨#[117, 105, 110, 116, 54, 52]⟩, .string ⟨#[102, 108, 111, 97, 116, 51, 50]⟩, .string ⟨#[102, 108, 111, 97, 116, 54, 52]⟩, .string ⟨#[115, 116, 114, 105, 110, 103]⟩, .string ⟨#[100, 117, 114, 97, 116, 105, 111, 110]⟩, .string ⟨#[115, 116, 114, 105, 110, 103, 83, 108, 105, 99, 101]⟩, .string ⟨#[115, 116, 114, 105, 110, 103, 65, 114, 114, 97, 121]⟩, .string ⟨#[105, 110, 116, 83, 108, 105, 99, 101]⟩, .string ⟨#[98, 111, 111, 108, 83, 108, 105, 99, 101]⟩, .string ⟨#[115, 116, 114, 105, 110, 103, 84, 111, 83, 116, 114, 105, 110, 103]⟩] 9 (0, 0)) := by rw [← hw1]; exact heap_at' _ _ _ rfl
  have hlt : w.heap.size < w1.heap.size := by rw [← hw1]; simp only [World.size_alloc]; omega
  have HC := Lib.hid (fun wx (h : Below w1.heap.size w1 wx) => (show wx.cell? ⟨w.heap.size, 20, none⟩ = some (.string ⟨#[115, 116, 114, 105, 110, 103, 84, 111, 83, 116, 114, 105, 110, 103]⟩) from cell_at' ((h.block _ hlt).trans hX) 20 _ rfl))
  have C := Lib.hid (fun W => typeOf_20 W)
  have HB := Lib.hid hb1
  have hd1 := (Below.refl w1.heap.size w1).drew
  clear hX hb1
  go_enter Try.func3, Try.ntmps3
  go_upto_region 2 with fail
  go_region_held3 (fun wx => wx.cell? ⟨w.heap.size, 20, none⟩ = some (.string ⟨#[115, 116, 114, 105, 110, 103, 84, 111, 83, 116, 114, 105, 110, 103]⟩))
    (first
      | (with_reducible exact HC.out _ hd1)
      | (with_reducible exact HC.out _ hd2))
    (first
      | (go_simp; go_at_call 4; refine (C.out _).mono ?_; rintro e w2 ⟨rfl, hb2⟩; have hd2 := Below.after hd1 hb2)
      | fail)
  all_goals (go_wp2_with fail)
  all_goals go_ret
  all_goals exact ⟨rfl, Below.after HB.out hd2⟩
theorem fnTypes_walk (k : Int) {I : Prop} (hk : I) (w : World) : Calls Try.prog 3 #[.int .i64 k] w fun e w' => e = .returned (.bool true) ∧ Below w.heap.size w w' := by
  by_cases h0 : k < 0
  · have d0 : decide (k < 0) = true := decide_eq_true h0
    go_enter Try.func3, Try.ntmps3
    go_wp2_with fail
    go_quiet (fail)
    go_wp2_with fail
    go_ret
    exact ⟨rfl, Below.drewN' ((Below.refl _ _).alloc (Nat.le_refl _) _)⟩
  by_cases h1 : 21 ≤ k
  · have d0 : decide (k < 0) = false := decide_eq_false h0
    have d1 : decide (21 ≤ k) = true := decide_eq_true h1
    have d2 : decide (k ≥ 21) = true := decide_eq_true h1
    go_enter Try.func3, Try.ntmps3
    go_wp2_with fail
    go_quiet (fail)
    go_wp2_with fail
    go_ret
    exact ⟨rfl, Below.drewN' ((Below.refl _ _).alloc (Nat.le_refl _) _)⟩
  obtain rfl | rfl | rfl | rfl | rfl | rfl | rfl | rfl | rfl | rfl | rfl | rfl | rfl | rfl | rfl | rfl | rfl | rfl | rfl | rfl | rfl : k = 0 ∨ k = 1 ∨ k = 2 ∨ k = 3 ∨ k = 4 ∨ k = 5 ∨ k = 6 ∨ k = 7 ∨ k = 8 ∨ k = 9 ∨ k = 10 ∨ k = 11 ∨ k = 12 ∨ k = 13 ∨ k = 14 ∨ k = 15 ∨ k = 16 ∨ k = 17 ∨ k = 18 ∨ k = 19 ∨ k = 20 := by omega
  · exact types_0 w
  · exact types_1 w
  · exact types_2 w
  · exact types_3 w
  · exact types_4 w
  · exact types_5 w
  · exact types_6 w
  · exact types_7 w
  · exact types_8 w
  · exact types_9 w
  · exact types_10 w
  · exact types_11 w
  · exact types_12 w
  · exact types_13 w
  · exact types_14 w
  · exact types_15 w
  · exact types_16 w
  · exact types_17 w
  · exact types_18 w
  · exact types_19 w
  · exact types_20 w
end Go.Proofs.Ytdllgldnagdepaa
