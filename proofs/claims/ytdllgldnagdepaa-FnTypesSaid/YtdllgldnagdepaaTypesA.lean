/- Each kind tells its name. (Printed by gen_cast.py.) -/
import Derived.Test.YtdllgldnagdepaaProg
import Derived.WalkKit
import Derived.KernelRfl
import Derived.RowKit3
import Derived.Deep.QuietTactic
import Derived.BigQuiet
import Derived.Lib.Hide
import Derived.Deep.DeepFit
import Derived.WalkSpells
import Derived.WalkLawsBesides
import Derived.Carry
import Derived.Deep.RegionHeld3
import Derived.Deep.CutRange
import Derived.Deep.CutBlock
namespace Go.Proofs.Ytdllgldnagdepaa
open Go.RowKit
set_option linter.unusedVariables false
set_option linter.unusedSimpArgs false

/-- A world with more blocks. -/
theorem Below.after {a b c : World} (h : Below a.heap.size a b) (k : Below b.heap.size b c) : Below a.heap.size a c := h.trans (k.mono h.size)
theorem Below.drewN' {B : Nat} {a w : World} (h : Below B a w) {n : Nat} : Below B a (w.drewN n) := ⟨h.os, h.tape, h.output, h.size, h.block⟩
theorem typeOf_0 (w : World) : Calls Try.prog 4 #[.int .i64 0] w fun e w' => e = .returned (.string ⟨#[98, 111, 111, 108]⟩) ∧ Below w.heap.size w w' := by
  skip
  go_enter Try.func4, Try.ntmps4
  go_wp2
  go_ret
  exact ⟨rfl, by (repeat (first | (with_reducible exact Below.refl _ _) | (with_reducible assumption) | ((with_reducible refine Below.alloc ?_ ?_ _); rotate_left; focus ((try simp only [World.size_alloc, World.heap_drewN]); (try omega); done)) | ((with_reducible refine Below.setCell ?_ ?_ _); rotate_left; focus ((try simp only [World.size_alloc, World.heap_drewN]); (try omega); done)) | (with_reducible refine Below.drewN' ?_) | (with_reducible refine Below.drew ?_)))⟩
theorem typeOf_1 (w : World) : Calls Try.prog 4 #[.int .i64 1] w fun e w' => e = .returned (.string ⟨#[105, 110, 116]⟩) ∧ Below w.heap.size w w' := by
  skip
  go_enter Try.func4, Try.ntmps4
  go_wp2
  go_ret
  exact ⟨rfl, by (repeat (first | (with_reducible exact Below.refl _ _) | (with_reducible assumption) | ((with_reducible refine Below.alloc ?_ ?_ _); rotate_left; focus ((try simp only [World.size_alloc, World.heap_drewN]); (try omega); done)) | ((with_reducible refine Below.setCell ?_ ?_ _); rotate_left; focus ((try simp only [World.size_alloc, World.heap_drewN]); (try omega); done)) | (with_reducible refine Below.drewN' ?_) | (with_reducible refine Below.drew ?_)))⟩
theorem typeOf_2 (w : World) : Calls Try.prog 4 #[.int .i64 2] w fun e w' => e = .returned (.string ⟨#[105, 110, 116, 56]⟩) ∧ Below w.heap.size w w' := by
  skip
  go_enter Try.func4, Try.ntmps4
  go_wp2
  go_ret
  exact ⟨rfl, by (repeat (first | (with_reducible exact Below.refl _ _) | (with_reducible assumption) | ((with_reducible refine Below.alloc ?_ ?_ _); rotate_left; focus ((try simp only [World.size_alloc, World.heap_drewN]); (try omega); done)) | ((with_reducible refine Below.setCell ?_ ?_ _); rotate_left; focus ((try simp only [World.size_alloc, World.heap_drewN]); (try omega); done)) | (with_reducible refine Below.drewN' ?_) | (with_reducible refine Below.drew ?_)))⟩
theorem typeOf_3 (w : World) : Calls Try.prog 4 #[.int .i64 3] w fun e w' => e = .returned (.string ⟨#[105, 110, 116, 49, 54]⟩) ∧ Below w.heap.size w w' := by
  skip
  go_enter Try.func4, Try.ntmps4
  go_wp2
  go_ret
  exact ⟨rfl, by (repeat (first | (with_reducible exact Below.refl _ _) | (with_reducible assumption) | ((with_reducible refine Below.alloc ?_ ?_ _); rotate_left; focus ((try simp only [World.size_alloc, World.heap_drewN]); (try omega); done)) | ((with_reducible refine Below.setCell ?_ ?_ _); rotate_left; focus ((try simp only [World.size_alloc, World.heap_drewN]); (try omega); done)) | (with_reducible refine Below.drewN' ?_) | (with_reducible refine Below.drew ?_)))⟩
theorem typeOf_4 (w : World) : Calls Try.prog 4 #[.int .i64 4] w fun e w' => e = .returned (.string ⟨#[105, 110, 116, 51, 50]⟩) ∧ Below w.heap.size w w' := by
  skip
  go_enter Try.func4, Try.ntmps4
  go_wp2
  go_ret
  exact ⟨rfl, by (repeat (first | (with_reducible exact Below.refl _ _) | (with_reducible assumption) | ((with_reducible refine Below.alloc ?_ ?_ _); rotate_left; focus ((try simp only [World.size_alloc, World.heap_drewN]); (try omega); done)) | ((with_reducible refine Below.setCell ?_ ?_ _); rotate_left; focus ((try simp only [World.size_alloc, World.heap_drewN]); (try omega); done)) | (with_reducible refine Below.drewN' ?_) | (with_reducible refine Below.drew ?_)))⟩
theorem typeOf_5 (w : World) : Calls Try.prog 4 #[.int .i64 5] w fun e w' => e = .returned (.string ⟨#[105, 110, 116, 54, 52]⟩) ∧ Below w.heap.size w w' := by
  skip
  go_enter Try.func4, Try.ntmps4
  go_wp2
  go_ret
  exact ⟨rfl, by (repeat (first | (with_reducible exact Below.refl _ _) | (with_reducible assumption) | ((with_reducible refine Below.alloc ?_ ?_ _); rotate_left; focus ((try simp only [World.size_alloc, World.heap_drewN]); (try omega); done)) | ((with_reducible refine Below.setCell ?_ ?_ _); rotate_left; focus ((try simp only [World.size_alloc, World.heap_drewN]); (try omega); done)) | (with_reducible refine Below.drewN' ?_) | (with_reducible refine Below.drew ?_)))⟩
theorem typeOf_6 (w : World) : Calls Try.prog 4 #[.int .i64 6] w fun e w' => e = .returned (.string ⟨#[99, 111, 117, 110, 116]⟩) ∧ Below w.heap.size w w' := by
  skip
  go_enter Try.func4, Try.ntmps4
  go_wp2
  go_ret
  exact ⟨rfl, by (repeat (first | (with_reducible exact Below.refl _ _) | (with_reducible assumption) | ((with_reducible refine Below.alloc ?_ ?_ _); rotate_left; focus ((try simp only [World.size_alloc, World.heap_drewN]); (try omega); done)) | ((with_reducible refine Below.setCell ?_ ?_ _); rotate_left; focus ((try simp only [World.size_alloc, World.heap_drewN]); (try omega); done)) | (with_reducible refine Below.drewN' ?_) | (with_reducible refine Below.drew ?_)))⟩
theorem typeOf_7 (w : World) : Calls Try.prog 4 #[.int .i64 7] w fun e w' => e = .returned (.string ⟨#[117, 105, 110, 116]⟩) ∧ Below w.heap.size w w' := by
  skip
  go_enter Try.func4, Try.ntmps4
  go_wp2
  go_ret
  exact ⟨rfl, by (repeat (first | (with_reducible exact Below.refl _ _) | (with_reducible assumption) | ((with_reducible refine Below.alloc ?_ ?_ _); rotate_left; focus ((try simp only [World.size_alloc, World.heap_drewN]); (try omega); done)) | ((with_reducible refine Below.setCell ?_ ?_ _); rotate_left; focus ((try simp only [World.size_alloc, World.heap_drewN]); (try omega); done)) | (with_reducible refine Below.drewN' ?_) | (with_reducible refine Below.drew ?_)))⟩
theorem typeOf_8 (w : World) : Calls Try.prog 4 #[.int .i64 8] w fun e w' => e = .returned (.string ⟨#[117, 105, 110, 116, 56]⟩) ∧ Below w.heap.size w w' := by
  skip
  go_enter Try.func4, Try.ntmps4
  go_wp2
  go_ret
  exact ⟨rfl, by (repeat (first | (with_reducible exact Below.refl _ _) | (with_reducible assumption) | ((with_reducible refine Below.alloc ?_ ?_ _); rotate_left; focus ((try simp only [World.size_alloc, World.heap_drewN]); (try omega); done)) | ((with_reducible refine Below.setCell ?_ ?_ _); rotate_left; focus ((try simp only [World.size_alloc, World.heap_drewN]); (try omega); done)) | (with_reducible refine Below.drewN' ?_) | (with_reducible refine Below.drew ?_)))⟩
theorem typeOf_9 (w : World) : Calls Try.prog 4 #[.int .i64 9] w fun e w' => e = .returned (.string ⟨#[117, 105, 110, 116, 49, 54]⟩) ∧ Below w.heap.size w w' := by
  skip
  go_enter Try.func4, Try.ntmps4
  go_wp2
  go_ret
  exact ⟨rfl, by (repeat (first | (with_reducible exact Below.refl _ _) | (with_reducible assumption) | ((with_reducible refine Below.alloc ?_ ?_ _); rotate_left; focus ((try simp only [World.size_alloc, World.heap_drewN]); (try omega); done)) | ((with_reducible refine Below.setCell ?_ ?_ _); rotate_left; focus ((try simp only [World.size_alloc, World.heap_drewN]); (try omega); done)) | (with_reducible refine Below.drewN' ?_) | (with_reducible refine Below.drew ?_)))⟩
theorem typeOf_10 (w : World) : Calls Try.prog 4 #[.int .i64 10] w fun e w' => e = .returned (.string ⟨#[117, 105, 110, 116, 51, 50]⟩) ∧ Below w.heap.size w w' := by
  skip
  go_enter Try.func4, Try.ntmps4
  go_wp2
  go_ret
  exact ⟨rfl, by (repeat (first | (with_reducible exact Below.refl _ _) | (with_reducible assumption) | ((with_reducible refine Below.alloc ?_ ?_ _); rotate_left; focus ((try simp only [World.size_alloc, World.heap_drewN]); (try omega); done)) | ((with_reducible refine Below.setCell ?_ ?_ _); rotate_left; focus ((try simp only [World.size_alloc, World.heap_drewN]); (try omega); done)) | (with_reducible refine Below.drewN' ?_) | (with_reducible refine Below.drew ?_)))⟩
theorem typeOf_11 (w : World) : Calls Try.prog 4 #[.int .i64 11] w fun e w' => e = .returned (.string ⟨#[117, 105, 110, 116, 54, 52]⟩) ∧ Below w.heap.size w w' := by
  skip
  go_enter Try.func4, Try.ntmps4
  go_wp2
  go_ret
  exact ⟨rfl, by (repeat (first | (with_reducible exact Below.refl _ _) | (with_reducible assumption) | ((with_reducible refine Below.alloc ?_ ?_ _); rotate_left; focus ((try simp only [World.size_alloc, World.heap_drewN]); (try omega); done)) | ((with_reducible refine Below.setCell ?_ ?_ _); rotate_left; focus ((try simp only [World.size_alloc, World.heap_drewN]); (try omega); done)) | (with_reducible refine Below.drewN' ?_) | (with_reducible refine Below.drew ?_)))⟩
theorem typeOf_12 (w : World) : Calls Try.prog 4 #[.int .i64 12] w fun e w' => e = .returned (.string ⟨#[102, 108, 111, 97, 116, 51, 50]⟩) ∧ Below w.heap.size w w' := by
  have hst : ∀ w b, Sem.run Try.prog (store ⟨b, 0, none⟩ (.float .f32 0)) w = stored Try.prog w ⟨b, 0, none⟩ (.float .f32 0) .plain := fun w _ => run_store _ w _ _ _ rfl
  go_enter Try.func4, Try.ntmps4
  go_wp2
  go_ret
  exact ⟨rfl, by (repeat (first | (with_reducible exact Below.refl _ _) | (with_reducible assumption) | ((with_reducible refine Below.alloc ?_ ?_ _); rotate_left; focus ((try simp only [World.size_alloc, World.heap_drewN]); (try omega); done)) | ((with_reducible refine Below.setCell ?_ ?_ _); rotate_left; focus ((try simp only [World.size_alloc, World.heap_drewN]); (try omega); done)) | (with_reducible refine Below.drewN' ?_) | (with_reducible refine Below.drew ?_)))⟩
theorem typeOf_13 (w : World) : Calls Try.prog 4 #[.int .i64 13] w fun e w' => e = .returned (.string ⟨#[102, 108, 111, 97, 116, 54, 52]⟩) ∧ Below w.heap.size w w' := by
  have hst : ∀ w b, Sem.run Try.prog (store ⟨b, 0, none⟩ (.float .f64 0)) w = stored Try.prog w ⟨b, 0, none⟩ (.float .f64 0) .plain := fun w _ => run_store _ w _ _ _ rfl
  go_enter Try.func4, Try.ntmps4
  go_wp2
  go_ret
  exact ⟨rfl, by (repeat (first | (with_reducible exact Below.refl _ _) | (with_reducible assumption) | ((with_reducible refine Below.alloc ?_ ?_ _); rotate_left; focus ((try simp only [World.size_alloc, World.heap_drewN]); (try omega); done)) | ((with_reducible refine Below.setCell ?_ ?_ _); rotate_left; focus ((try simp only [World.size_alloc, World.heap_drewN]); (try omega); done)) | (with_reducible refine Below.drewN' ?_) | (with_reducible refine Below.drew ?_)))⟩
theorem typeOf_14 (w : World) : Calls Try.prog 4 #[.int .i64 14] w fun e w' => e = .returned (.string ⟨#[115, 116, 114, 105, 110, 103]⟩) ∧ Below w.heap.size w w' := by
  skip
  go_enter Try.func4, Try.ntmps4
  go_wp2
  go_ret
  exact ⟨rfl, by (repeat (first | (with_reducible exact Below.refl _ _) | (with_reducible assumption) | ((with_reducible refine Below.alloc ?_ ?_ _); rotate_left; focus ((try simp only [World.size_alloc, World.heap_drewN]); (try omega); done)) | ((with_reducible refine Below.setCell ?_ ?_ _); rotate_left; focus ((try simp only [World.size_alloc, World.heap_drewN]); (try omega); done)) | (with_reducible refine Below.drewN' ?_) | (with_reducible refine Below.drew ?_)))⟩
theorem typeOf_15 (w : World) : Calls Try.prog 4 #[.int .i64 15] w fun e w' => e = .returned (.string ⟨#[100, 117, 114, 97, 116, 105, 111, 110]⟩) ∧ Below w.heap.size w w' := by
  skip
  go_enter Try.func4, Try.ntmps4
  go_wp2
  go_ret
  exact ⟨rfl, by (repeat (first | (with_reducible exact Below.refl _ _) | (with_reducible assumption) | ((with_reducible refine Below.alloc ?_ ?_ _); rotate_left; focus ((try simp only [World.size_alloc, World.heap_drewN]); (try omega); done)) | ((with_reducible refine Below.setCell ?_ ?_ _); rotate_left; focus ((try simp only [World.size_alloc, World.heap_drewN]); (try omega); done)) | (with_reducible refine Below.drewN' ?_) | (with_reducible refine Below.drew ?_)))⟩
theorem typeOf_16 (w : World) : Calls Try.prog 4 #[.int .i64 16] w fun e w' => e = .returned (.string ⟨#[115, 116, 114, 105, 110, 103, 83, 108, 105, 99, 101]⟩) ∧ Below w.heap.size w w' := by
  skip
  go_enter Try.func4, Try.ntmps4
  go_wp2
  go_ret
  exact ⟨rfl, by (repeat (first | (with_reducible exact Below.refl _ _) | (with_reducible assumption) | ((with_reducible refine Below.alloc ?_ ?_ _); rotate_left; focus ((try simp only [World.size_alloc, World.heap_drewN]); (try omega); done)) | ((with_reducible refine Below.setCell ?_ ?_ _); rotate_left; focus ((try simp only [World.size_alloc, World.heap_drewN]); (try omega); done)) | (with_reducible refine Below.drewN' ?_) | (with_reducible refine Below.drew ?_)))⟩
theorem typeOf_17 (w : World) : Calls Try.prog 4 #[.int .i64 17] w fun e w' => e = .returned (.string ⟨#[115, 116, 114, 105, 110, 103, 65, 114, 114, 97, 121]⟩) ∧ Below w.heap.size w w' := by
  skip
  go_enter Try.func4, Try.ntmps4
  go_wp2
  go_ret
  exact ⟨rfl, by (repeat (first | (with_reducible exact Below.refl _ _) | (with_reducible assumption) | ((with_reducible refine Below.alloc ?_ ?_ _); rotate_left; focus ((try simp only [World.size_alloc, World.heap_drewN]); (try omega); done)) | ((with_reducible refine Below.setCell ?_ ?_ _); rotate_left; focus ((try simp only [World.size_alloc, World.heap_drewN]); (try omega); done)) | (with_reducible refine Below.drewN' ?_) | (with_reducible refine Below.drew ?_)))⟩
theorem typeOf_18 (w : World) : Calls Try.prog 4 #[.int .i64 18] w fun e w' => e = .returned (.string ⟨#[105, 110, 116, 83, 108, 105, 99, 101]⟩) ∧ Below w.heap.size w w' := by
  skip
  go_enter Try.func4, Try.ntmps4
  go_wp2
  go_ret
  exact ⟨rfl, by (repeat (first | (with_reducible exact Below.refl _ _) | (with_reducible assumption) | ((with_reducible refine Below.alloc ?_ ?_ _); rotate_left; focus ((try simp only [World.size_alloc, World.heap_drewN]); (try omega); done)) | ((with_reducible refine Below.setCell ?_ ?_ _); rotate_left; focus ((try simp only [World.size_alloc, World.heap_drewN]); (try omega); done)) | (with_reducible refine Below.drewN' ?_) | (with_reducible refine Below.drew ?_)))⟩
theorem typeOf_19 (w : World) : Calls Try.prog 4 #[.int .i64 19] w fun e w' => e = .returned (.string ⟨#[98, 111, 111, 108, 83, 108, 105, 99, 101]⟩) ∧ Below w.heap.size w w' := by
  skip
  go_enter Try.func4, Try.ntmps4
  go_wp2
  go_ret
  exact ⟨rfl, by (repeat (first | (with_reducible exact Below.refl _ _) | (with_reducible assumption) | ((with_reducible refine Below.alloc ?_ ?_ _); rotate_left; focus ((try simp only [World.size_alloc, World.heap_drewN]); (try omega); done)) | ((with_reducible refine Below.setCell ?_ ?_ _); rotate_left; focus ((try simp only [World.size_alloc, World.heap_drewN]); (try omega); done)) | (with_reducible refine Below.drewN' ?_) | (with_reducible refine Below.drew ?_)))⟩
theorem typeOf_20 (w : World) : Calls Try.prog 4 #[.int .i64 20] w fun e w' => e = .returned (.string ⟨#[115, 116, 114, 105, 110, 103, 84, 111, 83, 116, 114, 105, 110, 103]⟩) ∧ Below w.heap.size w w' := by
  have hmm := @run_makeMap Try.prog
  go_enter Try.func4, Try.ntmps4
  go_wp2
  go_ret
  exact ⟨rfl, by (repeat (first | (with_reducible exact Below.refl _ _) | (with_reducible assumption) | ((with_reducible refine Below.alloc ?_ ?_ _); rotate_left; focus ((try simp only [World.size_alloc, World.heap_drewN]); (try omega); done)) | ((with_reducible refine Below.setCell ?_ ?_ _); rotate_left; focus ((try simp only [World.size_alloc, World.heap_drewN]); (try omega); done)) | (with_reducible refine Below.drewN' ?_) | (with_reducible refine Below.drew ?_)))⟩
end Go.Proofs.Ytdllgldnagdepaa
