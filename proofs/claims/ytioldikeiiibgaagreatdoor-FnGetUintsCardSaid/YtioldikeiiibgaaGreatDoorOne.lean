/- A set of flags (package few) with one flag, x, as it lies in a world. -/
import Derived.Test.YtioldikeiiibgaaGreatDoorH
import Derived.Test.YtioldikeiiibgaaGreatDoorMaps
namespace Go.Proofs.YtioldikeiiibgaaGreatDoor
open Go.RowKit
set_option linter.unusedVariables false
set_option linter.unusedSimpArgs false

def ptr (b : Nat) : Value := .pointer (some ⟨b, 0, none⟩)
def X : ByteArray := ⟨#[120]⟩
def fsC (act oav fm ofv : Value) : Array Value := #[.bool true, .bool false, .bool false, .string ⟨#[]⟩, .bool false, act, oav, .slice none 0 0, fm, ofv, .slice none 0 0, .map none, .slice none 0 0, .int .i64 (-1), .int .i64 0, .bool true, .nilFunc]
def flC (iv : Value) (df no : ByteArray) (chg : Bool) : Array Value := #[.string X, .string ⟨#[]⟩, .string ⟨#[]⟩, iv, .string df, .bool chg, .string no, .string ⟨#[]⟩, .bool false, .string ⟨#[]⟩, .map none]

/-- The set at F, the flag at G, the map of names at M, the flag's value at P. -/
structure OneX (tP : TypeId) (iv : Value) (w0 : World) (F G M P : Nat) (df no : ByteArray) (chg : Bool) (pv act oav ofv : Value) (w : World) : Prop where
  bel : Below w0.heap.size w0 w
  hF : w.heap[F]? = some (.cells (fsC act oav (.map (some M)) ofv) 79 (0, 0))
  hG : w.heap[G]? = some (.cells (flC iv df no chg) 100 (0, 0))
  hM : MapIs strKey w M [(X, ptr G)]
  hP : w.heap[P]? = some (.cells #[pv] tP (0, 0))
  lF : w0.heap.size ≤ F
  lG : w0.heap.size ≤ G
  lM : w0.heap.size ≤ M
  lP : w0.heap.size ≤ P
  nFG : F ≠ G
  nFP : F ≠ P
  nGP : G ≠ P
section
variable {tP : TypeId} {iv : Value} {w0 : World} {F G M P : Nat} {df no : ByteArray} {chg : Bool} {pv act oav ofv : Value} {w w' : World}
theorem OneX.later (h : OneX tP iv w0 F G M P df no chg pv act oav ofv w) (hb : Below w.heap.size w w') : OneX tP iv w0 F G M P df no chg pv act oav ofv w' :=
  ⟨h.bel.trans (hb.mono h.bel.size), (hb.block _ (lt_of_block h.hF)).trans h.hF, (hb.block _ (lt_of_block h.hG)).trans h.hG, h.hM.later hb.block, (hb.block _ (lt_of_block h.hP)).trans h.hP, h.lF, h.lG, h.lM, h.lP, h.nFG, h.nFP, h.nGP⟩
theorem OneX.setP (h : OneX tP iv w0 F G M P df no chg pv act oav ofv w) (v : Value) : OneX tP iv w0 F G M P df no chg v act oav ofv (w.setCell ⟨P, 0, none⟩ v) :=
  ⟨h.bel.setCell h.lP _, heap_ne' h.nFP h.hF, heap_ne' h.nGP h.hG, h.hM.at (heap_ne _ _ _ _ (h.hM.ne h.hP)), heap_set h.hP 0 _, h.lF, h.lG, h.lM, h.lP, h.nFG, h.nFP, h.nGP⟩
theorem OneX.setAct (h : OneX tP iv w0 F G M P df no chg pv act oav ofv w) (v : Value) : OneX tP iv w0 F G M P df no chg pv v oav ofv (w.setCell ⟨F, 5, none⟩ v) :=
  ⟨h.bel.setCell h.lF _, heap_set h.hF 5 _, heap_ne' (Ne.symm h.nFG) h.hG, h.hM.at (heap_ne _ _ _ _ (h.hM.ne h.hF)), heap_ne' (Ne.symm h.nFP) h.hP, h.lF, h.lG, h.lM, h.lP, h.nFG, h.nFP, h.nGP⟩
theorem OneX.setOa (h : OneX tP iv w0 F G M P df no chg pv act oav ofv w) (v : Value) : OneX tP iv w0 F G M P df no chg pv act v ofv (w.setCell ⟨F, 6, none⟩ v) :=
  ⟨h.bel.setCell h.lF _, heap_set h.hF 6 _, heap_ne' (Ne.symm h.nFG) h.hG, h.hM.at (heap_ne _ _ _ _ (h.hM.ne h.hF)), heap_ne' (Ne.symm h.nFP) h.hP, h.lF, h.lG, h.lM, h.lP, h.nFG, h.nFP, h.nGP⟩
theorem OneX.setOf (h : OneX tP iv w0 F G M P df no chg pv act oav ofv w) (v : Value) : OneX tP iv w0 F G M P df no chg pv act oav v (w.setCell ⟨F, 9, none⟩ v) :=
  ⟨h.bel.setCell h.lF _, heap_set h.hF 9 _, heap_ne' (Ne.symm h.nFG) h.hG, h.hM.at (heap_ne _ _ _ _ (h.hM.ne h.hF)), heap_ne' (Ne.symm h.nFP) h.hP, h.lF, h.lG, h.lM, h.lP, h.nFG, h.nFP, h.nGP⟩
theorem OneX.setChg (h : OneX tP iv w0 F G M P df no chg pv act oav ofv w) (b : Bool) : OneX tP iv w0 F G M P df no b pv act oav ofv (w.setCell ⟨G, 5, none⟩ (.bool b)) :=
  ⟨h.bel.setCell h.lG _, heap_ne' h.nFG h.hF, heap_set h.hG 5 _, h.hM.at (heap_ne _ _ _ _ (h.hM.ne h.hG)), heap_ne' (Ne.symm h.nGP) h.hP, h.lF, h.lG, h.lM, h.lP, h.nFG, h.nFP, h.nGP⟩
theorem OneX.setNo (h : OneX tP iv w0 F G M P df no chg pv act oav ofv w) (s : ByteArray) : OneX tP iv w0 F G M P df s chg pv act oav ofv (w.setCell ⟨G, 6, none⟩ (.string s)) :=
  ⟨h.bel.setCell h.lG _, heap_ne' h.nFG h.hF, heap_set h.hG 6 _, h.hM.at (heap_ne _ _ _ _ (h.hM.ne h.hG)), heap_ne' (Ne.symm h.nGP) h.hP, h.lF, h.lG, h.lM, h.lP, h.nFG, h.nFP, h.nGP⟩
theorem OneX.putMap (h : OneX tP iv w0 F G M P df no chg pv act oav ofv w) {A : Nat} {o : Obj} (hA : w0.heap.size ≤ A) (n1 : F ≠ A) (n2 : G ≠ A) (n3 : M ≠ A) (n4 : P ≠ A) : OneX tP iv w0 F G M P df no chg pv act oav ofv { w with heap := w.heap.setIfInBounds A o } :=
  ⟨⟨h.bel.os, h.bel.tape, h.bel.output, by show _ ≤ (w.heap.setIfInBounds A o).size; rw [Array.size_setIfInBounds]; exact h.bel.size, fun b hb => (setBlock_ne (by omega)).trans (h.bel.block b hb)⟩, (setBlock_ne n1).trans h.hF, (setBlock_ne n2).trans h.hG, h.hM.at (setBlock_ne n3), (setBlock_ne n4).trans h.hP, h.lF, h.lG, h.lM, h.lP, h.nFG, h.nFP, h.nGP⟩
theorem OneX.cF (h : OneX tP iv w0 F G M P df no chg pv act oav ofv w) (j : Nat) (v : Value) (hv : (fsC act oav (.map (some M)) ofv)[j]? = some v) : w.cell? ⟨F, j, none⟩ = some v := cell_of h.hF j v hv
theorem OneX.cG (h : OneX tP iv w0 F G M P df no chg pv act oav ofv w) (j : Nat) (v : Value) (hv : (flC iv df no chg)[j]? = some v) : w.cell? ⟨G, j, none⟩ = some v := cell_of h.hG j v hv
theorem OneX.zF (h : OneX tP iv w0 F G M P df no chg pv act oav ofv w) (j : Nat) : w.frozen? ⟨F, j, none⟩ = false := frozen_of h.hF j
theorem OneX.zG (h : OneX tP iv w0 F G M P df no chg pv act oav ofv w) (j : Nat) : w.frozen? ⟨G, j, none⟩ = false := frozen_of h.hG j
theorem OneX.find (h : OneX tP iv w0 F G M P df no chg pv act oav ofv w) (ok : Bool) : (Instr.lookup 74 (.map (some M)) (.string X) ok).run Tryz.prog w = .ok (if ok then .tuple #[ptr G, .bool true] else ptr G) w := by
  have := run_lookup_map (P := Tryz.prog) (T := 74) (kt := 88) (et := 90) (z := .pointer none) h.hM (by kernel_rfl) (by kernel_rfl) (by kernel_rfl) X ok
  have e : mapFind X [(X, ptr G)] 0 = some (0, ptr G) := by simp [mapFind]
  rw [e] at this
  exact this
end

theorem getNorm_any (F : Nat) {act oav fm ofv : Value} (w : World) (h : w.heap[F]? = some (.cells (fsC act oav fm ofv) 79 (0, 0))) :
    Calls Tryz.prog 66 #[ptr F] w fun e w' => e = .returned (.func (.func 72) #[] #[]) ∧ w = w' := by
  have hrun : Sem.run Tryz.prog (binOp BinOp.neq 77 Value.nilFunc Value.nilFunc) w = .ok (.bool false) w := by kernel_rfl
  have c16 := cell_of h 16 .nilFunc rfl
  clear h
  unfold ptr
  go_enter Tryz.func66, Tryz.ntmps66
  go_wp2_with fail
  go_ret
  exact ⟨rfl, rfl⟩
theorem sameNorm_any (v : Value) (n : ByteArray) (w : World) : Calls Tryz.prog 72 #[v, .string n] w fun e w' => e = .returned (.string n) ∧ w = w' := by
  go_enter Tryz.func72, Tryz.ntmps72
  go_wp2_with fail
  go_ret
  exact ⟨rfl, rfl⟩
/-- Names stay as they are. -/
theorem norm_any (F : Nat) {act oav fm ofv : Value} (w : World) (h : w.heap[F]? = some (.cells (fsC act oav fm ofv) 79 (0, 0))) (n : ByteArray) :
    Calls Tryz.prog 50 #[ptr F, .string n] w fun e w' => e = .returned (.string n) ∧ Below w.heap.size w w' := by
  have C1 := Lib.hid (getNorm_any F w h)
  clear h
  unfold ptr at *
  go_enter Tryz.func50, Tryz.ntmps50
  go_wp2_with fail
  refine C1.out.mono ?_
  rintro e w1 ⟨rfl, rfl⟩
  go_wp2_with fail
  refine (sameNorm_any _ n _).mono ?_
  rintro e w1 ⟨rfl, rfl⟩
  go_wp2_with fail
  go_ret
  exact ⟨rfl, Below.refl _ _⟩
end Go.Proofs.YtioldikeiiibgaaGreatDoor
