/- The reference's addSet: its drawn region, by what holds of each operation. (Printed by gen_jreg.py.) -/
import Derived.Test.YtmmkebdaijmpiaaGreatJRefA
import Derived.Test.YtmmkebdaijmpiaaGreatJAddK
namespace Go.Proofs.YtmmkebdaijmpiaaGreat
open Go.RowKit
set_option linter.unusedVariables false
set_option linter.unusedSimpArgs false

theorem og_on {P : Program} {ops : Array Oper} {Q : Exit → Act → World → Prop} {i j d : Nat} {b : Bool} {o : Oper} {K : Act → World → Prop} {a : Act} {w : World} (ho : ops[i]? = some o) (hg : o.guard = some (j, b)) (hd : (ops[j]?).bind (·.dst) = some d) (hv : a.tmps[d]? = some (.bool b)) (h : o.wp P a w K Q) : wpOp P ops Q i K a w := by
  unfold wpOp
  simp only [ho]
  have hw : Region.wanted o (yielded ops a.tmps) = true := by simp [Region.wanted, hg, yielded, hd, hv]
  rw [if_pos hw]
  exact .inl h
theorem og_off {P : Program} {ops : Array Oper} {Q : Exit → Act → World → Prop} {i j d : Nat} {b : Bool} {o : Oper} {K : Act → World → Prop} {a : Act} {w : World} (ho : ops[i]? = some o) (hg : o.guard = some (j, b)) (hd : (ops[j]?).bind (·.dst) = some d) (hv : a.tmps[d]? = some (.bool !b)) (h : K (a.put o.dst undef) w) : wpOp P ops Q i K a w := by
  unfold wpOp
  simp only [ho]
  have hw : Region.wanted o (yielded ops a.tmps) = false := by cases b <;> simp [Region.wanted, hg, yielded, hd, hv]
  rw [if_neg (by rw [hw]; decide)]
  exact h
theorem tmp_over (D : List Nat) (f : Nat → Value) (a : Act) {d : Nat} (hd : D.contains d = true) (hs : d < a.tmps.size) : (over D f a).tmps[d]? = some (f d) := by
  rw [over_get, Array.getElem?_eq_getElem hs]
  simp only [Option.map_some, hd, if_true]
section
variable {ρ : Operand → Value} {d : Option Tmp} {ty : TypeId} {pos : String} {af : Array Edge} {g : Option (Nat × Bool)} {w : World}
theorem run_lss0 {x : Tmp} {n : Int} (h : ρ (.tmp x) = .int .i64 n) (h0 : ρ (.const (.int .i64 0)) = .int .i64 0) : (execOp ρ ⟨d, .binOp .lss 3 (.tmp x) (.const (.int .i64 0)) 3, ty, pos, af, g⟩).run Tryz.prog w = .ok (.value (.bool (decide (n < 0)))) w := by
  go_simp
theorem run_nilP {x : Tmp} {B : Nat} (h : ρ (.tmp x) = .pointer (some ⟨B, 0, none⟩)) : (execOp ρ ⟨d, .nilCheck (.tmp x), ty, pos, af, g⟩).run Tryz.prog w = .ok (.value (.pointer (some ⟨B, 0, none⟩))) w := by
  go_simp
theorem run_fieldS2 {x : Tmp} {B : Nat} (h : ρ (.tmp x) = .pointer (some ⟨B, 0, none⟩)) : (execOp ρ ⟨d, .fieldAddr 41 (.tmp x) 2, ty, pos, af, g⟩).run Tryz.prog w = .ok (.value (.pointer (some ⟨B, 2, none⟩))) w := by
  go_simp
theorem run_loadFl {x : Tmp} {B n c : Nat} {a : Option Addr} (h : ρ (.tmp x) = .pointer (some ⟨B, 2, none⟩)) (hc : w.cell? ⟨B, 2, none⟩ = some (.slice a n c)) : (execOp ρ ⟨d, .load 38 (.tmp x), ty, pos, af, g⟩).run Tryz.prog w = .ok (.value (.slice a n c)) w := by
  go_simp
theorem run_idxF {x y : Tmp} {R n c p : Nat} (h : ρ (.tmp x) = .slice (some ⟨R, 0, none⟩) n c) (h' : ρ (.tmp y) = .int .i64 (p : Int)) (hp : (p : Int) < (n : Int)) : (execOp ρ ⟨d, .indexAddr 38 (.tmp x) (.tmp y), ty, pos, af, g⟩).run Tryz.prog w = .ok (.value (.pointer (some ⟨R, p * 11, none⟩))) w := by
  have h0 : (0 : Int) ≤ (p : Int) := by omega
  go_simp
theorem run_loadF11 {x : Tmp} {R o : Nat} {nm sh tx vl : ByteArray} {k n : Int} {on : Bool} (h : ρ (.tmp x) = .pointer (some ⟨R, o, none⟩))
    (b0 : w.cell? ⟨R, o, none⟩ = some (.string nm)) (b1 : w.cell? ⟨R, o + 1, none⟩ = some (.string sh)) (b2 : w.cell? ⟨R, o + 2, none⟩ = some (.int .i64 k)) (b3 : w.cell? ⟨R, o + 3, none⟩ = some (.bool on)) (b4 : w.cell? ⟨R, o + 4, none⟩ = some (.int .i64 n)) (b5 : w.cell? ⟨R, o + 5, none⟩ = some (.string tx))
    (b6 : w.cell? ⟨R, o + 6, none⟩ = some (.string nm)) (b7 : w.cell? ⟨R, o + 7, none⟩ = some (.string vl)) (b8 : w.cell? ⟨R, o + 8, none⟩ = some (.bool false)) (b9 : w.cell? ⟨R, o + 9, none⟩ = some (.bool false)) (b10 : w.cell? ⟨R, o + 10, none⟩ = some (.bool false)) :
    (execOp ρ ⟨d, .load 62 (.tmp x), ty, pos, af, g⟩).run Tryz.prog w = .ok (.value (.agg #[.string nm, .string sh, .int .i64 k, .bool on, .int .i64 n, .string tx, .string nm, .string vl, .bool false, .bool false, .bool false])) w := by
  go_simp
theorem run_notB {x : Tmp} {b : Bool} (h : ρ (.tmp x) = .bool b) : (execOp ρ ⟨d, .unOp .not 4 (.tmp x), ty, pos, af, g⟩).run Tryz.prog w = .ok (.value (.bool !b)) w := by
  go_simp
theorem run_pickB {x y : Tmp} {b : Bool} (h : ρ (.tmp x) = .bool true) (h' : ρ (.tmp y) = .bool b) : (execOp ρ ⟨d, .pick (.tmp x) (.tmp y) (.const (.bool false)), ty, pos, af, g⟩).run Tryz.prog w = .ok (.value (.bool b)) w := by
  simp [execOp, go_sem, h, h']
theorem run_pickF {x y : Tmp} (h : ρ (.tmp x) = .bool false) (h0 : ρ (.const (.bool false)) = .bool false) : (execOp ρ ⟨d, .pick (.tmp x) (.tmp y) (.const (.bool false)), ty, pos, af, g⟩).run Tryz.prog w = .ok (.value (.bool false)) w := by
  simp [execOp, go_sem, h, h0]
end
def regD : List Nat := [25, 26, 27, 28, 29, 30, 31, 32, 33, 34, 35, 36, 37, 38, 39, 40, 41, 42]
/-- The other set, and its flags, as the region reads them. -/
structure OtherS (o R c : Nat) (m : List DefD) (w : World) : Prop where
  ho : w.heap[o]? = some (.cells (setC (.slice (some ⟨R, 0, none⟩) m.length c) false (.slice none 0 0)) 41 (0, 0))
  row : w.ownsRow 0 62 11 (.slice (some ⟨R, 0, none⟩) m.length c) m.length (flatF (m.map firstF))
theorem OtherS.nset {o R c : Nat} {m : List DefD} {w : World} (h : OtherS o R c m w) : NSet { w with heap := #[] } o (.slice (some ⟨R, 0, none⟩) m.length c) false (.slice none 0 0) (m.map firstF) w :=
  ⟨⟨rfl, rfl, rfl, Nat.zero_le _, fun b hb => absurd hb (Nat.not_lt_zero _)⟩, h.ho, by rw [List.length_map]; exact h.row, Nat.zero_le _⟩
theorem OtherS.keep {o R c : Nat} {m : List DefD} {w w' : World} (h : OtherS o R c m w) (h1 : w'.heap[o]? = w.heap[o]?) (h2 : w'.heap[R]? = w.heap[R]?) : OtherS o R c m w' :=
  ⟨h1.trans h.ho, ownsRow_at h.row fun g e => by rw [own_some] at e; cases e; exact h2⟩
/-- What holds in the region: Wa of the world ahead of Add, Wb behind it. -/
structure RegI (Wa Wb : World → Prop) (V : Nat → Value) (L : Nat → Bool) (f : Nat → Value) (w : World) : Prop where
  wa : L 15 = false → Wa w
  wb : L 15 = true → Wb w
  c3 : L 3 = true → L 2 = true
  c4 : L 4 = true → L 2 = true
  c5 : L 5 = true → L 2 = true
  c15 : L 15 = true → L 2 = true
  v : ∀ i, i < 18 → L i = true → f (25 + i) = V i
theorem RegI.step {Wa Wb : World → Prop} {V : Nat → Value} {L : Nat → Bool} {f : Nat → Value} {w : World} (h : RegI Wa Wb V L f w) {i d : Nat} (hi : i < 18) (hd : d = 25 + i) {v : Value} (hv : V i = v) (h15 : i ≠ 15) (h2 : i = 3 ∨ i = 4 ∨ i = 5 → L 2 = true) : RegI Wa Wb V (fun k => k == i || L k) (upd f d v) w := by
  have k2 : L 2 = true → ((2 == i) || L 2) = true := fun h => by rw [h, Bool.or_true]
  refine ⟨fun hl => h.wa (by rw [or_ne (Ne.symm h15)] at hl; exact hl), fun hl => h.wb (by rw [or_ne (Ne.symm h15)] at hl; exact hl), fun hl => k2 ?_, fun hl => k2 ?_, fun hl => k2 ?_, fun hl => k2 (h.c15 (by rw [or_ne (Ne.symm h15)] at hl; exact hl)), fun j hj hl => ?_⟩
  · by_cases e : i = 3
    · exact h2 (.inl e)
    · rw [or_ne (Ne.symm e)] at hl; exact h.c3 hl
  · by_cases e : i = 4
    · exact h2 (.inr (.inl e))
    · rw [or_ne (Ne.symm e)] at hl; exact h.c4 hl
  · by_cases e : i = 5
    · exact h2 (.inr (.inr e))
    · rw [or_ne (Ne.symm e)] at hl; exact h.c5 hl
  · subst hd
    by_cases q : j = i
    · subst q
      rw [upd_same, hv]
    · rw [upd_ne _ _ (by omega)]
      rw [or_ne q] at hl
      exact h.v j hj hl
theorem RegI.add {Wa Wb : World → Prop} {V : Nat → Value} {L : Nat → Bool} {f : Nat → Value} {w w' : World} (h : RegI Wa Wb V L f w) {v : Value} (hv : V 15 = v) (h5 : L 5 = true) (hb : Wb w') : RegI Wa Wb V (fun k => k == 15 || L k) (upd f 40 v) w' := by
  have h2 := h.c5 h5
  refine ⟨fun hl => by simp at hl, fun _ => hb, fun _ => by simp [h2], fun _ => by simp [h2], fun _ => by simp [h2], fun _ => by simp [h2], fun j hj hl => ?_⟩
  by_cases q : j = 15
  · subst q
    rw [show 25 + 15 = 40 from rfl, upd_same, hv]
  · rw [upd_ne _ _ (by omega)]
    rw [or_ne q] at hl
    exact h.v j hj hl
end Go.Proofs.YtmmkebdaijmpiaaGreat
