/- The walks of normalizeFlagName and what it calls. -/
import Derived.Test.YtcpjdgbnfjdakaaNorm
namespace Go.Proofs.Ytcpjdgbnfjdakaa
open Go.RowKit
set_option linter.unusedVariables false
set_option linter.unusedSimpArgs false

theorem foldG_none (s : ByteArray) : foldG false false s = s := by
  have h : foldB false false = id := funext fun b => rfl
  unfold foldG
  rw [h, List.map_id]

theorem Inv.cellF {D : St} {w : World} (h : Inv D w) (i : Nat) (v : Value) (hi : (fsCells D)[i]? = some v) : w.cell? ⟨D.F, i, none⟩ = some v := by
  simp [World.cell?, h.hF, hi]
theorem Inv.freeF {D : St} {w : World} (h : Inv D w) (i : Nat) : w.frozen? ⟨D.F, i, none⟩ = false := by
  simp [World.frozen?, h.hF]

/-- How names are translated: by the function that the set holds. -/
def NormIs (D : St) (lo da : Bool) : Prop :=
  (D.norm = .nilFunc ∧ lo = false ∧ da = false) ∨ ∃ bs fold cs, D.norm = .func (.func 79) #[] #[ptr bs] ∧ D.w0.heap[bs]? = some (.cells cs 24 (0, 0)) ∧ cs[3]? = some (.int .i64 fold) ∧ lo = (fold == 1 || fold == 3) ∧ da = (fold == 2 || fold == 3)

theorem getNorm_nil (F : Nat) (w : World) (hc : w.cell? ⟨F, 16, none⟩ = some .nilFunc) :
    Calls Try.prog 111 #[ptr F] w fun e w' => e = .returned (.func (.func 122) #[] #[]) ∧ w' = w := by
  have hrun : Sem.run Try.prog (binOp BinOp.neq 119 Value.nilFunc Value.nilFunc) w = .ok (.bool false) w := by kernel_rfl
  go_enter Try.func111, Try.ntmps111
  go_wp2_with fail
  go_ret
  exact ⟨rfl, rfl⟩

theorem getNorm_func (F : Nat) (w : World) (fn : Fn) (a c : Array Value) (hc : w.cell? ⟨F, 16, none⟩ = some (.func fn a c)) :
    Calls Try.prog 111 #[ptr F] w fun e w' => e = .returned (.func fn a c) ∧ w' = w := by
  have hrun : Sem.run Try.prog (binOp BinOp.neq 119 (.func fn a c) Value.nilFunc) w = .ok (.bool true) w := by kernel_rfl
  go_enter Try.func111, Try.ntmps111
  go_wp2_with fail
  go_ret
  exact ⟨rfl, rfl⟩

theorem madeNorm_any (F bs : Nat) (fold : Int) (s : ByteArray) (w : World) (hs : s.size ≤ 4294967295) (hc : w.cell? ⟨bs, 3, none⟩ = some (.int .i64 fold)) :
    Calls Try.prog 79 #[ptr F, .string s, ptr bs] w fun e w' => e = .returned (.string (foldG (fold == 1 || fold == 3) (fold == 2 || fold == 3) s)) ∧ Below w.heap.size w w' := by
  go_enter Try.func79, Try.ntmps79
  go_wp2_with fail
  refine (folded_any fold s w hs).mono ?_
  rintro e w1 ⟨rfl, hb⟩
  go_wp2_with fail
  go_ret
  exact ⟨rfl, hb⟩

theorem sameNorm_any (F : Value) (s : ByteArray) (w : World) :
    Calls Try.prog 122 #[F, .string s] w fun e w' => e = .returned (.string s) ∧ w' = w := by
  go_enter Try.func122, Try.ntmps122
  go_wp2_with fail
  go_ret
  exact ⟨rfl, rfl⟩

theorem normalize_any {D : St} {w : World} {lo da : Bool} (h : Inv D w) (hn : NormIs D lo da) (n : ByteArray) (hs : n.size ≤ 4294967295) :
    Calls Try.prog 102 #[ptr D.F, .string n] w fun e w' => e = .returned (.string (foldG lo da n)) ∧ Below w.heap.size w w' := by
  have hc := h.cellF 16 D.norm rfl
  rcases hn with ⟨e, rfl, rfl⟩ | ⟨bs, fold, cs, e, hb, h3, rfl, rfl⟩
  · rw [e] at hc
    go_enter Try.func102, Try.ntmps102
    go_wp2_with fail
    refine (getNorm_nil D.F _ hc).mono ?_
    rintro e w1 ⟨rfl, rfl⟩
    go_wp2_with fail
    refine (sameNorm_any _ n _).mono ?_
    rintro e w1 ⟨rfl, rfl⟩
    go_wp2_with fail
    go_ret
    exact ⟨by rw [foldG_none]; rfl, Below.refl _ _⟩
  · rw [e] at hc
    have hcs : w.cell? ⟨bs, 3, none⟩ = some (.int .i64 fold) := by
      have := (h.bel.block bs (lt_of_block hb)).trans hb
      simp [World.cell?, this, h3]
    go_enter Try.func102, Try.ntmps102
    go_wp2_with fail
    refine (getNorm_func D.F _ _ _ _ hc).mono ?_
    rintro e w1 ⟨rfl, rfl⟩
    go_wp2_with fail
    refine (madeNorm_any D.F bs fold n _ hs hcs).mono ?_
    rintro e w1 ⟨rfl, hb1⟩
    go_wp2_with fail
    go_ret
    exact ⟨rfl, hb1⟩

end Go.Proofs.Ytcpjdgbnfjdakaa
