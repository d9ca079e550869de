/- laws.nameNote of equal notes; what a drawn region of the law reads. -/
import Derived.Test.YtmmkebdaijmpiaaGreatJRows
namespace Go.Proofs.YtmmkebdaijmpiaaGreat
open Go.RowKit
set_option linter.unusedVariables false
set_option linter.unusedSimpArgs false

/-- A note of this law's kinds. -/
def noteG (p : Bool) (a b d : ByteArray) : Array Value := #[.bool p, .bool false, .bool false, .bool false, .string a, .string b, .string d, .int .i64 0, .slice none 0 0]
theorem notesOf_form (J : List DefD) (names : List ByteArray) : ∀ t ∈ notesOf J names, ∃ p a b d, t = noteG p a b d := by
  intro t ht
  rcases List.mem_cons.1 ht with rfl | ht
  · exact ⟨false, ⟨#[]⟩, ⟨#[]⟩, ⟨#[]⟩, rfl⟩
  · obtain ⟨nm, _, rfl⟩ := List.mem_map.1 ht; exact ⟨true, _, _, _, rfl⟩
set_option maxRecDepth 100000 in
set_option maxHeartbeats 1600000 in
theorem nameNote_any (p : Bool) (a b d : ByteArray) (w : World) :
    Calls Tryz.prog 15 #[.agg (noteG p a b d), .agg (noteG p a b d)] w fun e w' => e = .returned (.bool true) ∧ Below w.heap.size w w' := by
  have C := Lib.hid (fun W => nameSame_any (.slice none 0 0) (.slice none 0 0) [] W (Strs.nil W none 0) (Strs.nil W none 0) (by simp))
  have qa : (a.toList == a.toList) = true := by simp
  have qb : (b.toList == b.toList) = true := by simp
  have qd : (d.toList == d.toList) = true := by simp
  have HB : Hid (Below w.heap.size w ((w.alloc (.cells (noteG p a b d) 32)).alloc (.cells (noteG p a b d) 32))) := Lib.hid (((Below.refl _ _).alloc (Nat.le_refl _) _).alloc (by simp only [World.size_alloc]; omega) _)
  unfold noteG at *
  cases p
  all_goals
    go_enter Tryz.func15, Tryz.ntmps15
    go_wp2_with fail
    refine (C.out _).mono ?_
    rintro e w1 ⟨rfl, hd⟩
    have HD := Lib.hid hd.below
    clear hd
    go_wp2_with fail
    go_ret
    exact ⟨rfl, HB.out.trans (HD.out.mono HB.out.size)⟩
section
variable {ρ : Operand → Value} {d : Option Tmp} {ty : TypeId} {pos : String} {af : Array Edge} {g : Option (Nat × Bool)} {w : World}
theorem run_idxN {x y : Tmp} {R n c p : Nat} (h : ρ (.tmp x) = .slice (some ⟨R, 0, none⟩) n c) (h' : ρ (.tmp y) = .int .i64 (p : Int)) (hp : (p : Int) < (n : Int)) : (execOp ρ ⟨d, .indexAddr 47 (.tmp x) (.tmp y), ty, pos, af, g⟩).run Tryz.prog w = .ok (.value (.pointer (some ⟨R, p * 9, none⟩))) w := by
  have h0 : (0 : Int) ≤ (p : Int) := by omega
  go_simp
theorem run_loadN {x : Tmp} {R o : Nat} {p : Bool} {a b e : ByteArray} (h : ρ (.tmp x) = .pointer (some ⟨R, o, none⟩)) (hc : ∀ j v, j < 9 → (noteG p a b e)[j]? = some v → w.cell? ⟨R, o + j, none⟩ = some v) :
    (execOp ρ ⟨d, .load 32 (.tmp x), ty, pos, af, g⟩).run Tryz.prog w = .ok (.value (.agg (noteG p a b e))) w := by
  have b0 := hc 0 (.bool p) (by omega) rfl
  have b1 := hc 1 (.bool false) (by omega) rfl
  have b2 := hc 2 (.bool false) (by omega) rfl
  have b3 := hc 3 (.bool false) (by omega) rfl
  have b4 := hc 4 (.string a) (by omega) rfl
  have b5 := hc 5 (.string b) (by omega) rfl
  have b6 := hc 6 (.string e) (by omega) rfl
  have b7 := hc 7 (.int .i64 0) (by omega) rfl
  have b8 := hc 8 (.slice none 0 0) (by omega) rfl
  rw [Nat.add_zero] at b0
  clear hc
  unfold noteG
  go_simp
end
/-- What holds in a region that only reads, of which each operation's value is known. -/
structure FixB (n s : Nat) (w0 : World) (V : Nat → Value) (L : Nat → Bool) (f : Nat → Value) (w : World) : Prop where
  bel : Below w0.heap.size w0 w
  v : ∀ i, i < n → L i = true → f (s + i) = V i
theorem FixB.step {n s : Nat} {w0 : World} {V : Nat → Value} {L : Nat → Bool} {f : Nat → Value} {w w' : World} (h : FixB n s w0 V L f w) {i d : Nat} (hi : i < n) (hd : d = s + i) {v : Value} (hv : V i = v) (hb : Below w.heap.size w w') : FixB n s w0 V (fun k => k == i || L k) (upd f d v) w' := by
  refine ⟨h.bel.trans (hb.mono h.bel.size), fun j hj hl => ?_⟩
  subst hd
  by_cases q : j = i
  · subst q
    rw [upd_same, hv]
  · rw [upd_ne _ _ (by omega)]
    rw [or_ne q] at hl
    exact h.v j hj hl
end Go.Proofs.YtmmkebdaijmpiaaGreat
