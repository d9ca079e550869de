/- The walk of the reference's Same; sizes of a run. -/
import Derived.Test.YtcpjdgbnfjdakaaSame
import Derived.Test.YtcpjdgbnfjdakaaArgLaw
namespace Go.Proofs.Ytcpjdgbnfjdakaa
open Go.RowKit
set_option linter.unusedVariables false
set_option linter.unusedSimpArgs false

theorem len_bytesOf (l : List ByteArray) : l.length ≤ bytesOf l := by
  induction l with
  | nil => simp [bytesOf]
  | cons x l ih => rw [bytesOf_cons, List.length_cons]; omega

theorem run_sizes (s : SetD) (way : Way) (l : List ByteArray) (h : bytesOf l ≤ 1048576) : (goesF s way l begin0).given.length ≤ 1099511627776 ∧ (goesF s way l begin0).args.length ≤ 1099511627776 := by
  have q1 : (goesF s way l begin0).given.length ≤ begin0.given.length + bytesOf l := goesN_given s way l.length l begin0
  have q2 : (goesF s way l begin0).args.length ≤ begin0.args.length + l.length := goes_args s way l.length l begin0
  have q3 := len_bytesOf l
  simp only [begin0, List.length_nil] at q1 q2 ⊢
  exact ⟨by omega, by omega⟩

theorem Drawn.below {w w' : World} (h : Drawn w w') : Below w.heap.size w w' := by
  obtain ⟨n, rfl⟩ := h
  exact Below.drewN' (Below.refl _ _)

set_option maxRecDepth 100000 in
set_option maxHeartbeats 1600000 in
theorem same_any (x : ErrD) (d : Int) (p : Bool) (g : List (Nat × ByteArray)) (a : List ByteArray) (c : List Nat) {ga gb aa ab ca cb : Value} {w : World} (hga : Givens w ga g) (hgb : Givens w gb g) (haa : Texts w aa a) (hab : Texts w ab a) (hca : Ints w ca c) (hcb : Ints w cb c)
    (lg : g.length ≤ 1099511627776) (la : a.length ≤ 1099511627776) (lc : c.length ≤ 1099511627776) :
    Calls Try.prog 19 #[.agg #[.int .i64 x.kind, .string x.name, .string x.shorts, .string x.value, .int .i64 x.place, ga, aa, .int .i64 d, ca, .bool p, .bool false], .agg #[.int .i64 x.kind, .string x.name, .string x.shorts, .string x.value, .int .i64 x.place, gb, ab, .int .i64 d, cb, .bool p, .bool false]] w fun e w' => e = .returned (.bool true) ∧ Below w.heap.size w w' := by
  obtain ⟨g1, g2, rfl, -⟩ := hga.len
  obtain ⟨g3, g4, rfl, -⟩ := hgb.len
  obtain ⟨a1, a2, rfl, -⟩ := haa.len
  obtain ⟨a3, a4, rfl, -⟩ := hab.len
  obtain ⟨c1, c2, rfl⟩ := hca.len
  obtain ⟨c3, c4, rfl⟩ := hcb.len
  generalize x.kind = kd
  generalize x.name = nm
  generalize x.shorts = sh
  generalize x.value = vl
  generalize x.place = pl
  have key : ∀ w', Below w.heap.size w w' → Calls Try.prog 35 #[.slice g1 g.length g2, .slice g3 g.length g4] w' (fun e w2 => e = .returned (.bool true) ∧ Drawn w' w2) ∧ Calls Try.prog 28 #[.slice a1 a.length a2, .slice a3 a.length a4] w' (fun e w2 => e = .returned (.bool true) ∧ Drawn w' w2) ∧ Calls Try.prog 30 #[.slice c1 c.length c2, .slice c3 c.length c4] w' (fun e w2 => e = .returned (.bool true) ∧ Drawn w' w2) := fun w' hb => by
    have q1 := sameGiven_any _ _ g g w' (hga.later hb.block) (hgb.later hb.block) lg lg
    have q2 := sameTexts_any _ _ a a w' (haa.strs.later hb.block) (hab.strs.later hb.block) la la
    have q3 := sameInts_any _ _ c c w' (hca.later hb.block) (hcb.later hb.block) lc lc
    simp only [decide_true] at q1 q2 q3
    exact ⟨q1, q2, q3⟩
  have HK := Lib.hid key
  clear key hga hgb haa hab hca hcb
  obtain ⟨w2, hw2⟩ : ∃ w2, (w.alloc (.cells #[.int .i64 kd, .string nm, .string sh, .string vl, .int .i64 pl, .slice g1 g.length g2, .slice a1 a.length a2, .int .i64 d, .slice c1 c.length c2, .bool p, .bool false] 33)).alloc (.cells #[.int .i64 kd, .string nm, .string sh, .string vl, .int .i64 pl, .slice g3 g.length g4, .slice a3 a.length a4, .int .i64 d, .slice c3 c.length c4, .bool p, .bool false] 33) = w2 := ⟨_, rfl⟩
  have hb2 : Below w.heap.size w w2 := by rw [← hw2]; exact ((Below.refl _ _).alloc (Nat.le_refl _) _).alloc (by simp) _
  have hX : w2.heap[w.heap.size]? = some (.cells #[.int .i64 kd, .string nm, .string sh, .string vl, .int .i64 pl, .slice g1 g.length g2, .slice a1 a.length a2, .int .i64 d, .slice c1 c.length c2, .bool p, .bool false] 33 (0, 0)) := by rw [← hw2]; exact heap_past' (by simp) (heap_at _ _ _ rfl)
  have hY : w2.heap[w.heap.size + 1]? = some (.cells #[.int .i64 kd, .string nm, .string sh, .string vl, .int .i64 pl, .slice g3 g.length g4, .slice a3 a.length a4, .int .i64 d, .slice c3 c.length c4, .bool p, .bool false] 33 (0, 0)) := by rw [← hw2]; exact heap_at _ _ _ (by simp)
  have x0 := cell_of hX 0 (.int .i64 kd) rfl
  have x1 := cell_of hX 1 (.string nm) rfl
  have x2 := cell_of hX 2 (.string sh) rfl
  have x3 := cell_of hX 3 (.string vl) rfl
  have x4 := cell_of hX 4 (.int .i64 pl) rfl
  have x5 := cell_of hX 5 (.slice g1 g.length g2) rfl
  have x6 := cell_of hX 6 (.slice a1 a.length a2) rfl
  have x7 := cell_of hX 7 (.int .i64 d) rfl
  have x8 := cell_of hX 8 (.slice c1 c.length c2) rfl
  have x9 := cell_of hX 9 (.bool p) rfl
  have x10 := cell_of hX 10 (.bool false) rfl
  have y0 := cell_of hY 0 (.int .i64 kd) rfl
  have y1 := cell_of hY 1 (.string nm) rfl
  have y2 := cell_of hY 2 (.string sh) rfl
  have y3 := cell_of hY 3 (.string vl) rfl
  have y4 := cell_of hY 4 (.int .i64 pl) rfl
  have y5 := cell_of hY 5 (.slice g3 g.length g4) rfl
  have y6 := cell_of hY 6 (.slice a3 a.length a4) rfl
  have y7 := cell_of hY 7 (.int .i64 d) rfl
  have y8 := cell_of hY 8 (.slice c3 c.length c4) rfl
  have y9 := cell_of hY 9 (.bool p) rfl
  have y10 := cell_of hY 10 (.bool false) rfl
  have HX := Lib.hid hX
  have HY := Lib.hid hY
  have HB2 := Lib.hid hb2
  clear hX hY hb2
  go_enter Try.func19, Try.ntmps19
  go_wp2_with fail
  refine (HK.out _ HB2.out).1.mono ?_
  rintro e w3 ⟨rfl, ⟨n1, rfl⟩⟩
  go_wp2_with fail
  refine (HK.out _ (Below.drewN' HB2.out)).2.1.mono ?_
  rintro e w3 ⟨rfl, ⟨n2, rfl⟩⟩
  go_wp2_with fail
  refine (HK.out _ (Below.drewN' (n := n1 + n2) HB2.out)).2.2.mono ?_
  rintro e w3 ⟨rfl, ⟨n3, rfl⟩⟩
  go_wp2_with fail
  go_ret
  exact ⟨rfl, Below.drewN' HB2.out⟩
end Go.Proofs.Ytcpjdgbnfjdakaa
