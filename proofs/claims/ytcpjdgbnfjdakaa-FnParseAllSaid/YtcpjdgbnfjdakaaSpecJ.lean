/- The walk of the reference's ParseAll. -/
import Derived.Test.YtcpjdgbnfjdakaaSpecI
namespace Go.Proofs.Ytcpjdgbnfjdakaa
open Go.RowKit
set_option linter.unusedVariables false
set_option linter.unusedSimpArgs false

set_option maxRecDepth 100000 in
set_option maxHeartbeats 400000 in
theorem specParseAll_any (fv badV : Value) (plain unk : Bool) (fold : Int) (s : SetD) (w : World) (hv : FlagRows w fv s.flags) (hp : s.plain = plain) (hu : s.unknown = unk) (hlo : s.lo = (bits .and .i64 fold 1 == 1)) (hda : s.da = (bits .and .i64 fold 2 == 2)) (hfs : SmallFs s.flags)
    (v : Value) (l : List ByteArray) (ht : Texts w v l) (hs : ∀ t ∈ l, t.size ≤ 2147483647) (hl : l.length ≤ 2147483647) (hg : bytesOf l ≤ 1099511627776) (bad : List ByteArray) (hbad : Strs w badV bad) (hbl : bad.length ≤ 2147483647) :
    Calls Try.prog 23 #[.agg #[fv, .bool plain, .bool unk, .int .i64 fold], v, badV] w fun e w' => HeardIs e w' (goesF s (.hands bad) l begin0) [] ∧ Below w.heap.size w w' := by
  obtain ⟨a, cap, rfl⟩ := hv.len
  obtain ⟨w1, hw1⟩ : ∃ w1, ((w.alloc (.cells #[.slice a s.flags.length cap, .bool plain, .bool unk, .int .i64 fold] 24)).alloc (.cells #[.int .i64 0, .string ⟨#[]⟩, .string ⟨#[]⟩, .string ⟨#[]⟩, .int .i64 0, .slice none 0 0, .slice none 0 0, .int .i64 0, .slice none 0 0, .bool false, .bool false] 33)) = w1 := ⟨_, rfl⟩
  have hb1 : Below w.heap.size w w1 := by rw [← hw1]; exact ((Below.refl _ _).alloc (Nat.le_refl _) _).alloc (by simp) _
  have hX : w1.heap[w.heap.size]? = some (.cells #[.slice a s.flags.length cap, .bool plain, .bool unk, .int .i64 fold] 24 (0, 0)) := by rw [← hw1]; exact heap_past' (by simp) (heap_at _ _ _ rfl)
  have hR : w1.heap[w.heap.size + 1]? = some (.cells #[.int .i64 0, .string ⟨#[]⟩, .string ⟨#[]⟩, .string ⟨#[]⟩, .int .i64 0, .slice none 0 0, .slice none 0 0, .int .i64 0, .slice none 0 0, .bool false, .bool false] 33 (0, 0)) := by rw [← hw1]; exact heap_at _ _ _ (by simp)
  have hs1 : w1.heap.size = w.heap.size + 2 := by rw [← hw1]; simp
  have c0 : w1.cell? ⟨w.heap.size, 0, none⟩ = some (.slice a s.flags.length cap) := by simp [World.cell?, hX]
  have c1 : w1.cell? ⟨w.heap.size, 1, none⟩ = some (.bool plain) := by simp [World.cell?, hX]
  have c2 : w1.cell? ⟨w.heap.size, 2, none⟩ = some (.bool unk) := by simp [World.cell?, hX]
  have c3 : w1.cell? ⟨w.heap.size, 3, none⟩ = some (.int .i64 fold) := by simp [World.cell?, hX]
  have HV := Lib.hid hv
  have HT := Lib.hid ht
  have HS := Lib.hid hs
  have HB1 := Lib.hid hb1
  have HBAD := Lib.hid hbad
  obtain ⟨bva, bvc, rfl⟩ := hbad.len
  clear hbad
  have HS1 := Lib.hid hs1
  clear hv ht hs hb1 hs1
  go_enter Try.func23, Try.ntmps23
  go_wp2_with fail
  refine (begin_any _ plain unk fold _).mono ?_
  rintro e w2 ⟨rfl, K, B, i2⟩
  have hk1 := B.bel
  have hbX : ∀ b, b < w.heap.size → K.w0.heap[b]? = w.heap[b]? := fun b hb => (hk1.block b (Nat.lt_of_lt_of_le hb HB1.out.size)).trans (HB1.out.block b hb)
  have ok : SOk { K with all := true, badV := .slice bva bad.length bvc } s (.hands bad) := by
    refine ⟨?_, ?_, ?_, ?_, ?_, hfs.1, fun f hf => ?_, .inr ⟨bad, rfl, rfl, HBAD.out.later hbX, hbl⟩⟩
    · show FlagRows K.w0 K.fv s.flags; rw [B.fv]; exact HV.out.later hbX
    · show s.plain = K.plain; rw [B.plain]; exact hp
    · show s.unknown = K.unk; rw [B.unk]; exact hu
    · show s.lo = (bits .and .i64 K.fold 1 == 1); rw [B.fold]; exact hlo
    · show s.da = (bits .and .i64 K.fold 2 == 2); rw [B.fold]; exact hda
    · have q := hfs.2 f hf; exact ⟨q.1, q.2.1, q.2.2.1, q.2.2.2.1⟩
  have htK : Texts K.w0 v l := HT.out.later hbX
  have c15 := i2.cell 15 (.bool K.all) rfl
  have c16 := i2.cell 16 K.badV rfl
  have f15 := i2.free 15
  have f16 := i2.free 16
  rw [B.all] at c15
  rw [B.bad] at c16
  have i2b := ((i2.sc.put 15 (.bool true)).put 16 (.slice bva bad.length bvc)).done (K' := { K with all := true, badV := .slice bva bad.length bvc }) (r' := begin0) rfl rfl rfl rfl rfl
  have C := Lib.hid (goesS_any ok ⟨_, _, i2b⟩ v l htK HS.out hl (by simpa [begin0] using hg) (by simp only [begin0, List.length_nil]; omega))
  rw [show ({ K with all := true, badV := .slice bva bad.length bvc } : SSt).X = K.X from rfl] at C
  rw [B.X] at C c15 c16 f15 f16
  clear hw1
  go_wp2_with fail
  refine C.out.mono ?_
  rintro e w3 ⟨rfl, gv, av, i3⟩
  obtain ⟨r, hr⟩ : ∃ r, goesF s (.hands bad) l begin0 = r := ⟨_, rfl⟩
  rw [hr] at i3
  have HRR := Lib.hid hr
  clear hr C
  obtain ⟨gva, gvc, rfl⟩ := row_form i3.rG
  obtain ⟨ava, avc, rfl⟩ := row_form i3.rA
  have HRb := Lib.hid (fun b (hb : b < w1.heap.size) => hk1.block b hb)
  have hX2 : w1.heap.size + 1 = K.X := B.X.symm
  obtain ⟨K2, hK2⟩ : ∃ K2 : SSt, ({ K with X := w1.heap.size + 1, parsed := true, all := true, badV := .slice bva bad.length bvc } : SSt) = K2 := ⟨_, rfl⟩
  have hKX : K2.X = w1.heap.size + 1 := by rw [← hK2]
  have hK0 : K2.w0 = K.w0 := by rw [← hK2]
  have hKp : K2.parsed = true := by rw [← hK2]
  rw [hK2] at i3
  have g4 := i3.cell 4 (.int .i64 r.err.kind) rfl
  have g5 := i3.cell 5 (.string r.err.name) rfl
  have g6 := i3.cell 6 (.string r.err.shorts) rfl
  have g7 := i3.cell 7 (.string r.err.value) rfl
  have g8 := i3.cell 8 (.int .i64 r.err.place) rfl
  have g9 := i3.cell 9 (.slice gva r.given.length gvc) rfl
  have g10 := i3.cell 10 (.slice ava r.args.length avc) rfl
  have g11 := i3.cell 11 (.int .i64 r.dash) rfl
  have g12 := i3.cell 12 (.slice none 0 0) rfl
  have g13 := i3.cell 13 (.bool K2.parsed) rfl
  have g14 := i3.cell 14 (.bool false) rfl
  rw [hKX] at g4 g5 g6 g7 g8 g9 g10 g11 g12 g13 g14
  rw [hKp] at g13
  have hbel3 := i3.bel
  rw [SSt.base, hK0] at hbel3
  have hR3 := (hbel3.block _ (Nat.lt_of_lt_of_le (lt_of_block hR) hk1.size)).trans ((HRb.out _ (lt_of_block hR)).trans hR)
  have x0 := cell_of hR3 0 (.int .i64 0) rfl
  have x1 := cell_of hR3 1 (.string ⟨#[]⟩) rfl
  have x2 := cell_of hR3 2 (.string ⟨#[]⟩) rfl
  have x3 := cell_of hR3 3 (.string ⟨#[]⟩) rfl
  have x4 := cell_of hR3 4 (.int .i64 0) rfl
  have x5 := cell_of hR3 5 (.slice none 0 0) rfl
  have x6 := cell_of hR3 6 (.slice none 0 0) rfl
  have x7 := cell_of hR3 7 (.int .i64 0) rfl
  have x8 := cell_of hR3 8 (.slice none 0 0) rfl
  have x9 := cell_of hR3 9 (.bool false) rfl
  have x10 := cell_of hR3 10 (.bool false) rfl
  have xf : ∀ i, w3.frozen? ⟨w.heap.size + 1, i, none⟩ = false := fun i => by simp [World.frozen?, hR3]
  obtain ⟨hZ, hW, hBW⟩ := put11 hR3 (.int .i64 r.err.kind) (.string r.err.name) (.string r.err.shorts) (.string r.err.value) (.int .i64 r.err.place) (.slice gva r.given.length gvc) (.slice ava r.args.length avc) (.int .i64 r.dash) (.slice none 0 0) (.bool true) (.bool false)
  have hs1 := HS1.out
  have hBWW : Below w.heap.size w w3 := (HB1.out.trans (hk1.mono HB1.out.size)).trans (hbel3.mono (Nat.le_trans HB1.out.size hk1.size))
  have hbase : w.heap.size + 1 < K2.base := by
    rw [SSt.base, hK0]
    have := hk1.size
    omega
  have iG := i3.rG
  have iA := i3.rA
  have HZ := Lib.hid hZ
  have HW := Lib.hid hW
  have HF := Lib.hid (hBWW.trans (hBW w.heap.size (by omega)))
  have HBASE := Lib.hid hbase
  have IG := Lib.hid iG
  have IA := Lib.hid iA
  clear iG iA i3 hK0 hKX hKp hX2 htK hk1 hbX
  clear hZ hW hBW hBWW hbase hs1 c0 c1 c2 c3 c15 c16 f15 f16 hX hR hR3 hbel3 i2 i2b ok B hK2
  go_wp2_with fail
  refine bodyPost_ret (v := .agg (hCells r.err r.dash true (.slice gva r.given.length gvc) (.slice ava r.args.length avc) (.slice none 0 0))) ?_ rfl ⟨?_, HF.out⟩
  · rw [results_cell_one rfl]
    have q := load_heard HZ.out
    simp only [Array.getD_eq_getD_getElem?]
    simp [asAddr, Result.andThen, q, hCells]
  · rw [HRR.out]
    refine ⟨_, _, _, rfl, Givens.ofRow (ownsRow_at IG.out fun b hb => HW.out b ?_), Texts.ofRow (ownsRow_at IA.out fun b hb => HW.out b ?_), none, 0, rfl, .inl rfl⟩
    · have := (ownsRow_cells IG.out hb).1; have := HBASE.out; omega
    · have := (ownsRow_cells IA.out hb).1; have := HBASE.out; omega
end Go.Proofs.Ytcpjdgbnfjdakaa
