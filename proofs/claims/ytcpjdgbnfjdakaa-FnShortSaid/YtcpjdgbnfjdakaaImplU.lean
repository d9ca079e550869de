/- The walk of impl.Short: the door. -/
import Derived.Test.YtcpjdgbnfjdakaaImplT
import Derived.BigRegion
namespace Go.Proofs.Ytcpjdgbnfjdakaa
open Go.RowKit
set_option linter.unusedVariables false
set_option linter.unusedSimpArgs false

theorem results_cell_two {fn : Func} {p u v : Tmp} {ty : TypeId} (h : fn.results = #[.cell p ty, .tmp u, .tmp v]) (tmps : Array Value) (P : Program) (w : World) :
    (results fn tmps).run P w = ((asAddr (tmps.getD p undef)).run P w).andThen fun a w₁ => ((loadVar ty a).run P w₁).andThen fun x w₂ => .ok (.tuple #[x, tmps.getD u undef, tmps.getD v undef]) w₂ := by
  simp only [results, h]
  simp [Sem.run_bind, Result.andThen]

theorem load_heard_drew {w : World} {R : Nat} {ty : TypeId} {fz : Nat × Nat} {v0 v1 v2 v3 v4 v5 v6 v7 v8 v9 v10 : Value} (h : w.heap[R]? = some (.cells #[v0, v1, v2, v3, v4, v5, v6, v7, v8, v9, v10] ty fz)) :
    (loadVar 33 ⟨R, 0, none⟩).run Try.prog w.drew = .ok (.agg #[v0, v1, v2, v3, v4, v5, v6, v7, v8, v9, v10]) w.drew := load_heard (w := w.drew) h
theorem row_drew {w : World} {B : Nat} {e : TypeId} {z n : Nat} {v : Value} {xs : List Value} (h : w.ownsRow B e z v n xs) : w.drew.ownsRow B e z v n xs := h
/-- What came of shorthands, as it is returned. -/
def ShortIs (e : Ending) (w' : World) (o : RunD × ByteArray × List ByteArray) (chg : List Nat) : Prop :=
  ∃ gv av cv lv, e = .returned (.tuple #[.agg (hCells o.1.err o.1.dash false gv av cv), .string o.2.1, lv]) ∧ Givens w' gv o.1.given ∧ Texts w' av o.1.args ∧ Ints w' cv chg ∧ Texts w' lv o.2.2

set_option maxRecDepth 100000 in
set_option maxHeartbeats 3200000 in
theorem implShort_any (fv v : Value) (plain unk : Bool) (fold : Int) (s : SetD) (w : World) (hv : FlagRows w fv s.flags) (hp : s.plain = plain) (hu : s.unknown = unk) (hlo : s.lo = (fold == 1 || fold == 3)) (hda : s.da = (fold == 2 || fold == 3)) (R : RightP s s.flags)
    (t : ByteArray) (ht0 : 0 < t.size) (htz : t.size ≤ 4294967295) (l : List ByteArray) (ht : Texts w v l) (hs : ∀ t ∈ l, t.size ≤ 4294967295) (hl : l.length ≤ 2147483647) :
    Calls Try.prog 24 #[.agg #[fv, .bool plain, .bool unk, .int .i64 fold], .string t, v] w fun e w' => ShortIs e w' (shortF s .sets t l begin0) (chgU (shortF s .sets t l begin0).1.given s.flags.length) ∧ Below w.heap.size w w' := by
  have hmf : ∀ (fn : Fn) (first cap : Array Value) (w : World), (Instr.makeFunc fn first cap).run Try.prog w = .ok (.func fn first cap) w := fun _ _ _ _ => rfl
  obtain ⟨fa, fc, rfl⟩ : ∃ a c, fv = .slice a s.flags.length c := by obtain ⟨a, c, e, _⟩ := hv; exact ⟨a, c, e⟩
  obtain ⟨va, vc, rfl, hvc⟩ := ht.len
  obtain ⟨w4, hw4⟩ : ∃ w4, (((((((w.alloc (.cells #[.slice fa s.flags.length fc, .bool plain, .bool unk, .int .i64 fold] 24)).alloc (.cells #[.string t] 9)).alloc (.cells #[.slice va l.length vc] 25)).alloc (.cells zeroH 33)).alloc (.cells zeroH 33)).alloc (.cells #[.string ⟨#[]⟩] 9)).alloc (.cells #[.slice none 0 0] 25)) = w4 := ⟨_, rfl⟩
  have g0 : w4.heap[w.heap.size]? = some (.cells #[.slice fa s.flags.length fc, .bool plain, .bool unk, .int .i64 fold] 24 (0, 0)) := by rw [← hw4]; (repeat (first | (with_reducible assumption) | ((with_reducible refine heap_past' ?_ ?_); focus ((try simp only [World.size_alloc, size_setCell, World.heap_drewN]); (try omega); done)) | ((with_reducible refine heap_at _ _ _ ?_); focus ((try simp only [World.size_alloc, size_setCell, World.heap_drewN]); (try omega); done)) | ((with_reducible refine heap_ne' ?_ ?_); focus ((try simp only [World.size_alloc, size_setCell, World.heap_drewN]); (try omega); done)) | (with_reducible refine heap_drew' ?_)))
  have g1 : w4.heap[w.heap.size + 1]? = some (.cells #[.string t] 9 (0, 0)) := by rw [← hw4]; (repeat (first | (with_reducible assumption) | ((with_reducible refine heap_past' ?_ ?_); focus ((try simp only [World.size_alloc, size_setCell, World.heap_drewN]); (try omega); done)) | ((with_reducible refine heap_at _ _ _ ?_); focus ((try simp only [World.size_alloc, size_setCell, World.heap_drewN]); (try omega); done)) | ((with_reducible refine heap_ne' ?_ ?_); focus ((try simp only [World.size_alloc, size_setCell, World.heap_drewN]); (try omega); done)) | (with_reducible refine heap_drew' ?_)))
  have g2 : w4.heap[w.heap.size + 1 + 1]? = some (.cells #[.slice va l.length vc] 25 (0, 0)) := by rw [← hw4]; (repeat (first | (with_reducible assumption) | ((with_reducible refine heap_past' ?_ ?_); focus ((try simp only [World.size_alloc, size_setCell, World.heap_drewN]); (try omega); done)) | ((with_reducible refine heap_at _ _ _ ?_); focus ((try simp only [World.size_alloc, size_setCell, World.heap_drewN]); (try omega); done)) | ((with_reducible refine heap_ne' ?_ ?_); focus ((try simp only [World.size_alloc, size_setCell, World.heap_drewN]); (try omega); done)) | (with_reducible refine heap_drew' ?_)))
  have g3 : w4.heap[w.heap.size + 1 + 1 + 1]? = some (.cells zeroH 33 (0, 0)) := by rw [← hw4]; (repeat (first | (with_reducible assumption) | ((with_reducible refine heap_past' ?_ ?_); focus ((try simp only [World.size_alloc, size_setCell, World.heap_drewN]); (try omega); done)) | ((with_reducible refine heap_at _ _ _ ?_); focus ((try simp only [World.size_alloc, size_setCell, World.heap_drewN]); (try omega); done)) | ((with_reducible refine heap_ne' ?_ ?_); focus ((try simp only [World.size_alloc, size_setCell, World.heap_drewN]); (try omega); done)) | (with_reducible refine heap_drew' ?_)))
  have g4 : w4.heap[w.heap.size + 1 + 1 + 1 + 1]? = some (.cells zeroH 33 (0, 0)) := by rw [← hw4]; (repeat (first | (with_reducible assumption) | ((with_reducible refine heap_past' ?_ ?_); focus ((try simp only [World.size_alloc, size_setCell, World.heap_drewN]); (try omega); done)) | ((with_reducible refine heap_at _ _ _ ?_); focus ((try simp only [World.size_alloc, size_setCell, World.heap_drewN]); (try omega); done)) | ((with_reducible refine heap_ne' ?_ ?_); focus ((try simp only [World.size_alloc, size_setCell, World.heap_drewN]); (try omega); done)) | (with_reducible refine heap_drew' ?_)))
  have g5 : w4.heap[w.heap.size + 1 + 1 + 1 + 1 + 1]? = some (.cells #[.string ⟨#[]⟩] 9 (0, 0)) := by rw [← hw4]; (repeat (first | (with_reducible assumption) | ((with_reducible refine heap_past' ?_ ?_); focus ((try simp only [World.size_alloc, size_setCell, World.heap_drewN]); (try omega); done)) | ((with_reducible refine heap_at _ _ _ ?_); focus ((try simp only [World.size_alloc, size_setCell, World.heap_drewN]); (try omega); done)) | ((with_reducible refine heap_ne' ?_ ?_); focus ((try simp only [World.size_alloc, size_setCell, World.heap_drewN]); (try omega); done)) | (with_reducible refine heap_drew' ?_)))
  have g6 : w4.heap[w.heap.size + 1 + 1 + 1 + 1 + 1 + 1]? = some (.cells #[.slice none 0 0] 25 (0, 0)) := by rw [← hw4]; (repeat (first | (with_reducible assumption) | ((with_reducible refine heap_past' ?_ ?_); focus ((try simp only [World.size_alloc, size_setCell, World.heap_drewN]); (try omega); done)) | ((with_reducible refine heap_at _ _ _ ?_); focus ((try simp only [World.size_alloc, size_setCell, World.heap_drewN]); (try omega); done)) | ((with_reducible refine heap_ne' ?_ ?_); focus ((try simp only [World.size_alloc, size_setCell, World.heap_drewN]); (try omega); done)) | (with_reducible refine heap_drew' ?_)))
  have hsz : w4.heap.size = w.heap.size + 1 + 1 + 1 + 1 + 1 + 1 + 1 := by rw [← hw4]; simp only [World.size_alloc]
  have hb4 : Below w.heap.size w w4 := by rw [← hw4]; (repeat (first | (with_reducible exact Below.refl _ _) | (with_reducible assumption) | ((with_reducible refine Below.alloc ?_ ?_ _); rotate_left; focus ((try simp only [World.size_alloc, size_setCell, World.heap_drewN]); (try omega); done)) | ((with_reducible refine Below.setCell ?_ ?_ _); rotate_left; focus ((try simp only [World.size_alloc, size_setCell, World.heap_drewN]); (try omega); done)) | (with_reducible refine Below.drewN' ?_) | (with_reducible refine Below.drew ?_)))
  have hbel6 : Below w4.heap.size w4 (w4.alloc (.cells #[.bool false] 4)) := (Below.refl _ _).alloc (Nat.le_refl _) _
  have k6 : ∀ {b o}, w4.heap[b]? = some o → (w4.alloc (.cells #[.bool false] 4)).heap[b]? = some o := fun h => (hbel6.block _ (lt_of_block h)).trans h
  have hk : ∀ b, b < w.heap.size → (w4.alloc (.cells #[.bool false] 4)).heap[b]? = w.heap[b]? := fun b hb => (hbel6.block b (by omega)).trans (hb4.block b hb)
  have hB : (w4.alloc (.cells #[.bool false] 4)).heap[w4.heap.size]? = some (.cells #[.bool false] 4 (0, 0)) := heap_at _ _ _ rfl
  have hg3 := k6 g3
  have C := short1_any w.heap.size _ _ plain unk fold s (w4.alloc (.cells #[.bool false] 4)) (hv.later hk) hp hu hlo hda R t ht0 htz l (ht.later hk) hs hl (k6 g0) (k6 g1) (k6 g2) (w.heap.size + 1 + 1 + 1 + 1 + 1 + 1) (w.heap.size + 1 + 1 + 1 + 1) (w.heap.size + 1 + 1 + 1 + 1 + 1) (k6 g6) (k6 g4) (k6 g5)
  have G := guarded_ok 60 #[ptr w.heap.size, ptr (w.heap.size + 1), ptr (w.heap.size + 1 + 1), ptr (w.heap.size + 1 + 1 + 1 + 1 + 1 + 1), ptr (w.heap.size + 1 + 1 + 1 + 1), ptr (w.heap.size + 1 + 1 + 1 + 1 + 1)] w4 _ w4.heap.size rfl (fun w => by simp [go_sem]) C
    (fun w' h => (h.1.2.2.2.2 _ (lt_of_block hB) (by omega) (by omega) (by omega)).trans hB)
  obtain ⟨o, ho⟩ : ∃ o, shortF s .sets t l begin0 = o := ⟨_, rfl⟩
  rw [ho] at G ⊢
  generalize chgU o.1.given s.flags.length = ch at *
  have HG := Lib.hid G
  have HB4 := Lib.hid hb4
  have HB6 := Lib.hid hbel6
  have HSZ := Lib.hid hsz
  have HG3 := Lib.hid hg3
  have HW4 := Lib.hid (show (((((((w.alloc (.cells #[.slice fa s.flags.length fc, .bool plain, .bool unk, .int .i64 fold] 24)).alloc (.cells #[.string t] 9)).alloc (.cells #[.slice va l.length vc] 25)).alloc (.cells #[.int .i64 0, .string ⟨#[]⟩, .string ⟨#[]⟩, .string ⟨#[]⟩, .int .i64 0, .slice none 0 0, .slice none 0 0, .int .i64 0, .slice none 0 0, .bool false, .bool false] 33)).alloc (.cells #[.int .i64 0, .string ⟨#[]⟩, .string ⟨#[]⟩, .string ⟨#[]⟩, .int .i64 0, .slice none 0 0, .slice none 0 0, .int .i64 0, .slice none 0 0, .bool false, .bool false] 33)).alloc (.cells #[.string ⟨#[]⟩] 9)).alloc (.cells #[.slice none 0 0] 25)) = w4 from hw4)
  clear C G k6 hk hB g0 g1 g2 g3 g4 g5 g6 hb4 hbel6 hsz hv ht hw4 hg3 ho
  go_enter Try.func24, Try.ntmps24
  go_wp2_with fail
  rw [HW4.out]
  refine HG.out.mono ?_
  rintro e w6 ⟨rfl, ⟨pos, ptape, pout, psz, prest⟩, gv, av, cv, lv, pX, ⟨pg, pa, pc⟩, pM, pL, pl⟩
  have hsz := HSZ.out
  have q5 := HB4.out
  have q6 := HB6.out
  have hR := (prest (w.heap.size + 1 + 1 + 1) (by simp; omega) (by omega) (by omega) (by omega)).trans HG3.out
  have hfin : Below w.heap.size w w6 := by
    refine ⟨pos.trans (q6.os.trans q5.os), ptape.trans (q6.tape.trans q5.tape), pout.trans (q6.output.trans q5.output), Nat.le_trans q5.size (Nat.le_trans q6.size psz), fun b hb => ?_⟩
    exact (prest b (by simp; omega) (by omega) (by omega) (by omega)).trans ((q6.block b (by omega)).trans (q5.block b hb))
  obtain ⟨ga, gc, rfl⟩ := row_form pg
  obtain ⟨aa, ac, rfl⟩ := row_form pa
  obtain ⟨ca, cc, rfl⟩ := row_form pc
  obtain ⟨la, lc, rfl⟩ := row_form pl
  have hlt6 : w.heap.size + 1 + 1 + 1 < (w4.alloc (.cells #[.bool false] 4)).heap.size := by simp; omega
  have HLT6 := Lib.hid hlt6
  have y0 := cell_of pX 0 (.int .i64 o.1.err.kind) rfl
  have y1 := cell_of pX 1 (.string o.1.err.name) rfl
  have y2 := cell_of pX 2 (.string o.1.err.shorts) rfl
  have y3 := cell_of pX 3 (.string o.1.err.value) rfl
  have y4 := cell_of pX 4 (.int .i64 o.1.err.place) rfl
  have y5 := cell_of pX 5 (.slice ga o.1.given.length gc) rfl
  have y6 := cell_of pX 6 (.slice aa o.1.args.length ac) rfl
  have y7 := cell_of pX 7 (.int .i64 o.1.dash) rfl
  have y8 := cell_of pX 8 (.slice ca ch.length cc) rfl
  have y9 := cell_of pX 9 (.bool false) rfl
  have y10 := cell_of pX 10 (.bool false) rfl
  have ym := cell_of pM 0 (.string o.2.1) rfl
  have yl := cell_of pL 0 (.slice la o.2.2.length lc) rfl
  have x0 := cell_of hR 0 (.int .i64 0) rfl
  have x1 := cell_of hR 1 (.string ⟨#[]⟩) rfl
  have x2 := cell_of hR 2 (.string ⟨#[]⟩) rfl
  have x3 := cell_of hR 3 (.string ⟨#[]⟩) rfl
  have x4 := cell_of hR 4 (.int .i64 0) rfl
  have x5 := cell_of hR 5 (.slice none 0 0) rfl
  have x6 := cell_of hR 6 (.slice none 0 0) rfl
  have x7 := cell_of hR 7 (.int .i64 0) rfl
  have x8 := cell_of hR 8 (.slice none 0 0) rfl
  have x9 := cell_of hR 9 (.bool false) rfl
  have x10 := cell_of hR 10 (.bool false) rfl
  have xf : ∀ i, w6.frozen? ⟨w.heap.size + 1 + 1 + 1, i, none⟩ = false := fun i => by simp [World.frozen?, hR]
  obtain ⟨hZ, hW, hBW⟩ := put11 hR (.int .i64 o.1.err.kind) (.string o.1.err.name) (.string o.1.err.shorts) (.string o.1.err.value) (.int .i64 o.1.err.place) (.slice ga o.1.given.length gc) (.slice aa o.1.args.length ac) (.int .i64 o.1.dash) (.slice ca ch.length cc) (.bool false) (.bool false)
  have HZ := Lib.hid hZ
  have HW := Lib.hid hW
  have HF := Lib.hid (hfin.trans (hBW w.heap.size (by omega)))
  have HPG := Lib.hid pg
  have HPA := Lib.hid pa
  have HPC := Lib.hid pc
  have HPL := Lib.hid pl
  clear hlt6 hZ hW hBW hfin pg pa pc pl pX pM pL hR q5 q6 hsz HB4 HB6 HSZ HG HG3 HW4 prest pos ptape pout psz
  go_wp2_with fail
  go_region
  all_goals (go_wp2_with fail)
  refine bodyPost_ret (v := .tuple #[.agg (hCells o.1.err o.1.dash false (.slice ga o.1.given.length gc) (.slice aa o.1.args.length ac) (.slice ca ch.length cc)), .string o.2.1, .slice la o.2.2.length lc]) ?_ rfl ⟨?_, HF.out.drew⟩
  · rw [results_cell_two rfl]
    have q := load_heard_drew HZ.out
    simp only [Array.getD_eq_getD_getElem?]
    simp [asAddr, Result.andThen, q, hCells]
  · refine ⟨_, _, _, _, rfl, Givens.ofRow (row_drew (ownsRow_at HPG.out fun b hb' => HW.out b ?_)), Texts.ofRow (row_drew (ownsRow_at HPA.out fun b hb' => HW.out b ?_)), Ints.ofRow (row_drew (ownsRow_at HPC.out fun b hb' => HW.out b ?_)), Texts.ofRow (row_drew (ownsRow_at HPL.out fun b hb' => HW.out b ?_))⟩
    · have := (ownsRow_cells HPG.out hb').1; have := HLT6.out; omega
    · have := (ownsRow_cells HPA.out hb').1; have := HLT6.out; omega
    · have := (ownsRow_cells HPC.out hb').1; have := HLT6.out; omega
    · have := (ownsRow_cells HPL.out hb').1; have := HLT6.out; omega
end Go.Proofs.Ytcpjdgbnfjdakaa
