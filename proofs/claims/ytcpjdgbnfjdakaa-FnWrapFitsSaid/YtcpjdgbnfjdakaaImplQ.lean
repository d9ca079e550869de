/- The walk of impl.Parse: the door. -/
import Derived.Test.YtcpjdgbnfjdakaaImplP
import Derived.Test.YtcpjdgbnfjdakaaGuard
namespace Go.Proofs.Ytcpjdgbnfjdakaa
open Go.RowKit
set_option linter.unusedVariables false
set_option linter.unusedSimpArgs false

/-- The rows of what was heard, owned from a block on. -/
def HeardRows (w : World) (base : Nat) (gv av cv : Value) (r : RunD) (ch : List Nat) : Prop :=
  w.ownsRow base 94 2 gv r.given.length (flat r.given) ∧ w.ownsRow base 9 1 av r.args.length (r.args.map .string) ∧ w.ownsRow base 3 1 cv ch.length (ch.map intV)
/-- What was heard, as it is returned, its rows owned. -/
def HeardOwn (e : Ending) (w : World) (base : Nat) (r : RunD) (ch : List Nat) : Prop :=
  ∃ ga gc aa ac ca cc, e = .returned (.agg (hCells r.err r.dash true (.slice ga r.given.length gc) (.slice aa r.args.length ac) (.slice ca ch.length cc))) ∧ HeardRows w base (.slice ga r.given.length gc) (.slice aa r.args.length ac) (.slice ca ch.length cc) r ch
theorem HeardRows.at {w w' : World} {base : Nat} {gv av cv : Value} {r : RunD} {ch : List Nat} (h : HeardRows w base gv av cv r ch) (hk : ∀ b c e, base ≤ b → w.heap[b]? = some (.cells c e (0, 0)) → e ≠ 33 → w'.heap[b]? = w.heap[b]?) : HeardRows w' base gv av cv r ch := by
  obtain ⟨h1, h2, h3⟩ := h
  refine ⟨ownsRow_at h1 fun b hb => ?_, ownsRow_at h2 fun b hb => ?_, ownsRow_at h3 fun b hb => ?_⟩
  · obtain ⟨q, c, hc⟩ := ownsRow_cells h1 hb; exact hk b c _ q hc (by decide)
  · obtain ⟨q, c, hc⟩ := ownsRow_cells h2 hb; exact hk b c _ q hc (by decide)
  · obtain ⟨q, c, hc⟩ := ownsRow_cells h3 hb; exact hk b c _ q hc (by decide)

set_option maxRecDepth 100000 in
set_option maxHeartbeats 1600000 in
theorem implParse_own (fv v : Value) (plain unk : Bool) (fold : Int) (s : SetD) (w : World) (hv : FlagRows w fv s.flags) (hp : s.plain = plain) (hu : s.unknown = unk) (hlo : s.lo = (fold == 1 || fold == 3)) (hda : s.da = (fold == 2 || fold == 3)) (R : RightP s s.flags)
    (l : List ByteArray) (ht : Texts w v l) (hs : ∀ t ∈ l, t.size ≤ 4294967295) (hl : l.length ≤ 2147483647) (hg : bytesOf l ≤ 1099511627776) :
    Calls Try.prog 20 #[.agg #[fv, .bool plain, .bool unk, .int .i64 fold], v] w fun e w' => HeardOwn e w' w.heap.size (goesF s .sets l begin0) (chgU (goesF s .sets l begin0).given s.flags.length) ∧ Below w.heap.size w w' := by
  have hmf : ∀ (fn : Fn) (first cap : Array Value) (w : World), (Instr.makeFunc fn first cap).run Try.prog w = .ok (.func fn first cap) w := fun _ _ _ _ => rfl
  obtain ⟨fa, fc, rfl⟩ : ∃ a c, fv = .slice a s.flags.length c := by obtain ⟨a, c, e, _⟩ := hv; exact ⟨a, c, e⟩
  obtain ⟨va, vc, rfl, hvc⟩ := ht.len
  obtain ⟨w4, hw4⟩ : ∃ w4, ((((w.alloc (.cells #[.slice fa s.flags.length fc, .bool plain, .bool unk, .int .i64 fold] 24)).alloc (.cells #[.slice va l.length vc] 25)).alloc (.cells #[.int .i64 0, .string ⟨#[]⟩, .string ⟨#[]⟩, .string ⟨#[]⟩, .int .i64 0, .slice none 0 0, .slice none 0 0, .int .i64 0, .slice none 0 0, .bool false, .bool false] 33)).alloc (.cells #[.int .i64 0, .string ⟨#[]⟩, .string ⟨#[]⟩, .string ⟨#[]⟩, .int .i64 0, .slice none 0 0, .slice none 0 0, .int .i64 0, .slice none 0 0, .bool false, .bool false] 33)) = w4 := ⟨_, rfl⟩
  have g0 : w4.heap[w.heap.size]? = some (.cells #[.slice fa s.flags.length fc, .bool plain, .bool unk, .int .i64 fold] 24 (0, 0)) := by rw [← hw4]; (repeat (first | (with_reducible assumption) | ((with_reducible refine heap_past' ?_ ?_); focus ((try simp only [World.size_alloc, size_setCell, World.heap_drewN]); (try omega); done)) | ((with_reducible refine heap_at _ _ _ ?_); focus ((try simp only [World.size_alloc, size_setCell, World.heap_drewN]); (try omega); done)) | ((with_reducible refine heap_ne' ?_ ?_); focus ((try simp only [World.size_alloc, size_setCell, World.heap_drewN]); (try omega); done)) | (with_reducible refine heap_drew' ?_)))
  have g1 : w4.heap[w.heap.size + 1]? = some (.cells #[.slice va l.length vc] 25 (0, 0)) := by rw [← hw4]; (repeat (first | (with_reducible assumption) | ((with_reducible refine heap_past' ?_ ?_); focus ((try simp only [World.size_alloc, size_setCell, World.heap_drewN]); (try omega); done)) | ((with_reducible refine heap_at _ _ _ ?_); focus ((try simp only [World.size_alloc, size_setCell, World.heap_drewN]); (try omega); done)) | ((with_reducible refine heap_ne' ?_ ?_); focus ((try simp only [World.size_alloc, size_setCell, World.heap_drewN]); (try omega); done)) | (with_reducible refine heap_drew' ?_)))
  have g2 : w4.heap[w.heap.size + 1 + 1]? = some (.cells zeroH 33 (0, 0)) := by rw [← hw4]; unfold zeroH; (repeat (first | (with_reducible assumption) | ((with_reducible refine heap_past' ?_ ?_); focus ((try simp only [World.size_alloc, size_setCell, World.heap_drewN]); (try omega); done)) | ((with_reducible refine heap_at _ _ _ ?_); focus ((try simp only [World.size_alloc, size_setCell, World.heap_drewN]); (try omega); done)) | ((with_reducible refine heap_ne' ?_ ?_); focus ((try simp only [World.size_alloc, size_setCell, World.heap_drewN]); (try omega); done)) | (with_reducible refine heap_drew' ?_)))
  have g3 : w4.heap[w.heap.size + 1 + 1 + 1]? = some (.cells zeroH 33 (0, 0)) := by rw [← hw4]; unfold zeroH; (repeat (first | (with_reducible assumption) | ((with_reducible refine heap_past' ?_ ?_); focus ((try simp only [World.size_alloc, size_setCell, World.heap_drewN]); (try omega); done)) | ((with_reducible refine heap_at _ _ _ ?_); focus ((try simp only [World.size_alloc, size_setCell, World.heap_drewN]); (try omega); done)) | ((with_reducible refine heap_ne' ?_ ?_); focus ((try simp only [World.size_alloc, size_setCell, World.heap_drewN]); (try omega); done)) | (with_reducible refine heap_drew' ?_)))
  have hsz : w4.heap.size = w.heap.size + 1 + 1 + 1 + 1 := by rw [← hw4]; simp only [World.size_alloc]
  have hb4 : Below w.heap.size w w4 := by rw [← hw4]; (repeat (first | (with_reducible exact Below.refl _ _) | (with_reducible assumption) | ((with_reducible refine Below.alloc ?_ ?_ _); rotate_left; focus ((try simp only [World.size_alloc, size_setCell, World.heap_drewN]); (try omega); done)) | ((with_reducible refine Below.setCell ?_ ?_ _); rotate_left; focus ((try simp only [World.size_alloc, size_setCell, World.heap_drewN]); (try omega); done)) | (with_reducible refine Below.drewN' ?_) | (with_reducible refine Below.drew ?_)))
  have hbel6 : Below w4.heap.size w4 (w4.alloc (.cells #[.bool false] 4)) := (Below.refl _ _).alloc (Nat.le_refl _) _
  have k6 : ∀ {b o}, w4.heap[b]? = some o → (w4.alloc (.cells #[.bool false] 4)).heap[b]? = some o := fun h => (hbel6.block _ (lt_of_block h)).trans h
  have hk : ∀ b, b < w.heap.size → (w4.alloc (.cells #[.bool false] 4)).heap[b]? = w.heap[b]? := fun b hb => (hbel6.block b (by omega)).trans (hb4.block b hb)
  have hB : (w4.alloc (.cells #[.bool false] 4)).heap[w4.heap.size]? = some (.cells #[.bool false] 4 (0, 0)) := heap_at _ _ _ rfl
  have hg2 := k6 g2
  have C := parse1_any w.heap.size _ _ plain unk fold s (w4.alloc (.cells #[.bool false] 4)) (hv.later hk) hp hu hlo hda R l (ht.later hk) hs hl hg (k6 g0) (k6 g1) (w.heap.size + 1 + 1 + 1) (k6 g3)
  have G := guarded_ok 50 #[ptr w.heap.size, ptr (w.heap.size + 1), ptr (w.heap.size + 1 + 1 + 1)] w4 _ w4.heap.size rfl (fun w => by simp [go_sem]) C
    (fun w' h => (h.1.2.2.2.2 _ (lt_of_block hB) (by omega)).trans hB)
  obtain ⟨r, hr⟩ : ∃ r, goesF s .sets l begin0 = r := ⟨_, rfl⟩
  rw [hr] at G ⊢
  generalize chgU r.given s.flags.length = ch at *
  have HG := Lib.hid G
  have HB4 := Lib.hid hb4
  have HB6 := Lib.hid hbel6
  have HSZ := Lib.hid hsz
  have HG2 := Lib.hid hg2
  have HW4 := Lib.hid hw4
  clear C G k6 hk hB g0 g1 g2 g3 hb4 hbel6 hsz hv ht hw4 hg2 hr
  go_enter Try.func20, Try.ntmps20
  go_wp2_with fail
  rw [HW4.out]
  refine HG.out.mono ?_
  rintro e w6 ⟨rfl, ⟨pos, ptape, pout, psz, prest⟩, gv, av, cv, pX, pg, pa, pc⟩
  have hsz := HSZ.out
  have q5 := HB4.out
  have q6 := HB6.out
  have hR := (prest (w.heap.size + 1 + 1) (by simp; omega) (by omega)).trans HG2.out
  have hfin : Below w.heap.size w w6 := by
    refine ⟨pos.trans (q6.os.trans q5.os), ptape.trans (q6.tape.trans q5.tape), pout.trans (q6.output.trans q5.output), Nat.le_trans q5.size (Nat.le_trans q6.size psz), fun b hb => ?_⟩
    exact (prest b (by simp; omega) (by omega)).trans ((q6.block b (by omega)).trans (q5.block b hb))
  obtain ⟨ga, gc, rfl⟩ := row_form pg
  obtain ⟨aa, ac, rfl⟩ := row_form pa
  obtain ⟨ca, cc, rfl⟩ := row_form pc
  have hlt6 : w.heap.size + 1 + 1 < (w4.alloc (.cells #[.bool false] 4)).heap.size := by simp; omega
  have HLT6 := Lib.hid hlt6
  have y0 := cell_of pX 0 (.int .i64 r.err.kind) rfl
  have y1 := cell_of pX 1 (.string r.err.name) rfl
  have y2 := cell_of pX 2 (.string r.err.shorts) rfl
  have y3 := cell_of pX 3 (.string r.err.value) rfl
  have y4 := cell_of pX 4 (.int .i64 r.err.place) rfl
  have y5 := cell_of pX 5 (.slice ga r.given.length gc) rfl
  have y6 := cell_of pX 6 (.slice aa r.args.length ac) rfl
  have y7 := cell_of pX 7 (.int .i64 r.dash) rfl
  have y8 := cell_of pX 8 (.slice ca ch.length cc) rfl
  have y9 := cell_of pX 9 (.bool true) rfl
  have y10 := cell_of pX 10 (.bool false) rfl
  have x0 := cell_of hR 0 (.int .i64 0) rfl
  have x1 := cell_of hR 1 (.string ⟨#[]⟩) rfl
  have x2 := cell_of hR 2 (.string ⟨#[]⟩) rfl
  have x3 := cell_of hR 3 (.string ⟨#[]⟩) rfl
  have x4 := cell_of hR 4 (.int .i64 0) rfl
  have x5 := cell_of hR 5 (.slice none 0 0) rfl
  have x6 := cell_of hR 6 (.slice none 0 0) rfl
  have x7 := cell_of hR 7 (.int .i64 0) rfl
  have x8 := cell_of hR 8 (.slice none 0 0) rfl
  have x9 := cell_of hR 9 (.bool false) rfl
  have x10 := cell_of hR 10 (.bool false) rfl
  have xf : ∀ i, w6.frozen? ⟨w.heap.size + 1 + 1, i, none⟩ = false := fun i => by simp [World.frozen?, hR]
  obtain ⟨hZ, hW, hBW⟩ := put11 hR (.int .i64 r.err.kind) (.string r.err.name) (.string r.err.shorts) (.string r.err.value) (.int .i64 r.err.place) (.slice ga r.given.length gc) (.slice aa r.args.length ac) (.int .i64 r.dash) (.slice ca ch.length cc) (.bool true) (.bool false)
  have HZ := Lib.hid hZ
  have HW := Lib.hid hW
  have HF := Lib.hid (hfin.trans (hBW w.heap.size (by omega)))
  have HPG := Lib.hid pg
  have HPA := Lib.hid pa
  have HPC := Lib.hid pc
  have HPX := Lib.hid pX
  have HR := Lib.hid hR
  clear hlt6 hZ hW hBW hfin pg pa pc pX hR q5 q6 hsz HB4 HB6 HSZ HG HG2 HW4 prest pos ptape pout psz
  go_wp2_with fail
  refine bodyPost_ret (v := .agg (hCells r.err r.dash true (.slice ga r.given.length gc) (.slice aa r.args.length ac) (.slice ca ch.length cc))) ?_ rfl ⟨?_, HF.out⟩
  · rw [results_cell_one rfl]
    have q := load_heard HZ.out
    simp only [Array.getD_eq_getD_getElem?]
    simp [asAddr, Result.andThen, q, hCells]
  · have hlow : w.heap.size ≤ (w4.alloc (.cells #[.bool false] 4)).heap.size := by have := HLT6.out; omega
    refine ⟨_, _, _, _, _, _, rfl, row_lower (ownsRow_at HPG.out fun b hb' => HW.out b ?_) hlow, row_lower (ownsRow_at HPA.out fun b hb' => HW.out b ?_) hlow, row_lower (ownsRow_at HPC.out fun b hb' => HW.out b ?_) hlow⟩
    · have := (ownsRow_cells HPG.out hb').1; have := HLT6.out; omega
    · have := (ownsRow_cells HPA.out hb').1; have := HLT6.out; omega
    · have := (ownsRow_cells HPC.out hb').1; have := HLT6.out; omega

theorem implParse_any (fv v : Value) (plain unk : Bool) (fold : Int) (s : SetD) (w : World) (hv : FlagRows w fv s.flags) (hp : s.plain = plain) (hu : s.unknown = unk) (hlo : s.lo = (fold == 1 || fold == 3)) (hda : s.da = (fold == 2 || fold == 3)) (R : RightP s s.flags)
    (l : List ByteArray) (ht : Texts w v l) (hs : ∀ t ∈ l, t.size ≤ 4294967295) (hl : l.length ≤ 2147483647) (hg : bytesOf l ≤ 1099511627776) :
    Calls Try.prog 20 #[.agg #[fv, .bool plain, .bool unk, .int .i64 fold], v] w fun e w' => HeardIs e w' (goesF s .sets l begin0) (chgU (goesF s .sets l begin0).given s.flags.length) ∧ Below w.heap.size w w' := by
  refine (implParse_own fv v plain unk fold s w hv hp hu hlo hda R l ht hs hl hg).mono ?_
  rintro e w' ⟨⟨ga, gc, aa, ac, ca, cc, rfl, h1, h2, h3⟩, hb⟩
  exact ⟨⟨_, _, _, rfl, Givens.ofRow h1, Texts.ofRow h2, Ints.ofRow h3⟩, hb⟩
end Go.Proofs.Ytcpjdgbnfjdakaa
