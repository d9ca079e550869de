/- The walk of impl.Parse. -/
import Derived.Test.YtcpjdgbnfjdakaaHeard
namespace Go.Proofs.Ytcpjdgbnfjdakaa
open Go.RowKit
set_option linter.unusedVariables false
set_option linter.unusedSimpArgs false

/-- What was heard is written into a variable; all else of a world stands. -/
def HeardPut (w w' : World) (B : Nat) (r : RunD) (chg : List Nat) : Prop :=
  (w'.os = w.os ∧ w'.tape = w.tape ∧ w'.output = w.output ∧ w.heap.size ≤ w'.heap.size ∧ ∀ b, b < w.heap.size → b ≠ B → w'.heap[b]? = w.heap[b]?) ∧
  ∃ gv av cv, w'.heap[B]? = some (.cells (hCells r.err r.dash true gv av cv) 33 (0, 0)) ∧ w'.ownsRow w.heap.size 94 2 gv r.given.length (flat r.given) ∧ w'.ownsRow w.heap.size 9 1 av r.args.length (r.args.map .string) ∧ w'.ownsRow w.heap.size 3 1 cv chg.length (chg.map intV)

theorem chg_sets {D : St} {s : SetD} {r : RunD} (h : Runs D s .sets r) : chgR D.rs D.rs.length = chgU r.given s.flags.length := by
  rw [chgR, chgU, h.ready.len]
  refine List.filter_congr fun i hi => ?_
  have hlt : i < D.rs.length := by rw [h.ready.len]; exact List.mem_range.1 hi
  have := h.chg i _ (List.getElem?_eq_getElem hlt)
  rw [List.getElem?_eq_getElem hlt, Option.map_some, Option.getD_some, this, h.given]
theorem chg_hands {D : St} {s : SetD} {bad : List ByteArray} {r : RunD} (h : Runs D s (.hands bad) r) : chgR D.rs D.rs.length = [] := by
  rw [chgR, List.filter_eq_nil_iff]
  intro i hi
  have hlt : i < D.rs.length := List.mem_range.1 hi
  have := h.chg i _ (List.getElem?_eq_getElem hlt)
  rw [List.getElem?_eq_getElem hlt, Option.map_some, Option.getD_some, this]
  simp

theorem near_fl {D D' : St} (n : Near D D') (h : D.flL = D.rs.map fun r => ptr r.fb) : D'.flL = D'.rs.map fun r => ptr r.fb := by
  rw [core_map n.rs (fun r => ptr r.fb) (fun _ => rfl), ← h, n.eq]

/-- Eleven cells of what was heard are put into a variable. -/
theorem heardPut_of {w w4 : World} {B base : Nat} {r : RunD} {chg : List Nat} (hb : Below w.heap.size w w4) (hB : B < base) (hwb : w.heap.size ≤ base) (h : w4.heap[B]? = some (.cells zeroH 33 (0, 0))) {gv av cv : Value} (hg : w4.ownsRow base 94 2 gv r.given.length (flat r.given)) (ha : w4.ownsRow base 9 1 av r.args.length (r.args.map .string)) (hc : w4.ownsRow base 3 1 cv chg.length (chg.map intV)) :
    HeardPut w (((((((((((w4.setCell ⟨B, 0, none⟩ (.int .i64 r.err.kind)).setCell ⟨B, 1, none⟩ (.string r.err.name)).setCell ⟨B, 2, none⟩ (.string r.err.shorts)).setCell ⟨B, 3, none⟩ (.string r.err.value)).setCell ⟨B, 4, none⟩ (.int .i64 r.err.place)).setCell ⟨B, 5, none⟩ gv).setCell ⟨B, 6, none⟩ av).setCell ⟨B, 7, none⟩ (.int .i64 r.dash)).setCell ⟨B, 8, none⟩ cv).setCell ⟨B, 9, none⟩ (.bool true)).setCell ⟨B, 10, none⟩ (.bool false)) B r chg := by
  obtain ⟨hZ, hW, hBW⟩ := put11 h (.int .i64 r.err.kind) (.string r.err.name) (.string r.err.shorts) (.string r.err.value) (.int .i64 r.err.place) gv av (.int .i64 r.dash) cv (.bool true) (.bool false)
  have b0 := hBW 0 (Nat.zero_le _)
  refine ⟨⟨b0.os.trans hb.os, b0.tape.trans hb.tape, b0.output.trans hb.output, Nat.le_trans hb.size b0.size, fun b hlt hne => (hW b hne).trans (hb.block b hlt)⟩, gv, av, cv, hZ, row_lower (ownsRow_at hg fun b hb' => hW b ?_) hwb, row_lower (ownsRow_at ha fun b hb' => hW b ?_) hwb, row_lower (ownsRow_at hc fun b hb' => hW b ?_) hwb⟩
  · have := (ownsRow_cells hg hb').1; omega
  · have := (ownsRow_cells ha hb').1; omega
  · have := (ownsRow_cells hc hb').1; omega

set_option maxRecDepth 100000 in
set_option maxHeartbeats 1600000 in
theorem parse1_any (B : Nat) (fv v : Value) (plain unk : Bool) (fold : Int) (s : SetD) (w : World) (hv : FlagRows w fv s.flags) (hp : s.plain = plain) (hu : s.unknown = unk) (hlo : s.lo = (fold == 1 || fold == 3)) (hda : s.da = (fold == 2 || fold == 3)) (R : RightP s s.flags)
    (l : List ByteArray) (ht : Texts w v l) (hs : ∀ t ∈ l, t.size ≤ 4294967295) (hl : l.length ≤ 2147483647) (hg : bytesOf l ≤ 1099511627776)
    (h0 : w.heap[B]? = some (.cells #[fv, .bool plain, .bool unk, .int .i64 fold] 24 (0, 0))) (h1 : w.heap[B + 1]? = some (.cells #[v] 25 (0, 0))) (X : Nat) (h2 : w.heap[X]? = some (.cells zeroH 33 (0, 0))) :
    Calls Try.prog 50 #[ptr B, ptr (B + 1), ptr X] w fun e w' => e = .returned (.tuple #[]) ∧ HeardPut w w' X (goesF s .sets l begin0) (chgU (goesF s .sets l begin0).given s.flags.length) := by
  have c0 : w.cell? ⟨B, 0, none⟩ = some fv := by simp [World.cell?, h0]
  have c1 : w.cell? ⟨B, 1, none⟩ = some (.bool plain) := by simp [World.cell?, h0]
  have c2 : w.cell? ⟨B, 2, none⟩ = some (.bool unk) := by simp [World.cell?, h0]
  have c3 : w.cell? ⟨B, 3, none⟩ = some (.int .i64 fold) := by simp [World.cell?, h0]
  obtain ⟨fa, fc, rfl⟩ : ∃ a c, fv = .slice a s.flags.length c := by obtain ⟨a, c, e, _⟩ := hv; exact ⟨a, c, e⟩
  obtain ⟨va, vc, rfl, hvc⟩ := ht.len
  have CM := Lib.hid (made_any (.slice fa s.flags.length fc) s.flags plain unk fold w hv s rfl hp hu hlo hda R)
  go_enter Try.func50, Try.ntmps50
  go_wp2_with fail
  refine CM.out.mono ?_
  rintro e w1 ⟨D, rfl, i1, fr, hfl, hbel, hbase⟩
  clear c0 c1 c2 c3 CM
  have KB : ∀ w' : World, Below D.base D.w0 w' → ∀ b, b < w.heap.size → w'.heap[b]? = w.heap[b]? := fun w' h b hb => (h.block b (by rw [hbase]; omega)).trans (hbel.block b hb)
  have HKB := Lib.hid KB
  clear KB
  have i2 := i1.later (Below.refl _ w1).drew
  have CP := Lib.hid (parse_any i2 fr (.slice va l.length vc) l (ht.later hbel.block) hs hl hg)
  have d0 := i2.whCells.1
  have k1 := (HKB.out _ i2.bel _ (lt_of_block h1)).trans h1
  have d1 : w1.drew.cell? ⟨B + 1, 0, none⟩ = some (.slice va l.length vc) := by simp only [World.cell?, k1]; rfl
  have S1 := Lib.hid (And.intro d0 d1)
  have hfs : D.rs.length ≤ 2147483647 := by
    have := fr.ready.len
    have := R.len
    omega
  have lX := lt_of_block h2
  have HH2 := Lib.hid h2
  obtain ⟨r, hr⟩ : ∃ r, goesF s .sets l begin0 = r := ⟨_, rfl⟩
  have hgl : r.given.length ≤ 1099511627776 := by
    have q : (goesF s .sets l begin0).given.length ≤ begin0.given.length + bytesOf l := goesN_given s .sets l.length l begin0
    rw [hr] at q
    simp only [begin0, List.length_nil] at q; omega
  have hal : r.args.length ≤ 1099511627776 := by
    have q : (goesF s .sets l begin0).args.length ≤ begin0.args.length + l.length := goes_args s .sets l.length l begin0
    rw [hr] at q
    simp only [begin0, List.length_nil] at q; omega
  rw [hr] at CP
  have HRR := Lib.hid hr
  have HBEL := Lib.hid hbel
  have NEXT : ∀ (w3 : World) (D' : St) (ev : Value), Inv D' w3 → Near { D with bx := some w1.drew.heap.size } D' → Runs D' s .sets r → ErrIs D' w3 ev r.err →
      Calls Try.prog 52 #[ptr D.Wb, ev, .int .i64 0] w3 fun e w' => (∃ gv av cv, e = .returned (.agg (hCells r.err r.dash true gv av cv)) ∧ w'.ownsRow w3.heap.size 94 2 gv r.given.length (flat r.given) ∧ w'.ownsRow w3.heap.size 9 1 av r.args.length (r.args.map .string) ∧ w'.ownsRow w3.heap.size 3 1 cv (chgU r.given s.flags.length).length ((chgU r.given s.flags.length).map intV)) ∧ Below w3.heap.size w3 w' := fun w3 D' ev j1 n1 r1 e1 => by
    have fl : D'.flL = D'.rs.map fun r => ptr r.fb := near_fl n1 hfl
    have ln : D'.rs.length ≤ 2147483647 := by
      have := congrArg List.length n1.rs
      simp only [List.length_map] at this
      omega
    have C := heard_any (x := r.err) j1 (by rw [r1.given]; exact hgl) (by rw [r1.args]; exact hal) fl ln ev e1
    rw [n1.Wb] at C
    refine C.mono ?_
    rintro e w4 ⟨⟨gv, av, cv, rfl, hg, ha, hc⟩, hb⟩
    rw [chg_sets r1] at hc
    rw [r1.given] at hg
    rw [r1.args] at ha
    exact ⟨⟨gv, av, cv, by rw [r1.dash, r1.parsed, (congrArg St.fin n1.eq).trans fr.fin], hg, ha, hc⟩, hb⟩
  have HNEXT := Lib.hid NEXT
  have FIN : ∀ (w3 w4 : World) (D' : St) (gv av cv : Value), Inv D' w3 → Near { D with bx := some w1.drew.heap.size } D' → Below w3.heap.size w3 w4 → w4.ownsRow w3.heap.size 94 2 gv r.given.length (flat r.given) → w4.ownsRow w3.heap.size 9 1 av r.args.length (r.args.map .string) → w4.ownsRow w3.heap.size 3 1 cv (chgU r.given s.flags.length).length ((chgU r.given s.flags.length).map intV) →
      w4.heap[X]? = some (.cells zeroH 33 (0, 0)) ∧ HeardPut w (((((((((((w4.setCell ⟨X, 0, none⟩ (.int .i64 r.err.kind)).setCell ⟨X, 1, none⟩ (.string r.err.name)).setCell ⟨X, 2, none⟩ (.string r.err.shorts)).setCell ⟨X, 3, none⟩ (.string r.err.value)).setCell ⟨X, 4, none⟩ (.int .i64 r.err.place)).setCell ⟨X, 5, none⟩ gv).setCell ⟨X, 6, none⟩ av).setCell ⟨X, 7, none⟩ (.int .i64 r.dash)).setCell ⟨X, 8, none⟩ cv).setCell ⟨X, 9, none⟩ (.bool true)).setCell ⟨X, 10, none⟩ (.bool false)) X r (chgU r.given s.flags.length) := fun w3 w4 D' gv av cv j1 n1 hb4 hg4 ha4 hc4 => by
    have hb3 : Below D.base D.w0 w3 := by
      have q := j1.bel
      rw [St.base, n1.w0] at q
      exact q
    have hbw3 : Below w.heap.size w w3 := HBEL.out.trans (hb3.mono (by rw [hbase]; omega))
    have hX3 : w3.heap[X]? = some (.cells zeroH 33 (0, 0)) := (HKB.out _ hb3 _ lX).trans HH2.out
    have hX4 := (hb4.block _ (lt_of_block hX3)).trans hX3
    exact ⟨hX4, heardPut_of (Below.after hbw3 hb4) (lt_of_block hX3) hbw3.size hX4 hg4 ha4 hc4⟩
  have HFIN := Lib.hid FIN
  clear NEXT FIN d0 d1 k1 hr h0 h1 h2 hv ht hs fr i1 i2 hbel
  go_wp2_with fail
  have d0 := S1.out.1
  have d1 := S1.out.2
  go_region_with (first
    | (go_at_call 53; refine CP.out.mono ?_; rintro e w3 ⟨ev, D', rfl, j1, n1, r1, e1⟩)
    | (go_at_call 52; refine (HNEXT.out _ _ _ j1 n1 r1 e1).mono ?_; rintro e w4 ⟨⟨gv, av, cv, rfl, hg4, ha4, hc4⟩, hb4⟩; obtain ⟨ga, gc, rfl⟩ := row_form hg4; obtain ⟨aa, ac, rfl⟩ := row_form ha4; obtain ⟨ca, cc, rfl⟩ := row_form hc4; obtain ⟨hX4, hput⟩ := HFIN.out _ _ _ _ _ _ j1 n1 hb4 hg4 ha4 hc4; simp only [hCells]; have x0 := cell_of hX4 0 (.int .i64 0) rfl; have x1 := cell_of hX4 1 (.string ⟨#[]⟩) rfl; have x2 := cell_of hX4 2 (.string ⟨#[]⟩) rfl; have x3 := cell_of hX4 3 (.string ⟨#[]⟩) rfl; have x4 := cell_of hX4 4 (.int .i64 0) rfl; have x5 := cell_of hX4 5 (.slice none 0 0) rfl; have x6 := cell_of hX4 6 (.slice none 0 0) rfl; have x7 := cell_of hX4 7 (.int .i64 0) rfl; have x8 := cell_of hX4 8 (.slice none 0 0) rfl; have x9 := cell_of hX4 9 (.bool false) rfl; have x10 := cell_of hX4 10 (.bool false) rfl; have xf : ∀ i, w4.frozen? ⟨X, i, none⟩ = false := fun i => by simp [World.frozen?, hX4]))
  all_goals (go_wp2_with fail)
  all_goals go_end0
  all_goals rw [HRR.out]
  all_goals exact ⟨rfl, hput⟩
end Go.Proofs.Ytcpjdgbnfjdakaa
