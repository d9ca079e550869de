/- The walk of impl.ParseAll. -/
import Derived.Test.YtcpjdgbnfjdakaaHandAll
namespace Go.Proofs.Ytcpjdgbnfjdakaa
open Go.RowKit
set_option linter.unusedVariables false
set_option linter.unusedSimpArgs false

theorem Fresh.boxedW {D : St} {b : Option Nat} {s : SetD} (k : Fresh D s) : Fresh { D with bw := b } s :=
  ⟨⟨k.ready.norm, k.ready.unk, k.ready.inter, k.ready.len, k.ready.flag, k.ready.form, k.ready.short, k.ready.uniq, k.ready.small⟩, k.given, k.oa, k.chg, k.dash⟩

set_option maxRecDepth 100000 in
set_option maxHeartbeats 1600000 in
theorem all1_any (B : Nat) (fv v badV : Value) (plain unk : Bool) (fold : Int) (s : SetD) (w : World) (hv : FlagRows w fv s.flags) (hp : s.plain = plain) (hu : s.unknown = unk) (hlo : s.lo = (fold == 1 || fold == 3)) (hda : s.da = (fold == 2 || fold == 3)) (R : RightP s s.flags)
    (l : List ByteArray) (ht : Texts w v l) (hs : ∀ t ∈ l, t.size ≤ 2147483647) (hl : l.length ≤ 2147483647) (hg : bytesOf l ≤ 1099511627776) (bad : List ByteArray) (hbad : Strs w badV bad) (hbl : bad.length ≤ 2147483647)
    (h0 : w.heap[B]? = some (.cells #[fv, .bool plain, .bool unk, .int .i64 fold] 24 (0, 0))) (h1 : w.heap[B + 1]? = some (.cells #[v] 25 (0, 0))) (hbb : w.heap[B + 1 + 1]? = some (.cells #[badV] 25 (0, 0))) (X : Nat) (h2 : w.heap[X]? = some (.cells zeroH 33 (0, 0))) :
    Calls Try.prog 55 #[ptr B, ptr (B + 1), ptr (B + 1 + 1), ptr X] w fun e w' => e = .returned (.tuple #[]) ∧ HeardPut w w' X (goesF s (.hands bad) l begin0) [] := by
  have c0 : w.cell? ⟨B, 0, none⟩ = some fv := by simp [World.cell?, h0]
  have c1 : w.cell? ⟨B, 1, none⟩ = some (.bool plain) := by simp [World.cell?, h0]
  have c2 : w.cell? ⟨B, 2, none⟩ = some (.bool unk) := by simp [World.cell?, h0]
  have c3 : w.cell? ⟨B, 3, none⟩ = some (.int .i64 fold) := by simp [World.cell?, h0]
  obtain ⟨fa, fc, rfl⟩ : ∃ a c, fv = .slice a s.flags.length c := by obtain ⟨a, c, e, _⟩ := hv; exact ⟨a, c, e⟩
  obtain ⟨va, vc, rfl, hvc⟩ := ht.len
  have CM := Lib.hid (made_any (.slice fa s.flags.length fc) s.flags plain unk fold w hv s rfl hp hu hlo hda R)
  have hmf : ∀ (fn : Fn) (first cap : Array Value) (w : World), (Instr.makeFunc fn first cap).run Try.prog w = .ok (.func fn first cap) w := fun _ _ _ _ => rfl
  go_enter Try.func55, Try.ntmps55
  go_wp2_with fail
  refine CM.out.mono ?_
  rintro e w1 ⟨D, rfl, i1, fr, hfl, hbel, hbase⟩
  clear c0 c1 c2 c3 CM
  have KB : ∀ w' : World, Below D.base D.w0 w' → ∀ b, b < w.heap.size → w'.heap[b]? = w.heap[b]? := fun w' h b hb => (h.block b (by rw [hbase]; omega)).trans (hbel.block b hb)
  have HKB := Lib.hid KB
  clear KB
  have hb0 : D.w0.heap[B + 1 + 1]? = some (.cells #[badV] 25 (0, 0)) := (hbel.block _ (lt_of_block hbb)).trans hbb
  have hfs : D.rs.length ≤ 2147483647 := by
    have := fr.ready.len
    have := R.len
    omega
  have i2 : Inv { D with bw := some w1.heap.size } (w1.alloc (.cells #[ptr D.Wb] 79)).drew := i1.boxW.later (Below.refl _ _).drew
  have HA : Hands 57 #[] #[ptr w1.heap.size, ptr (B + 1 + 1)] { D with bw := some w1.heap.size } s (.hands bad) := all_hands rfl hfl hfs hb0 (hbad.later hbel.block) hbl
  have CP := Lib.hid (parseAll_any HA i2 fr.boxedW (.slice va l.length vc) l (ht.later hbel.block) hs hl hg)
  have d0 := i2.whCells.1
  have k1 := (HKB.out _ i2.bel _ (lt_of_block h1)).trans h1
  have d1 : (w1.alloc (.cells #[ptr D.Wb] 79)).drew.cell? ⟨B + 1, 0, none⟩ = some (.slice va l.length vc) := by simp only [World.cell?, k1]; rfl
  have S1 := Lib.hid (And.intro d0 d1)
  have lX := lt_of_block h2
  have HH2 := Lib.hid h2
  obtain ⟨r, hr⟩ : ∃ r, goesF s (.hands bad) l begin0 = r := ⟨_, rfl⟩
  have hgl : r.given.length ≤ 1099511627776 := by
    have q : (goesF s (.hands bad) l begin0).given.length ≤ begin0.given.length + bytesOf l := goesN_given s (.hands bad) l.length l begin0
    rw [hr] at q
    simp only [begin0, List.length_nil] at q; omega
  have hal : r.args.length ≤ 1099511627776 := by
    have q : (goesF s (.hands bad) l begin0).args.length ≤ begin0.args.length + l.length := goes_args s (.hands bad) l.length l begin0
    rw [hr] at q
    simp only [begin0, List.length_nil] at q; omega
  rw [hr] at CP
  have HRR := Lib.hid hr
  have HBEL := Lib.hid hbel
  have NEXT : ∀ (w3 : World) (D' : St) (ev : Value), Inv D' w3 → Near { D with bw := some w1.heap.size } D' → Runs D' s (.hands bad) r → ErrIs D' w3 ev r.err →
      Calls Try.prog 52 #[ptr D.Wb, ev, .int .i64 0] w3 fun e w' => (∃ gv av cv, e = .returned (.agg (hCells r.err r.dash true gv av cv)) ∧ w'.ownsRow w3.heap.size 94 2 gv r.given.length (flat r.given) ∧ w'.ownsRow w3.heap.size 9 1 av r.args.length (r.args.map .string) ∧ w'.ownsRow w3.heap.size 3 1 cv ([] : List Nat).length (([] : List Nat).map intV)) ∧ Below w3.heap.size w3 w' := fun w3 D' ev j1 n1 r1 e1 => by
    have fl : D'.flL = D'.rs.map fun r => ptr r.fb := near_fl n1 hfl
    have ln : D'.rs.length ≤ 2147483647 := by
      have := congrArg List.length n1.rs
      simp only [List.length_map] at this
      omega
    have C := heard_any (x := r.err) j1 (by rw [r1.given]; exact hgl) (by rw [r1.args]; exact hal) fl ln ev e1
    rw [n1.Wb] at C
    refine C.mono ?_
    rintro e w4 ⟨⟨gv, av, cv, rfl, hg, ha, hc⟩, hb⟩
    rw [chg_hands r1] at hc
    rw [r1.given] at hg
    rw [r1.args] at ha
    exact ⟨⟨gv, av, cv, by rw [r1.dash, r1.parsed], hg, ha, hc⟩, hb⟩
  have HNEXT := Lib.hid NEXT
  have FIN : ∀ (w3 w4 : World) (D' : St) (gv av cv : Value), Inv D' w3 → Near { D with bw := some w1.heap.size } D' → Below w3.heap.size w3 w4 → w4.ownsRow w3.heap.size 94 2 gv r.given.length (flat r.given) → w4.ownsRow w3.heap.size 9 1 av r.args.length (r.args.map .string) → w4.ownsRow w3.heap.size 3 1 cv ([] : List Nat).length (([] : List Nat).map intV) →
      w4.heap[X]? = some (.cells zeroH 33 (0, 0)) ∧ HeardPut w (((((((((((w4.setCell ⟨X, 0, none⟩ (.int .i64 r.err.kind)).setCell ⟨X, 1, none⟩ (.string r.err.name)).setCell ⟨X, 2, none⟩ (.string r.err.shorts)).setCell ⟨X, 3, none⟩ (.string r.err.value)).setCell ⟨X, 4, none⟩ (.int .i64 r.err.place)).setCell ⟨X, 5, none⟩ gv).setCell ⟨X, 6, none⟩ av).setCell ⟨X, 7, none⟩ (.int .i64 r.dash)).setCell ⟨X, 8, none⟩ cv).setCell ⟨X, 9, none⟩ (.bool true)).setCell ⟨X, 10, none⟩ (.bool false)) X r [] := fun w3 w4 D' gv av cv j1 n1 hb4 hg4 ha4 hc4 => by
    have hb3 : Below D.base D.w0 w3 := by
      have q := j1.bel
      rw [St.base, n1.w0] at q
      exact q
    have hbw3 : Below w.heap.size w w3 := HBEL.out.trans (hb3.mono (by rw [hbase]; omega))
    have hX3 : w3.heap[X]? = some (.cells zeroH 33 (0, 0)) := (HKB.out _ hb3 _ lX).trans HH2.out
    have hX4 := (hb4.block _ (lt_of_block hX3)).trans hX3
    exact ⟨hX4, heardPut_of (Below.after hbw3 hb4) (lt_of_block hX3) hbw3.size hX4 hg4 ha4 hc4⟩
  have HFIN := Lib.hid FIN
  have HZB : Hid (∀ (w3 : World) (D' : St), Inv D' w3 → Near { D with bw := some w1.heap.size } D' → w3.cell? ⟨w1.heap.size, 0, none⟩ = some (ptr D.Wb)) := Lib.hid (fun w3 D' j1 n1 => by
    have q := j1.hbw w1.heap.size (by rw [n1.eq])
    rw [n1.Wb] at q
    exact cell_of_one q)
  clear NEXT FIN d0 d1 k1 hr h0 h1 h2 hv ht hs fr i1 i2 hbel hb0 hbb hbad HA
  go_wp2_with fail
  have d0 := S1.out.1
  have d1 := S1.out.2
  go_region_with (first
    | (go_at_call 56; refine CP.out.mono ?_; rintro e w3 ⟨ev, D', rfl, j1, n1, r1, e1⟩; have zb := HZB.out _ _ j1 n1))
  all_goals (go_wp2_with fail)
  all_goals (refine (HNEXT.out _ _ _ j1 n1 r1 e1).mono ?_; rintro e w4 ⟨⟨gv, av, cv, rfl, hg4, ha4, hc4⟩, hb4⟩; obtain ⟨ga, gc, rfl⟩ := row_form hg4; obtain ⟨aa, ac, rfl⟩ := row_form ha4; obtain ⟨ca, cc, rfl⟩ := row_form hc4; obtain ⟨hX4, hput⟩ := HFIN.out _ _ _ _ _ _ j1 n1 hb4 hg4 ha4 hc4; simp only [hCells]; have x0 := cell_of hX4 0 (.int .i64 0) rfl; have x1 := cell_of hX4 1 (.string ⟨#[]⟩) rfl; have x2 := cell_of hX4 2 (.string ⟨#[]⟩) rfl; have x3 := cell_of hX4 3 (.string ⟨#[]⟩) rfl; have x4 := cell_of hX4 4 (.int .i64 0) rfl; have x5 := cell_of hX4 5 (.slice none 0 0) rfl; have x6 := cell_of hX4 6 (.slice none 0 0) rfl; have x7 := cell_of hX4 7 (.int .i64 0) rfl; have x8 := cell_of hX4 8 (.slice none 0 0) rfl; have x9 := cell_of hX4 9 (.bool false) rfl; have x10 := cell_of hX4 10 (.bool false) rfl; have xf : ∀ i, w4.frozen? ⟨X, i, none⟩ = false := fun i => by simp [World.frozen?, hX4])
  all_goals (go_wp2_with fail)
  all_goals go_end0
  all_goals rw [HRR.out]
  all_goals exact ⟨rfl, hput⟩
end Go.Proofs.Ytcpjdgbnfjdakaa
