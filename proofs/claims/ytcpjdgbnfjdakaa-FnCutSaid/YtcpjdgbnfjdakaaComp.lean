/- The walk of complete14: that arguments are whole. (Printed by gen_comp.py.) -/
import Derived.Test.YtcpjdgbnfjdakaaLives
import Derived.Test.YtcpjdgbnfjdakaaGrows
namespace Go.Proofs.Ytcpjdgbnfjdakaa
open Go.RowKit
set_option linter.unusedVariables false
set_option linter.unusedSimpArgs false

set_option maxRecDepth 100000 in
set_option maxHeartbeats 3200000 in
theorem complete14_any (fv v : Value) (plain unk : Bool) (fold : Int) (s : SetD) (w : World) (hv : FlagRows w fv s.flags) (hp : s.plain = plain) (hu : s.unknown = unk) (hlo : s.lo = (fold == 1 || fold == 3)) (hda : s.da = (fold == 2 || fold == 3)) (R : RightP s s.flags)
    (l : List ByteArray) (ht : Texts w v l) (hs : ∀ t ∈ l, t.size ≤ 4294967295) (hl : l.length ≤ 1048576) (hg : bytesOf l ≤ 1048576) :
    Calls Try.prog 31 #[.agg #[fv, .bool plain, .bool unk, .int .i64 fold], v] w fun e w' => Tells (WholeA s l) e ∧ Below w.heap.size w w' := by
  obtain ⟨fa, fc, rfl⟩ : ∃ a c, fv = .slice a s.flags.length c := by obtain ⟨a, c, e, _⟩ := hv; exact ⟨a, c, e⟩
  obtain ⟨va, vc, rfl, hvc⟩ := ht.len
  obtain ⟨w1, hw1⟩ : ∃ w1, w.alloc (.cells #[.slice fa s.flags.length fc, .bool plain, .bool unk, .int .i64 fold] 24) = w1 := ⟨_, rfl⟩
  have hb1 : Below w.heap.size w w1 := by rw [← hw1]; (repeat (first | (with_reducible exact Below.refl _ _) | (with_reducible assumption) | ((with_reducible refine Below.alloc ?_ ?_ _); rotate_left; focus ((try simp only [World.size_alloc, size_setCell, World.heap_drewN]); (try omega); done)) | ((with_reducible refine Below.setCell ?_ ?_ _); rotate_left; focus ((try simp only [World.size_alloc, size_setCell, World.heap_drewN]); (try omega); done)) | (with_reducible refine Below.drewN' ?_) | (with_reducible refine Below.drew ?_)))
  have hX : w1.heap[w.heap.size]? = some (.cells #[.slice fa s.flags.length fc, .bool plain, .bool unk, .int .i64 fold] 24 (0, 0)) := by rw [← hw1]; exact heap_at _ _ _ rfl
  have cells : ∀ w', Below w1.heap.size w1 w' → w'.cell? ⟨w.heap.size, 0, none⟩ = some (.slice fa s.flags.length fc) ∧ w'.cell? ⟨w.heap.size, 1, none⟩ = some (.bool plain) ∧ w'.cell? ⟨w.heap.size, 2, none⟩ = some (.bool unk) ∧ w'.cell? ⟨w.heap.size, 3, none⟩ = some (.int .i64 fold) := fun w' h => by
    have e := (h.block _ (lt_of_block hX)).trans hX
    simp only [World.cell?, e]
    exact ⟨rfl, rfl, rfl, rfl⟩
  have HC := Lib.hid cells
  have HW := Lib.hid (fun w' (h : Below w1.heap.size w1 w') => Below.after hb1 h)
  have HT := Lib.hid (fun w' (h : Below w1.heap.size w1 w') => ht.later (Below.after hb1 h).block)
  have HPA := Lib.hid (fun W (hb : Below w1.heap.size w1 W) => implParse_own (.slice fa s.flags.length fc) (.slice va l.length vc) plain unk fold s W (hv.later (Below.after hb1 hb).block) hp hu hlo hda R l (HT.out W hb) hs (by omega) (by omega))
  have HPB := Lib.hid (fun W v' (hb : Below w1.heap.size w1 W) (ht' : Texts W v' (l ++ [(⟨#[122]⟩ : ByteArray)])) => implParse_own (.slice fa s.flags.length fc) v' plain unk fold s W (hv.later (Below.after hb1 hb).block) hp hu hlo hda R _ ht' (by intro t h; rcases List.mem_append.1 h with h | h; exact hs t h; simp only [List.mem_singleton] at h; subst h; decide) (by simp only [List.length_append, List.length_singleton]; omega) (by rw [bytesOf_append]; have : bytesOf [(⟨#[122]⟩ : ByteArray)] = 2 := rfl; omega))
  obtain ⟨r1, hr1⟩ : ∃ r, goesF s .sets l begin0 = r := ⟨_, rfl⟩
  obtain ⟨r2, hr2⟩ : ∃ r, goesF s .sets (l ++ [(⟨#[122]⟩ : ByteArray)]) begin0 = r := ⟨_, rfl⟩
  have z1 := run_sizes s .sets l hg
  have z2 : (goesF s .sets (l ++ [(⟨#[122]⟩ : ByteArray)]) begin0).given.length ≤ 1099511627776 ∧ (goesF s .sets (l ++ [(⟨#[122]⟩ : ByteArray)]) begin0).args.length ≤ 1099511627776 := by
    have q1 : (goesF s .sets (l ++ [(⟨#[122]⟩ : ByteArray)]) begin0).given.length ≤ begin0.given.length + bytesOf (l ++ [(⟨#[122]⟩ : ByteArray)]) := goesN_given _ _ _ _ _
    have q2 : (goesF s .sets (l ++ [(⟨#[122]⟩ : ByteArray)]) begin0).args.length ≤ begin0.args.length + (l ++ [(⟨#[122]⟩ : ByteArray)]).length := goes_args _ _ _ _ _
    rw [bytesOf_append] at q1
    have : bytesOf [(⟨#[122]⟩ : ByteArray)] = 2 := rfl
    simp only [begin0, List.length_nil, List.length_append, List.length_singleton] at q1 q2 ⊢
    exact ⟨by omega, by omega⟩
  have HWH : Hid (r1.err.isNone = true → ¬ 0 ≤ r1.dash → ¬ (plain = true ∧ 0 < r1.args.length) → r2.args = r1.args ++ [(⟨#[122]⟩ : ByteArray)] → WholeA s l) := Lib.hid (by
    subst hr1; subst hr2; subst hp
    exact fun a b c d => whole_of (z := ⟨#[122]⟩) (by decide) a b c d)
  rw [hr1] at HPA z1
  rw [hr2] at HPB z2
  have HZ1 := Lib.hid z1
  have HAL : Hid (r1.args.length ≤ 1048576) := Lib.hid (by
    rw [← hr1]
    have q : (goesF s .sets l begin0).args.length ≤ begin0.args.length + l.length := goes_args _ _ _ _ _
    simp only [begin0, List.length_nil] at q ⊢; omega)
  have HZ2 := Lib.hid z2
  obtain ⟨a0, a1, a2, a3⟩ := cells w1 (Below.refl _ _)
  have b1r := Below.refl w1.heap.size w1
  generalize chgU r1.given s.flags.length = c1 at *
  generalize chgU r2.given s.flags.length = c2 at *
  clear cells hr1 hr2 hv ht hX z1 z2 hp hu hlo hda R hs hb1
  go_enter Try.func31, Try.ntmps31
  go_upto_region 1 with fail
  go_cut [5] from 7 to 10 (fun v5 wx => HeardVar w1 w1.heap.size wx v5 r1 c1)
  case first =>
    go_wp2_with fail
    refine (HPA.out _ b1r).mono ?_
    rintro e w2 ⟨⟨ga, gc, aa, ac, ca, cc, rfl, hrows⟩, hb2⟩
    have HV := Lib.hid (heardVar_new (base := w1.heap.size) hb2 hb2.size hrows)
    simp only [hCells]
    clear hrows
    go_wp2_with fail
    go_meet
    exact HV.out
  case rest =>
  obtain ⟨B, ga, gc, aa, ac, ca, cc, rfl, hB, HVC, HVR, hb3⟩ := hcut.cells
  have HHC := Lib.hid HVC
  have HHR := Lib.hid HVR
  obtain ⟨w3, rfl⟩ : ∃ w3 : World, w3 = wc := ⟨_, rfl⟩
  clear a0 a1 a2 a3 hw1 HVC HVR hcut
  have b3r := Below.refl w3.heap.size w3
  obtain ⟨y0, -, -, -, -, y5, y6, y7, -⟩ := HHC.out _ b3r
  obtain ⟨a0, a1, a2, a3⟩ := HC.out _ hb3
  cases hn : r1.err.isNone with
  | false =>
    have k : (r1.err.kind != 0) = true := by rw [bne_iff_ne]; intro e; rw [kind_none.1 e] at hn; cases hn
    go_wp2_with fail
    go_ret
    exact ⟨Tells.no rfl, HW.out _ hb3⟩
  | true =>
    have k0 := kind_none.2 hn
    have k : (r1.err.kind != 0) = false := by rw [k0]; rfl
    have HK0 := Lib.hid k0
    clear k0
    by_cases hd : 0 ≤ r1.dash
    · go_wp2_with fail
      go_wp2_with fail
      go_ret
      exact ⟨Tells.no rfl, HW.out _ hb3⟩
    by_cases hpa : plain = true ∧ 0 < r1.args.length
    · obtain ⟨rfl, hpl⟩ := hpa
      go_wp2_with fail
      go_ret
      exact ⟨Tells.no rfl, HW.out _ hb3⟩
    have hpa' : (plain && decide ((0 : Int) < (r1.args.length : Int))) = false := by
      cases plain
      · rfl
      · simp only [Bool.true_and, decide_eq_false_iff_not]
        intro h; exact hpa ⟨rfl, by omega⟩
    have HPA' := Lib.hid hpa'
    have HPAN := Lib.hid hpa
    go_upto_region 2 with fail
    go_cut [27] from 10 to 28 (fun v27 wx => v27 = .bool false ∧ wx = w3)
    case first =>
      cases plain with
      | false =>
        go_wp2_with fail
        go_meet
        exact ⟨rfl, rfl⟩
      | true =>
        have q := HPA'.out
        simp only [Bool.true_and] at q
        have q2 : ¬ 0 < r1.args.length := fun h => HPAN.out ⟨rfl, h⟩
        clear hpa hpa'
        go_wp2_with fail
        go_meet
        first | exact ⟨rfl, rfl⟩ | trivial | simp
    case rest =>
    obtain ⟨rfl, rfl⟩ := hcut
    obtain ⟨w3, rfl⟩ : ∃ w3 : World, w3 = wc := ⟨_, rfl⟩
    clear hpa hpa' y0 y5 y6 y7 k HPA
    have hll : (l ++ [(⟨#[122]⟩ : ByteArray)]).length ≤ 1099511627776 := by simp only [List.length_append, List.length_singleton]; omega
    have HL0 : (∀ (W : World) (p q : Nat), Below w1.heap.size w1 W → W.heap[p]? = some (.cells #[.slice va l.length vc, .slice (some ⟨q, 0, none⟩) 1 1] 25 (0, 0)) → W.heap[q]? = some (.cells #[.string ⟨#[122]⟩] 9 (0, 0)) → Calls Try.prog 33 #[.slice (some ⟨p, 0, none⟩) 2 2] W fun e w' => (∃ rv, e = .returned rv ∧ Texts w' rv (l ++ [(⟨#[122]⟩ : ByteArray)])) ∧ Below W.heap.size W w') :=
      (fun W p q hb h1 h2 => list2h_any _ _ W p h1 (HT.out W hb).strs (Strs.made [(⟨#[122]⟩ : ByteArray)] 1 h2) hll)
    have HPB0 := HPB.out
    generalize l ++ [(⟨#[122]⟩ : ByteArray)] = lz at HL0 HPB0
    have HL := Lib.hid HL0
    have HPC := Lib.hid HPB0
    clear HL0 HPB0 HPB
    have hb3d := hb3.drew
    have hs3 := hb3.size
    clear hll
    go_upto_region 4 with fail
    go_cut [6] from 28 to 34 (fun v6 wx => HeardVar w3 w3.heap.size wx v6 r2 c2)
    case first =>
      go_region_held3 (fun wx => wx.cell? ⟨w.heap.size, 0, none⟩ = some (.slice fa s.flags.length fc) ∧ wx.cell? ⟨w.heap.size, 1, none⟩ = some (.bool plain) ∧ wx.cell? ⟨w.heap.size, 2, none⟩ = some (.bool unk) ∧ wx.cell? ⟨w.heap.size, 3, none⟩ = some (.int .i64 fold))
        (first
          | (with_reducible refine HC.out _ ?_; ((repeat (first | (with_reducible exact Below.refl _ _) | (with_reducible assumption) | ((with_reducible refine Below.alloc ?_ ?_ _); rotate_left; focus ((try simp only [World.size_alloc, size_setCell, World.heap_drewN, size_drew]); (try omega); done)) | ((with_reducible refine Below.setCell ?_ ?_ _); rotate_left; focus ((try simp only [World.size_alloc, size_setCell, World.heap_drewN, size_drew]); (try omega); done)) | (with_reducible refine Below.drewN' ?_) | (with_reducible refine Below.drew ?_))); done)))
        (first
          | (go_simp; go_at_call 33; (first | (refine (HL.out _ _ w3.heap.size ?_ ?_ ?_).mono ?_; ((focus (((repeat (first | (with_reducible exact Below.refl _ _) | (with_reducible assumption) | ((with_reducible refine Below.alloc ?_ ?_ _); rotate_left; focus ((try simp only [World.size_alloc, size_setCell, World.heap_drewN, size_drew]); (try omega); done)) | ((with_reducible refine Below.setCell ?_ ?_ _); rotate_left; focus ((try simp only [World.size_alloc, size_setCell, World.heap_drewN, size_drew]); (try omega); done)) | (with_reducible refine Below.drewN' ?_) | (with_reducible refine Below.drew ?_))); done)))); ((focus (((repeat (first | (with_reducible assumption) | ((with_reducible refine heap_past' ?_ ?_); focus ((try simp only [World.size_alloc, size_setCell, World.heap_drewN, size_drew]); (try omega); done)) | ((with_reducible refine heap_at _ _ _ ?_); focus ((try simp only [World.size_alloc, size_setCell, World.heap_drewN, size_drew]); (try omega); done)) | ((with_reducible refine heap_ne' ?_ ?_); focus ((try simp only [World.size_alloc, size_setCell, World.heap_drewN, size_drew]); (try omega); done)) | (with_reducible refine heap_drew' ?_) | (with_reducible refine heap_drew1' ?_))); done)))); (focus (((repeat (first | (with_reducible assumption) | ((with_reducible refine heap_past' ?_ ?_); focus ((try simp only [World.size_alloc, size_setCell, World.heap_drewN, size_drew]); (try omega); done)) | ((with_reducible refine heap_at _ _ _ ?_); focus ((try simp only [World.size_alloc, size_setCell, World.heap_drewN, size_drew]); (try omega); done)) | ((with_reducible refine heap_ne' ?_ ?_); focus ((try simp only [World.size_alloc, size_setCell, World.heap_drewN, size_drew]); (try omega); done)) | (with_reducible refine heap_drew' ?_) | (with_reducible refine heap_drew1' ?_))); done)))) | (refine (HL.out _ _ (w3.heap.size + 1) ?_ ?_ ?_).mono ?_; ((focus (((repeat (first | (with_reducible exact Below.refl _ _) | (with_reducible assumption) | ((with_reducible refine Below.alloc ?_ ?_ _); rotate_left; focus ((try simp only [World.size_alloc, size_setCell, World.heap_drewN, size_drew]); (try omega); done)) | ((with_reducible refine Below.setCell ?_ ?_ _); rotate_left; focus ((try simp only [World.size_alloc, size_setCell, World.heap_drewN, size_drew]); (try omega); done)) | (with_reducible refine Below.drewN' ?_) | (with_reducible refine Below.drew ?_))); done)))); ((focus (((repeat (first | (with_reducible assumption) | ((with_reducible refine heap_past' ?_ ?_); focus ((try simp only [World.size_alloc, size_setCell, World.heap_drewN, size_drew]); (try omega); done)) | ((with_reducible refine heap_at _ _ _ ?_); focus ((try simp only [World.size_alloc, size_setCell, World.heap_drewN, size_drew]); (try omega); done)) | ((with_reducible refine heap_ne' ?_ ?_); focus ((try simp only [World.size_alloc, size_setCell, World.heap_drewN, size_drew]); (try omega); done)) | (with_reducible refine heap_drew' ?_) | (with_reducible refine heap_drew1' ?_))); done)))); (focus (((repeat (first | (with_reducible assumption) | ((with_reducible refine heap_past' ?_ ?_); focus ((try simp only [World.size_alloc, size_setCell, World.heap_drewN, size_drew]); (try omega); done)) | ((with_reducible refine heap_at _ _ _ ?_); focus ((try simp only [World.size_alloc, size_setCell, World.heap_drewN, size_drew]); (try omega); done)) | ((with_reducible refine heap_ne' ?_ ?_); focus ((try simp only [World.size_alloc, size_setCell, World.heap_drewN, size_drew]); (try omega); done)) | (with_reducible refine heap_drew' ?_) | (with_reducible refine heap_drew1' ?_))); done))))); rintro e w6 ⟨⟨rv, rfl, ht6⟩, hb6⟩; have hB6 : Below w1.heap.size w1 w6 := Below.after (by ((repeat (first | (with_reducible exact Below.refl _ _) | (with_reducible assumption) | ((with_reducible refine Below.alloc ?_ ?_ _); rotate_left; focus ((try simp only [World.size_alloc, size_setCell, World.heap_drewN, size_drew]); (try omega); done)) | ((with_reducible refine Below.setCell ?_ ?_ _); rotate_left; focus ((try simp only [World.size_alloc, size_setCell, World.heap_drewN, size_drew]); (try omega); done)) | (with_reducible refine Below.drewN' ?_) | (with_reducible refine Below.drew ?_))); done)) hb6; have hC6 : Below w3.heap.size w3 w6 := Below.after (by ((repeat (first | (with_reducible exact Below.refl _ _) | (with_reducible assumption) | ((with_reducible refine Below.alloc ?_ ?_ _); rotate_left; focus ((try simp only [World.size_alloc, size_setCell, World.heap_drewN, size_drew]); (try omega); done)) | ((with_reducible refine Below.setCell ?_ ?_ _); rotate_left; focus ((try simp only [World.size_alloc, size_setCell, World.heap_drewN, size_drew]); (try omega); done)) | (with_reducible refine Below.drewN' ?_) | (with_reducible refine Below.drew ?_))); done)) hb6; have hs6 := hb6.size; (try simp only [World.size_alloc, World.heap_drewN, size_drew] at hs6); (first | ((refine lay (T := w6.heap[w3.heap.size]? = some (.cells zeroH 33 (0, 0))) ?_ (fun hz6 => ?_)); (focus (refine (hb6.block _ ?_).trans ?_; (focus (((try simp only [World.size_alloc, size_setCell, World.heap_drewN, size_drew]); (try omega); done))); unfold zeroH; ((repeat (first | (with_reducible assumption) | ((with_reducible refine heap_past' ?_ ?_); focus ((try simp only [World.size_alloc, size_setCell, World.heap_drewN, size_drew]); (try omega); done)) | ((with_reducible refine heap_at _ _ _ ?_); focus ((try simp only [World.size_alloc, size_setCell, World.heap_drewN, size_drew]); (try omega); done)) | ((with_reducible refine heap_ne' ?_ ?_); focus ((try simp only [World.size_alloc, size_setCell, World.heap_drewN, size_drew]); (try omega); done)) | (with_reducible refine heap_drew' ?_) | (with_reducible refine heap_drew1' ?_))); done)))) | ((refine lay (T := w6.heap[w3.heap.size + 1]? = some (.cells zeroH 33 (0, 0))) ?_ (fun hz6 => ?_)); (focus (refine (hb6.block _ ?_).trans ?_; (focus (((try simp only [World.size_alloc, size_setCell, World.heap_drewN, size_drew]); (try omega); done))); unfold zeroH; ((repeat (first | (with_reducible assumption) | ((with_reducible refine heap_past' ?_ ?_); focus ((try simp only [World.size_alloc, size_setCell, World.heap_drewN, size_drew]); (try omega); done)) | ((with_reducible refine heap_at _ _ _ ?_); focus ((try simp only [World.size_alloc, size_setCell, World.heap_drewN, size_drew]); (try omega); done)) | ((with_reducible refine heap_ne' ?_ ?_); focus ((try simp only [World.size_alloc, size_setCell, World.heap_drewN, size_drew]); (try omega); done)) | (with_reducible refine heap_drew' ?_) | (with_reducible refine heap_drew1' ?_))); done)))) | ((refine lay (T := w6.heap[w3.heap.size + 1 + 1]? = some (.cells zeroH 33 (0, 0))) ?_ (fun hz6 => ?_)); (focus (refine (hb6.block _ ?_).trans ?_; (focus (((try simp only [World.size_alloc, size_setCell, World.heap_drewN, size_drew]); (try omega); done))); unfold zeroH; ((repeat (first | (with_reducible assumption) | ((with_reducible refine heap_past' ?_ ?_); focus ((try simp only [World.size_alloc, size_setCell, World.heap_drewN, size_drew]); (try omega); done)) | ((with_reducible refine heap_at _ _ _ ?_); focus ((try simp only [World.size_alloc, size_setCell, World.heap_drewN, size_drew]); (try omega); done)) | ((with_reducible refine heap_ne' ?_ ?_); focus ((try simp only [World.size_alloc, size_setCell, World.heap_drewN, size_drew]); (try omega); done)) | (with_reducible refine heap_drew' ?_) | (with_reducible refine heap_drew1' ?_))); done)))) | skip); obtain ⟨ra, rc, rfl, -⟩ := ht6.len)
          | (go_simp; go_at_call 20; refine (HPC.out _ _ ?_ ?_).mono ?_; ((focus (((repeat (first | (with_reducible exact Below.refl _ _) | (with_reducible assumption) | ((with_reducible refine Below.alloc ?_ ?_ _); rotate_left; focus ((try simp only [World.size_alloc, size_setCell, World.heap_drewN, size_drew]); (try omega); done)) | ((with_reducible refine Below.setCell ?_ ?_ _); rotate_left; focus ((try simp only [World.size_alloc, size_setCell, World.heap_drewN, size_drew]); (try omega); done)) | (with_reducible refine Below.drewN' ?_) | (with_reducible refine Below.drew ?_))); done)))); (focus (first | exact ht6 | exact ht6.later (Below.alloc (Below.refl _ _) (Nat.le_refl _) _).block)); rintro e w7 ⟨⟨ga', gc', aa', ac', ca', cc', rfl, hrows⟩, hb7⟩; have hB7 : Below w1.heap.size w1 w7 := Below.after (by ((repeat (first | (with_reducible exact Below.refl _ _) | (with_reducible assumption) | ((with_reducible refine Below.alloc ?_ ?_ _); rotate_left; focus ((try simp only [World.size_alloc, size_setCell, World.heap_drewN, size_drew]); (try omega); done)) | ((with_reducible refine Below.setCell ?_ ?_ _); rotate_left; focus ((try simp only [World.size_alloc, size_setCell, World.heap_drewN, size_drew]); (try omega); done)) | (with_reducible refine Below.drewN' ?_) | (with_reducible refine Below.drew ?_))); done)) hb7; have hC7 : Below w3.heap.size w3 w7 := Below.after (by ((repeat (first | (with_reducible exact Below.refl _ _) | (with_reducible assumption) | ((with_reducible refine Below.alloc ?_ ?_ _); rotate_left; focus ((try simp only [World.size_alloc, size_setCell, World.heap_drewN, size_drew]); (try omega); done)) | ((with_reducible refine Below.setCell ?_ ?_ _); rotate_left; focus ((try simp only [World.size_alloc, size_setCell, World.heap_drewN, size_drew]); (try omega); done)) | (with_reducible refine Below.drewN' ?_) | (with_reducible refine Below.drew ?_))); done)) hb7; have hss := hC7.size; have hs7 := hb7.size; (try simp only [World.size_alloc, World.heap_drewN, size_drew] at hs7); (first | (have hz7 := (hb7.block _ (lt_of_block hz6)).trans hz6) | ((refine lay (T := w7.heap[w6.heap.size]? = some (.cells zeroH 33 (0, 0))) ?_ (fun hz7 => ?_)); (focus (refine (hb7.block _ ?_).trans ?_; (focus (((try simp only [World.size_alloc, size_setCell, World.heap_drewN, size_drew]); (try omega); done))); unfold zeroH; ((repeat (first | (with_reducible assumption) | ((with_reducible refine heap_past' ?_ ?_); focus ((try simp only [World.size_alloc, size_setCell, World.heap_drewN, size_drew]); (try omega); done)) | ((with_reducible refine heap_at _ _ _ ?_); focus ((try simp only [World.size_alloc, size_setCell, World.heap_drewN, size_drew]); (try omega); done)) | ((with_reducible refine heap_ne' ?_ ?_); focus ((try simp only [World.size_alloc, size_setCell, World.heap_drewN, size_drew]); (try omega); done)) | (with_reducible refine heap_drew' ?_) | (with_reducible refine heap_drew1' ?_))); done)))) | skip); simp only [hCells]; (first | (have x0 := cell_of hz7 0 (.int .i64 0) rfl; have x1 := cell_of hz7 1 (.string ⟨#[]⟩) rfl; have x2 := cell_of hz7 2 (.string ⟨#[]⟩) rfl; have x3 := cell_of hz7 3 (.string ⟨#[]⟩) rfl; have x4 := cell_of hz7 4 (.int .i64 0) rfl; have x5 := cell_of hz7 5 (.slice none 0 0) rfl; have x6 := cell_of hz7 6 (.slice none 0 0) rfl; have x7 := cell_of hz7 7 (.int .i64 0) rfl; have x8 := cell_of hz7 8 (.slice none 0 0) rfl; have x9 := cell_of hz7 9 (.bool false) rfl; have x10 := cell_of hz7 10 (.bool false) rfl; have xf := fun i => frozen_of hz7 i) | skip)))
      all_goals (go_wp2_with fail)
      all_goals go_meet
      all_goals first
        | with_reducible exact heardVar_new hC7 hss hrows
        | with_reducible exact heardVar_put hC7 (by omega) hz7 hrows
    case rest =>
    obtain ⟨B2, ga2, gc2, aa2, ac2, ca2, cc2, rfl, hB2, HVC2, HVR2, hb4⟩ := hcut.cells
    obtain ⟨w4, rfl⟩ : ∃ w4 : World, w4 = wc := ⟨_, rfl⟩
    have HC2 := Lib.hid (fun W (h : Below w4.heap.size w4 W) => (show W.cell? ⟨B2, 0, none⟩ = some (.int .i64 r2.err.kind) ∧ W.cell? ⟨B, 5, none⟩ = some (.slice ga r1.given.length gc) ∧ W.cell? ⟨B2, 5, none⟩ = some (.slice ga2 r2.given.length gc2) ∧ W.cell? ⟨B, 6, none⟩ = some (.slice aa r1.args.length ac) ∧ W.cell? ⟨B2, 6, none⟩ = some (.slice aa2 r2.args.length ac2) from by
      obtain ⟨p0, p1, p2, p3, p4, p5, p6, -⟩ := HVC2 W h
      obtain ⟨q0, q1, q2, q3, q4, q5, q6, -⟩ := HHC.out W (Below.after hb4 h)
      exact ⟨p0, q5, p5, q6, p6⟩))
    have hb5 := Below.after hb3 hb4
    have HG := Lib.hid (fun W (h : Below w4.heap.size w4 W) => sameGiven_any _ _ r1.given r2.given W (HHR.out W (Below.after hb4 h)).1 (HVR2 W h).1 HZ1.out.1 HZ2.out.1)
    have HR1 := Lib.hid (fun W (h : Below w4.heap.size w4 W) => (HHR.out W (Below.after hb4 h)).2.1)
    have HR2 := Lib.hid (fun W (h : Below w4.heap.size w4 W) => (HVR2 W h).2.1)
    obtain ⟨y0, y1, y2, y3, y4⟩ := HC2.out _ (Below.refl _ _)
    clear HVC2 HVR2 hcut HHC HHR a0 a1 a2 a3 hB hB2 hs3 hb3d HPC HL
    have b4r := Below.refl w4.heap.size w4
    have b4d := b4r.drew
    cases hn2 : r2.err.isNone with
    | false =>
      have k2 : (r2.err.kind == 0) = false := by rw [beq_eq_false_iff_ne]; intro e; rw [kind_none.1 e] at hn2; cases hn2
      go_wp2_with fail
      go_quiet (fail)
      go_wp2_with fail
      go_ret
      exact ⟨Tells.no rfl, HW.out _ (Below.drewN' hb5)⟩
    | true =>
      have k2 : (r2.err.kind == 0) = true := by rw [kind_none.2 hn2]; rfl
      by_cases hgv : r1.given = r2.given
      · have HGT := Lib.hid (fun W (h : Below w4.heap.size w4 W) => (show Calls Try.prog 35 #[.slice ga r1.given.length gc, .slice ga2 r2.given.length gc2] W (fun e w' => e = .returned (.bool true) ∧ Drawn W w') from by rw [← decide_eq_true hgv]; exact HG.out W h))
        have hal : (r1.args ++ [(⟨#[122]⟩ : ByteArray)]).length ≤ 1099511627776 := by
          have := HAL.out
          simp only [List.length_append, List.length_singleton]; omega
        have HLA : Hid (∀ (W : World) (p q : Nat), Below w4.heap.size w4 W → W.heap[p]? = some (.cells #[.slice aa r1.args.length ac, .slice (some ⟨q, 0, none⟩) 1 1] 25 (0, 0)) → W.heap[q]? = some (.cells #[.string ⟨#[122]⟩] 9 (0, 0)) → Calls Try.prog 33 #[.slice (some ⟨p, 0, none⟩) 2 2] W fun e w' => (∃ rv, e = .returned rv ∧ Texts w' rv (r1.args ++ [(⟨#[122]⟩ : ByteArray)])) ∧ Below W.heap.size W w') :=
          Lib.hid (fun W p q hb h1 h2 => list2h_any _ _ W p h1 (HR1.out W hb).strs (Strs.made [(⟨#[122]⟩ : ByteArray)] 1 h2) hal)
        have HST := Lib.hid (fun W (h : Below w4.heap.size w4 W) (rv : Value) (ht : Texts W rv (r1.args ++ [(⟨#[122]⟩ : ByteArray)])) => sameTexts_any rv _ (r1.args ++ [(⟨#[122]⟩ : ByteArray)]) r2.args W ht.strs (HR2.out W h).strs hal HZ2.out.2)
        have HFIN : Hid (Tells (WholeA s l) (.returned (.bool (decide (r1.args ++ [(⟨#[122]⟩ : ByteArray)] = r2.args))))) := Lib.hid (by
          by_cases he : r1.args ++ [(⟨#[122]⟩ : ByteArray)] = r2.args
          · exact Tells.yes (by rw [decide_eq_true he]) (HWH.out hn hd HPAN.out he.symm)
          · exact Tells.no (by rw [decide_eq_false he]))
        clear hgv HG hal HWH
        generalize r1.args ++ [(⟨#[122]⟩ : ByteArray)] = lz at *
        generalize decide (lz = r2.args) = dz at *
        go_wp2_with fail
        go_region_held3 (fun W => W.cell? ⟨B2, 0, none⟩ = some (.int .i64 r2.err.kind) ∧ W.cell? ⟨B, 5, none⟩ = some (.slice ga r1.given.length gc) ∧ W.cell? ⟨B2, 5, none⟩ = some (.slice ga2 r2.given.length gc2) ∧ W.cell? ⟨B, 6, none⟩ = some (.slice aa r1.args.length ac) ∧ W.cell? ⟨B2, 6, none⟩ = some (.slice aa2 r2.args.length ac2))
          (first
            | (with_reducible refine HC2.out _ ?_; ((repeat (first | (with_reducible exact Below.refl _ _) | (with_reducible assumption) | ((with_reducible refine Below.alloc ?_ ?_ _); rotate_left; focus ((try simp only [World.size_alloc, size_setCell, World.heap_drewN, size_drew]); (try omega); done)) | ((with_reducible refine Below.setCell ?_ ?_ _); rotate_left; focus ((try simp only [World.size_alloc, size_setCell, World.heap_drewN, size_drew]); (try omega); done)) | (with_reducible refine Below.drewN' ?_) | (with_reducible refine Below.drew ?_))); done)))
          (first
            | (go_simp; go_at_call 35; refine (HGT.out _ b4d).mono ?_; rintro e w5 ⟨rfl, hd5⟩; have hB5 := Below.after b4d hd5.below; have hs5 := hB5.size)
            | (go_simp; go_at_call 33; (refine (HLA.out _ _ w5.heap.size ?_ ?_ ?_).mono ?_; (focus (((repeat (first | (with_reducible exact Below.refl _ _) | (with_reducible assumption) | ((with_reducible refine Below.alloc ?_ ?_ _); rotate_left; focus ((try simp only [World.size_alloc, size_setCell, World.heap_drewN, size_drew]); (try omega); done)) | ((with_reducible refine Below.setCell ?_ ?_ _); rotate_left; focus ((try simp only [World.size_alloc, size_setCell, World.heap_drewN, size_drew]); (try omega); done)) | (with_reducible refine Below.drewN' ?_) | (with_reducible refine Below.drew ?_))); done))); (focus (((repeat (first | (with_reducible assumption) | ((with_reducible refine heap_past' ?_ ?_); focus ((try simp only [World.size_alloc, size_setCell, World.heap_drewN, size_drew]); (try omega); done)) | ((with_reducible refine heap_at _ _ _ ?_); focus ((try simp only [World.size_alloc, size_setCell, World.heap_drewN, size_drew]); (try omega); done)) | ((with_reducible refine heap_ne' ?_ ?_); focus ((try simp only [World.size_alloc, size_setCell, World.heap_drewN, size_drew]); (try omega); done)) | (with_reducible refine heap_drew' ?_) | (with_reducible refine heap_drew1' ?_))); done))); (focus (((repeat (first | (with_reducible assumption) | ((with_reducible refine heap_past' ?_ ?_); focus ((try simp only [World.size_alloc, size_setCell, World.heap_drewN, size_drew]); (try omega); done)) | ((with_reducible refine heap_at _ _ _ ?_); focus ((try simp only [World.size_alloc, size_setCell, World.heap_drewN, size_drew]); (try omega); done)) | ((with_reducible refine heap_ne' ?_ ?_); focus ((try simp only [World.size_alloc, size_setCell, World.heap_drewN, size_drew]); (try omega); done)) | (with_reducible refine heap_drew' ?_) | (with_reducible refine heap_drew1' ?_))); done)))); rintro e w6 ⟨⟨rv, rfl, ht6⟩, hb6⟩; have hB6 : Below w4.heap.size w4 w6 := Below.after (by ((repeat (first | (with_reducible exact Below.refl _ _) | (with_reducible assumption) | ((with_reducible refine Below.alloc ?_ ?_ _); rotate_left; focus ((try simp only [World.size_alloc, size_setCell, World.heap_drewN, size_drew]); (try omega); done)) | ((with_reducible refine Below.setCell ?_ ?_ _); rotate_left; focus ((try simp only [World.size_alloc, size_setCell, World.heap_drewN, size_drew]); (try omega); done)) | (with_reducible refine Below.drewN' ?_) | (with_reducible refine Below.drew ?_))); done)) hb6; have hs6 := hB6.size; obtain ⟨ra, rc, rfl, -⟩ := ht6.len)
            | (go_simp; go_at_call 28; refine (HST.out _ hB6 _ ht6).mono ?_; rintro e w7 ⟨rfl, hd7⟩; have hB7 := Below.after hB6 hd7.below))
        all_goals (go_wp2_with fail)
        all_goals go_ret
        all_goals exact ⟨HFIN.out, HW.out _ (Below.after hb5 hB7)⟩
      · have HGF := Lib.hid (fun W (h : Below w4.heap.size w4 W) => (show Calls Try.prog 35 #[.slice ga r1.given.length gc, .slice ga2 r2.given.length gc2] W (fun e w' => e = .returned (.bool false) ∧ Drawn W w') from by rw [← decide_eq_false hgv]; exact HG.out W h))
        clear hgv HG
        go_wp2_with fail
        go_quiet ((go_at_call 35; exact Calls.quiet_of (HGF.out _ (Below.drewN' b4r))))
        go_wp2_with fail
        go_ret
        exact ⟨Tells.no rfl, HW.out _ (Below.drewN' hb5)⟩
end Go.Proofs.Ytcpjdgbnfjdakaa
