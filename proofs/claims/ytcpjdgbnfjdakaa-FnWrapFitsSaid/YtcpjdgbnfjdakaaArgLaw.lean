/- The walks of impl.Arg and of the law FnArg. -/
import Derived.Test.YtcpjdgbnfjdakaaImplA
import Derived.Test.YtcpjdgbnfjdakaaSpecI
import Derived.Test.YtcpjdgbnfjdakaaSpecR
import Derived.Test.YtcpjdgbnfjdakaaGuard
namespace Go.Proofs.Ytcpjdgbnfjdakaa
open Go.RowKit
set_option linter.unusedVariables false
set_option linter.unusedSimpArgs false

set_option maxRecDepth 100000 in
theorem implArg_any (fv v : Value) (plain unk : Bool) (fold i : Int) (s : SetD) (w : World) (hv : FlagRows w fv s.flags) (hp : s.plain = plain) (hu : s.unknown = unk) (hlo : s.lo = (fold == 1 || fold == 3)) (hda : s.da = (fold == 2 || fold == 3)) (R : RightP s s.flags)
    (l : List ByteArray) (ht : Texts w v l) (hs : ∀ t ∈ l, t.size ≤ 4294967295) (hl : l.length ≤ 2147483647) (hg : bytesOf l ≤ 1099511627776) :
    Calls Try.prog 29 #[.agg #[fv, .bool plain, .bool unk, .int .i64 fold], v, .int .i64 i] w fun e w' => e = .returned (.tuple #[.string (argF (goesF s .sets l begin0).args i), .int .i64 ((goesF s .sets l begin0).args.length : Int)]) ∧ Below w.heap.size w w' := by
  have hmf : ∀ (fn : Fn) (first cap : Array Value) (w : World), (Instr.makeFunc fn first cap).run Try.prog w = .ok (.func fn first cap) w := fun _ _ _ _ => rfl
  obtain ⟨fa, fc, rfl⟩ : ∃ a c, fv = .slice a s.flags.length c := by obtain ⟨a, c, e, _⟩ := hv; exact ⟨a, c, e⟩
  obtain ⟨va, vc, rfl, hvc⟩ := ht.len
  obtain ⟨w5, hw5⟩ : ∃ w5, (((((w.alloc (.cells #[.slice fa s.flags.length fc, .bool plain, .bool unk, .int .i64 fold] 24)).alloc (.cells #[.slice va l.length vc] 25)).alloc (.cells #[.int .i64 i] 3)).alloc (.cells #[.string ⟨#[]⟩] 9)).alloc (.cells #[.int .i64 0] 3)) = w5 := ⟨_, rfl⟩
  have g0 : w5.heap[w.heap.size]? = some (.cells #[.slice fa s.flags.length fc, .bool plain, .bool unk, .int .i64 fold] 24 (0, 0)) := by rw [← hw5]; (repeat (first | (with_reducible assumption) | ((with_reducible refine heap_past' ?_ ?_); focus ((try simp only [World.size_alloc, size_setCell, World.heap_drewN]); (try omega); done)) | ((with_reducible refine heap_at _ _ _ ?_); focus ((try simp only [World.size_alloc, size_setCell, World.heap_drewN]); (try omega); done)) | ((with_reducible refine heap_ne' ?_ ?_); focus ((try simp only [World.size_alloc, size_setCell, World.heap_drewN]); (try omega); done)) | (with_reducible refine heap_drew' ?_)))
  have g1 : w5.heap[w.heap.size + 1]? = some (.cells #[.slice va l.length vc] 25 (0, 0)) := by rw [← hw5]; (repeat (first | (with_reducible assumption) | ((with_reducible refine heap_past' ?_ ?_); focus ((try simp only [World.size_alloc, size_setCell, World.heap_drewN]); (try omega); done)) | ((with_reducible refine heap_at _ _ _ ?_); focus ((try simp only [World.size_alloc, size_setCell, World.heap_drewN]); (try omega); done)) | ((with_reducible refine heap_ne' ?_ ?_); focus ((try simp only [World.size_alloc, size_setCell, World.heap_drewN]); (try omega); done)) | (with_reducible refine heap_drew' ?_)))
  have g2 : w5.heap[w.heap.size + 1 + 1]? = some (.cells #[.int .i64 i] 3 (0, 0)) := by rw [← hw5]; (repeat (first | (with_reducible assumption) | ((with_reducible refine heap_past' ?_ ?_); focus ((try simp only [World.size_alloc, size_setCell, World.heap_drewN]); (try omega); done)) | ((with_reducible refine heap_at _ _ _ ?_); focus ((try simp only [World.size_alloc, size_setCell, World.heap_drewN]); (try omega); done)) | ((with_reducible refine heap_ne' ?_ ?_); focus ((try simp only [World.size_alloc, size_setCell, World.heap_drewN]); (try omega); done)) | (with_reducible refine heap_drew' ?_)))
  have g3 : w5.heap[w.heap.size + 1 + 1 + 1]? = some (.cells #[.string ⟨#[]⟩] 9 (0, 0)) := by rw [← hw5]; (repeat (first | (with_reducible assumption) | ((with_reducible refine heap_past' ?_ ?_); focus ((try simp only [World.size_alloc, size_setCell, World.heap_drewN]); (try omega); done)) | ((with_reducible refine heap_at _ _ _ ?_); focus ((try simp only [World.size_alloc, size_setCell, World.heap_drewN]); (try omega); done)) | ((with_reducible refine heap_ne' ?_ ?_); focus ((try simp only [World.size_alloc, size_setCell, World.heap_drewN]); (try omega); done)) | (with_reducible refine heap_drew' ?_)))
  have g4 : w5.heap[w.heap.size + 1 + 1 + 1 + 1]? = some (.cells #[.int .i64 0] 3 (0, 0)) := by rw [← hw5]; (repeat (first | (with_reducible assumption) | ((with_reducible refine heap_past' ?_ ?_); focus ((try simp only [World.size_alloc, size_setCell, World.heap_drewN]); (try omega); done)) | ((with_reducible refine heap_at _ _ _ ?_); focus ((try simp only [World.size_alloc, size_setCell, World.heap_drewN]); (try omega); done)) | ((with_reducible refine heap_ne' ?_ ?_); focus ((try simp only [World.size_alloc, size_setCell, World.heap_drewN]); (try omega); done)) | (with_reducible refine heap_drew' ?_)))
  have hsz : w5.heap.size = w.heap.size + 1 + 1 + 1 + 1 + 1 := by rw [← hw5]; simp only [World.size_alloc]
  have hb5 : Below w.heap.size w w5 := by rw [← hw5]; (repeat (first | (with_reducible exact Below.refl _ _) | (with_reducible assumption) | ((with_reducible refine Below.alloc ?_ ?_ _); rotate_left; focus ((try simp only [World.size_alloc, size_setCell, World.heap_drewN]); (try omega); done)) | ((with_reducible refine Below.setCell ?_ ?_ _); rotate_left; focus ((try simp only [World.size_alloc, size_setCell, World.heap_drewN]); (try omega); done)) | (with_reducible refine Below.drewN' ?_) | (with_reducible refine Below.drew ?_)))
  have hbel6 : Below w5.heap.size w5 (w5.alloc (.cells #[.bool false] 4)) := (Below.refl _ _).alloc (Nat.le_refl _) _
  have k6 : ∀ {b o}, w5.heap[b]? = some o → (w5.alloc (.cells #[.bool false] 4)).heap[b]? = some o := fun h => (hbel6.block _ (lt_of_block h)).trans h
  have hk : ∀ b, b < w.heap.size → (w5.alloc (.cells #[.bool false] 4)).heap[b]? = w.heap[b]? := fun b hb => (hbel6.block b (by omega)).trans (hb5.block b hb)
  have hB : (w5.alloc (.cells #[.bool false] 4)).heap[w5.heap.size]? = some (.cells #[.bool false] 4 (0, 0)) := heap_at _ _ _ rfl
  have C := arg1_any w.heap.size _ _ plain unk fold i s (w5.alloc (.cells #[.bool false] 4)) (hv.later hk) hp hu hlo hda R l (ht.later hk) hs hl hg (k6 g0) (k6 g1) (k6 g2) (k6 g3) (k6 g4)
  have G := guarded_ok 67 #[ptr w.heap.size, ptr (w.heap.size + 1), ptr (w.heap.size + 1 + 1), ptr (w.heap.size + 1 + 1 + 1), ptr (w.heap.size + 1 + 1 + 1 + 1)] w5 _ w5.heap.size rfl (fun w => by simp [go_sem]) C
    (fun w' h => (h.rest _ (lt_of_block hB) (by omega) (by omega)).trans hB)
  have HG := Lib.hid G
  have HB5 := Lib.hid hb5
  have HB6 := Lib.hid hbel6
  have HSZ := Lib.hid hsz
  have HW5 := Lib.hid hw5
  clear C G k6 hk hB g0 g1 g2 g3 g4 hb5 hbel6 hsz hv ht hw5
  generalize argF (goesF s .sets l begin0).args i = A at *
  generalize (goesF s .sets l begin0).args.length = N at *
  go_enter Try.func29, Try.ntmps29
  go_wp2_with fail
  rw [HW5.out]
  refine HG.out.mono ?_
  rintro e w6 ⟨rfl, P⟩
  have c3 := cell_of_one P.b3
  have c4 := cell_of_one P.b4
  have hfin : Below w.heap.size w w6 := by
    have hsz := HSZ.out
    have q5 := HB5.out
    have q6 := HB6.out
    refine ⟨P.os.trans (q6.os.trans q5.os), P.tape.trans (q6.tape.trans q5.tape), P.output.trans (q6.output.trans q5.output), Nat.le_trans q5.size (Nat.le_trans q6.size P.size), fun b hb => ?_⟩
    exact (P.rest b (by simp; omega) (by omega) (by omega)).trans ((q6.block b (by omega)).trans (q5.block b hb))
  have HF := Lib.hid hfin
  clear hfin HG P HB5 HB6 HSZ
  go_wp2_with fail
  go_quiet (fail)
  go_wp2_with fail
  go_ret2
  exact ⟨rfl, Below.drewN' HF.out⟩

/-- The plain set of an argument. -/
def setD (fs : List FlagD) (plain unk : Bool) (fold : Int) : SetD := ⟨fs, plain, unk, fold == 1 || fold == 3, fold == 2 || fold == 3⟩

theorem right_of {fs : List FlagD} {plain unk : Bool} {fold : Int} (h : RQ (foldG (bits .and .i64 fold 1 == 1) (bits .and .i64 fold 2 == 2)) fs) (h0 : 0 ≤ fold) (h3 : fold ≤ 3) (hs : SmallFs fs) : RightP (setD fs plain unk fold) fs := by
  obtain ⟨e1, e2⟩ := and_bits fold h0 h3
  rw [e1, e2] at h
  refine ⟨h.nm, fun i f hf => ?_, h.sh, fun i f hf => ?_, hs.1⟩
  · rcases h.one f (List.mem_of_getElem? hf) with q | ⟨q, _⟩
    · exact .inl q
    · exact .inr q
  · have q := hs.2 f (List.mem_of_getElem? hf)
    exact ⟨Nat.le_trans q.1 (by decide), Nat.le_trans q.2.2.1 (by decide), q.2.2.2.1⟩

theorem field6 (v0 v1 v2 v3 v4 v5 v6 v7 v8 v9 v10 : Value) (w : World) : (Instr.field 33 (.agg #[v0, v1, v2, v3, v4, v5, v6, v7, v8, v9, v10]) 6).run Try.prog w = .ok v6 w := by kernel_rfl

theorem wide {l : List ByteArray} (h : ∀ t ∈ l, t.size ≤ 2147483647) : ∀ t ∈ l, t.size ≤ 4294967295 := fun t ht => Nat.le_trans (h t ht) (by decide)

theorem fits_one {l : List ByteArray} (h : fitsF [l] = true) : bytesOf l ≤ 1048576 := by
  simpa [fitsF, bytesOfAll] using h

set_option maxRecDepth 100000 in
set_option maxHeartbeats 1600000 in
theorem fnArg_law (fv v : Value) (plain unk : Bool) (fold i : Int) (fs : List FlagD) (l : List ByteArray) (w : World) (hv : FlagRows w fv fs) (hfl : fs.length ≤ 9223372036854775807) (hbl : ∀ f ∈ fs, f.bad.length ≤ 9223372036854775807) (ht : Texts w v l) (hll : l.length ≤ 9223372036854775807) :
    Calls Try.prog 6 #[.agg #[fv, .bool plain, .bool unk, .int .i64 fold], v, .int .i64 i] w fun e w' => e = .returned (.bool true) ∧ Below w.heap.size w w' := by
  obtain ⟨fa, fc, rfl⟩ := hv.len
  obtain ⟨va, vc, rfl, hvc⟩ := ht.len
  obtain ⟨w1, hw1⟩ : ∃ w1, w.alloc (.cells #[.slice fa fs.length fc, .bool plain, .bool unk, .int .i64 fold] 24) = w1 := ⟨_, rfl⟩
  have hb1 : Below w.heap.size w w1 := by rw [← hw1]; (repeat (first | (with_reducible exact Below.refl _ _) | (with_reducible assumption) | ((with_reducible refine Below.alloc ?_ ?_ _); rotate_left; focus ((try simp only [World.size_alloc, size_setCell, World.heap_drewN]); (try omega); done)) | ((with_reducible refine Below.setCell ?_ ?_ _); rotate_left; focus ((try simp only [World.size_alloc, size_setCell, World.heap_drewN]); (try omega); done)) | (with_reducible refine Below.drewN' ?_) | (with_reducible refine Below.drew ?_)))
  have hX : w1.heap[w.heap.size]? = some (.cells #[.slice fa fs.length fc, .bool plain, .bool unk, .int .i64 fold] 24 (0, 0)) := by rw [← hw1]; exact heap_at _ _ _ rfl
  have cells : ∀ w', Below w1.heap.size w1 w' → w'.cell? ⟨w.heap.size, 0, none⟩ = some (.slice fa fs.length fc) ∧ w'.cell? ⟨w.heap.size, 1, none⟩ = some (.bool plain) ∧ w'.cell? ⟨w.heap.size, 2, none⟩ = some (.bool unk) ∧ w'.cell? ⟨w.heap.size, 3, none⟩ = some (.int .i64 fold) := fun w' h => by
    have e := (h.block _ (lt_of_block hX)).trans hX
    simp only [World.cell?, e]
    exact ⟨rfl, rfl, rfl, rfl⟩
  have hbW : ∀ w', Below w1.heap.size w1 w' → Below w.heap.size w w' := fun w' h => Below.after hb1 h
  have HC := Lib.hid cells
  have HW := Lib.hid hbW
  have HV := Lib.hid hv
  have HT := Lib.hid ht
  obtain ⟨a0, a1, a2, a3⟩ := cells w1 (Below.refl _ _)
  have F19 := fits19_any (.slice fa fs.length fc) plain unk fold fs w1 (hv.later hb1.block) hfl hbl
  clear cells hbW hv ht hX hb1
  go_enter Try.func6, Try.ntmps6
  go_wp2_with fail
  refine F19.mono ?_
  rintro e w2 ⟨⟨b2, rfl, hsf⟩, hb2⟩
  have HSF := Lib.hid hsf
  clear hsf F19 hw1 a0 a1 a2 a3
  cases b2 with
  | false =>
    go_wp2_with fail
    go_ret
    exact ⟨rfl, HW.out _ hb2⟩
  | true =>
    have HSF1 := Lib.hid (HSF.out (by trivial))
    clear HSF
    have F2 := fits2_any (.slice va l.length vc) l w2 ((HT.out.later (HW.out _ hb2).block).strs) hll
    go_wp2_with fail
    refine F2.mono ?_
    rintro e w3 ⟨⟨b3, rfl, hsl⟩, rfl⟩
    have HSL := Lib.hid hsl
    clear hsl F2
    cases b3 with
    | false =>
      go_wp2_with fail
      go_ret
      exact ⟨rfl, HW.out _ hb2⟩
    | true =>
      have HSL1 := Lib.hid (HSL.out (by trivial))
      clear HSL
      obtain ⟨a0, a1, a2, a3⟩ := HC.out _ hb2
      have FR := right_any (.slice fa fs.length fc) fs plain unk fold w3 (HV.out.later (HW.out _ hb2).block) HSF1.out.1 (fun f hf => ⟨(HSF1.out.2 f hf).1, (HSF1.out.2 f hf).2.1⟩)
      go_wp2_with fail
      refine FR.mono ?_
      rintro e w4 ⟨⟨b4, rfl, hr⟩, hb4⟩
      have hb4 := Below.after hb2 hb4
      have HR := Lib.hid hr
      clear hr FR a0 a1 a2 a3 hb2
      cases b4 with
      | false =>
        go_wp2_with fail
        go_ret
        exact ⟨rfl, HW.out _ hb4⟩
      | true =>
        have HR1 := Lib.hid (HR.out (by trivial))
        clear HR
        have hb5 := Below.after hb4 ((Below.refl _ w4).alloc (Nat.le_refl _) (.cells #[.slice va l.length vc] 25))
        have F14 := fits14_any (.slice (some ⟨w4.heap.size, 0, none⟩) 1 1) [l] (w4.alloc (.cells #[.slice va l.length vc] 25)) (StrRows.made1 (ty := 25) (fz := (0, 0)) 1 (heap_at _ _ _ rfl) (HT.out.later (HW.out _ hb5).block).strs) (by simp) (by intro l' h'; simp only [List.mem_singleton] at h'; subst h'; exact HSL1.out)
        go_wp2_with fail
        refine F14.mono ?_
        rintro e w5 ⟨rfl, rfl⟩
        cases hf : fitsF [l] with
        | false =>
          go_wp2_with fail
          go_ret
          exact ⟨rfl, HW.out _ hb5⟩
        | true =>
          have hbl2 := fits_one hf
          have hll2 : l.length ≤ 1048576 := by
            have : ∀ l : List ByteArray, l.length ≤ bytesOf l := by
              intro l
              induction l with
              | nil => simp [bytesOf]
              | cons x l ih => rw [bytesOf_cons, List.length_cons]; omega
            have := this l; omega
          obtain ⟨a0, a1, a2, a3⟩ := HC.out _ hb5
          obtain ⟨rq, r0, r3⟩ := HR1.out
          obtain ⟨e1, e2⟩ := and_bits fold r0 r3
          have RP := right_of (plain := plain) (unk := unk) rq r0 r3 HSF1.out
          generalize w4.alloc (.cells #[.slice va l.length vc] 25) = w5 at *
          have SP := specParse_any (.slice fa fs.length fc) plain unk fold (setD fs plain unk fold) w5 (HV.out.later (HW.out _ hb5).block) rfl rfl e1.symm e2.symm HSF1.out (.slice va l.length vc) l (HT.out.later (HW.out _ hb5).block) HSL1.out.2 HSL1.out.1 (by omega)
          have HRP := Lib.hid RP
          have HSP := Lib.hid SP
          have hga := goes_args (setD fs plain unk fold) .sets l.length l begin0
          have hga2 : (goesF (setD fs plain unk fold) .sets l begin0).args.length ≤ 1048576 := by
            have : (goesF (setD fs plain unk fold) .sets l begin0).args.length ≤ begin0.args.length + l.length := hga
            simp only [begin0, List.length_nil] at this ⊢; omega
          clear F14 rq RP SP e1 e2 HR1 hga
          go_wp2_with fail
          refine HSP.out.mono ?_
          rintro e w6 ⟨⟨gv, av, cv, rfl, htg, hta, htc⟩, hb6⟩
          have hb6 := Below.after hb5 hb6
          have IA := Lib.hid (implArg_any (.slice fa fs.length fc) (.slice va l.length vc) plain unk fold i (setD fs plain unk fold) w6 (HV.out.later (HW.out _ hb6).block) rfl rfl rfl rfl HRP.out l (HT.out.later (HW.out _ hb6).block) (wide HSL1.out.2) HSL1.out.1 (by omega))
          obtain ⟨aa, ac, rfl, hac⟩ := hta.len
          obtain ⟨ga, gc, rfl, -⟩ := htg.len
          obtain ⟨ca, cc, rfl⟩ := htc.len
          clear htg htc
          obtain ⟨a0, a1, a2, a3⟩ := HC.out _ hb6
          have HTA := Lib.hid hta
          have HB6 := Lib.hid hb6
          clear hta hb6 hb5 HSP HRP
          generalize goesF (setD fs plain unk fold) .sets l begin0 = r at *
          simp only [hCells]
          have hf6 := field6
          go_wp2_with fail
          refine IA.out.mono ?_
          rintro e w7 ⟨rfl, hb7⟩
          have HB7 := Lib.hid (HW.out _ (Below.after HB6.out hb7))
          have HTA7 := Lib.hid (HTA.out.strs.later hb7.block)
          clear hb7 IA HTA a0 a1 a2 a3
          generalize hA : argF r.args i = A
          generalize r.args = L at *
          by_cases c0 : i < 0
          · have d0 : decide (i < (0 : Int)) = true := decide_eq_true c0
            have hz : A = ⟨#[]⟩ := by rw [← hA, argF, if_neg (by omega)]
            subst hz
            go_wp2_with fail
            go_ret
            exact ⟨rfl, HB7.out⟩
          · have d0 : decide (i < (0 : Int)) = false := decide_eq_false c0
            by_cases c1 : (L.length : Int) ≤ i
            · have d1 : decide ((L.length : Int) ≤ i) = true := decide_eq_true c1
              have hz : A = ⟨#[]⟩ := by rw [← hA, argF, if_pos (by omega), List.getElem?_eq_none (by omega)]; rfl
              subst hz
              go_wp2_with fail
              go_ret
              exact ⟨rfl, HB7.out⟩
            · have d1 : decide ((L.length : Int) ≤ i) = false := decide_eq_false c1
              obtain ⟨k, rfl⟩ : ∃ k : Nat, i = k := ⟨i.toNat, by omega⟩
              have hk : k < L.length := by omega
              have hz : A = L[k] := by rw [← hA, argF, if_pos (by omega), Int.toNat_natCast, List.getElem?_eq_getElem hk]; rfl
              obtain ⟨tb, tof, rfl, q⟩ := HTA7.out.cell (by omega)
              have q2 := q k hk
              clear q
              rw [← hz] at q2
              clear hz hA HTA7
              go_wp2_with fail
              go_ret
              exact ⟨rfl, HB7.out⟩
end Go.Proofs.Ytcpjdgbnfjdakaa
