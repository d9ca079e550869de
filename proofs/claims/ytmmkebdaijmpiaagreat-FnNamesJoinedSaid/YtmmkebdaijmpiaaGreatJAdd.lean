/- few's Lookup and AddFlagSet's closure over a set with any flags. -/
import Derived.Test.YtmmkebdaijmpiaaGreatVVisit
import Derived.Test.YtmmkebdaijmpiaaGreatJNote
namespace Go.Proofs.YtmmkebdaijmpiaaGreat
open Go.RowKit
set_option linter.unusedVariables false
set_option linter.unusedSimpArgs false

def lookV (es : List (DefD × Nat)) (nm : ByteArray) : Value := match placeE es nm with
  | some i => ptr es[i]!.2
  | none => .pointer none
set_option maxRecDepth 100000 in
theorem lookF_any {w0 w : World} {F : Nat} {es : List (DefD × Nat)} (h : ManyE w0 F es w) (nm : ByteArray) :
    Calls Tryz.prog 49 #[ptr F, .string nm] w fun e w' => e = .returned (lookV es nm) ∧ Below w.heap.size w w' := by
  obtain ⟨fm, sm, ofv, h⟩ := h
  have CN := Lib.hid (norm_any F w (h.cF 16 .nilFunc rfl) nm)
  have HK := Lib.hid (fun W (hb : Below w.heap.size w W) => h.later hb)
  clear h
  unfold ptr
  go_enter Tryz.func49, Tryz.ntmps49
  go_wp2_with fail
  refine CN.out.mono ?_
  rintro e w1 ⟨rfl, hb1⟩
  have m1 := HK.out w1 hb1
  have HB := Lib.hid hb1
  have d8 := m1.cF 8 (.map fm) rfl
  have hl : (Instr.lookup 69 (.map fm) (.string nm) false).run Tryz.prog w1 = .ok (lookedUp (.pointer none) false (mapFind nm (flE es) 0)) w1 := by
    rcases m1.hfm with ⟨rfl, e⟩ | ⟨b, rfl, hm⟩
    · rw [e]
      exact run_lookup_nilmap (K := strKey) (P := Tryz.prog) (T := 69) (kt := 99) (et := 80) (by kernel_rfl) (by kernel_rfl) (by kernel_rfl) nm false
    · exact run_lookup_map (P := Tryz.prog) (T := 69) (kt := 99) (et := 80) hm (by kernel_rfl) (by kernel_rfl) (by kernel_rfl) nm false
  have hv : lookedUp (.pointer none) false (mapFind nm (flE es) 0) = lookV es nm := by
    rw [find_place, lookV]
    cases placeE es nm <;> rfl
  rw [hv] at hl
  obtain ⟨v, hvv⟩ : ∃ v, v = lookV es nm := ⟨_, rfl⟩
  rw [← hvv] at hl
  have HV := Lib.hid hvv
  have C2 : Hid (Calls Tryz.prog 68 #[.pointer (some ⟨F, 0, none⟩), .string nm] w1 fun e w' => e = .returned v ∧ w' = w1) := Lib.hid (by
    clear m1 hv HK CN HB hb1 hvv HV
    go_enter Tryz.func68, Tryz.ntmps68
    go_wp2_with fail
    go_ret
    exact ⟨rfl, rfl⟩)
  clear m1 hv HK CN hb1 hl d8 hvv
  go_wp2_with fail
  refine C2.out.mono ?_
  rintro e w2 ⟨rfl, rfl⟩
  go_wp2_with fail
  go_ret
  exact ⟨by rw [← HV.out]; rfl, HB.out⟩
/-- The set, its row of flags another one than R. -/
def ManyR (w0 : World) (F : Nat) (es : List (DefD × Nat)) (R : Nat) (w : World) : Prop := ∃ fm sm ofv, Many w0 F fm (flE es) sm (slE es) ofv (olE es) w ∧ ofv.ownBlock ≠ some R
theorem ManyR.toE {w0 w : World} {F R : Nat} {es : List (DefD × Nat)} (h : ManyR w0 F es R w) : ManyE w0 F es w := by
  obtain ⟨fm, sm, ofv, h, _⟩ := h
  exact ⟨fm, sm, ofv, h⟩
theorem ManyR.later {w0 w w' : World} {F R : Nat} {es : List (DefD × Nat)} (h : ManyR w0 F es R w) (hb : Below w.heap.size w w') : ManyR w0 F es R w' := by
  obtain ⟨fm, sm, ofv, h, hr⟩ := h
  exact ⟨fm, sm, ofv, h.later hb, hr⟩
/-- The row R stays. -/
def RowStays (R : Nat) (w w' : World) : Prop := ∀ c z, w.heap[R]? = some (Obj.cells c 80 z) → w'.heap[R]? = some (Obj.cells c 80 z)
theorem FlagD.cells {w0 w : World} {nm sh : ByteArray} {k : Int} {on : Bool} {tx : ByteArray} {G : Nat} (h : FlagD w0 nm sh k on tx G w) : ∃ iv df no, w.heap[G]? = some (.cells (flN nm sh iv df no) 85 (0, 0)) := by
  rcases h with ⟨e, h⟩ | ⟨e, h⟩
  · obtain ⟨P, lP, hG, hP⟩ := h.val
    exact ⟨_, _, _, hG⟩
  · obtain ⟨P, lP, hG, hP⟩ := h.val
    exact ⟨_, _, _, hG⟩
/-- What comes of a flag that is offered. -/
def offer (es : List (DefD × Nat)) (x : DefD) (G : Nat) : List (DefD × Nat) := match placeE es x.nm with
  | some _ => es
  | none => es ++ [(x, G)]

set_option maxRecDepth 100000 in
set_option maxHeartbeats 3200000 in
theorem addF1_any {w0 w : World} {F R : Nat} {es : List (DefD × Nat)} (h : ManyR w0 F es R w) (hok : AllOk (es.map (·.1))) {B : Nat} (hB : w.heap[B]? = some (.cells #[ptr F] 65 (0, 0))) {x : DefD} {G : Nat} (hx : FlagD w0 x.nm x.sh x.k x.on x.tx G w) (lG : w0.heap.size ≤ G) (hes : es.length ≤ 1048576) (hsz : x.sh.size ≤ 60) (lR : R < w.heap.size) (hadd : placeE es x.nm = none → okP x (es.map (·.1))) :
    Calls Tryz.prog 70 #[ptr G, ptr B] w fun e w' => e = .returned (.tuple #[]) ∧ ManyR w0 F (offer es x G) R w' ∧ KeepT w w' ∧ RowStays R w w' := by
  obtain ⟨iv, df, no, hG⟩ := hx.cells
  have c0 := cell_of hG 0 (.string x.nm) rfl
  have b0 := cell_of_one hB
  have CL := Lib.hid (fun W (hb : Below w.heap.size w W) => lookF_any (h.toE.later hb) x.nm)
  have HM := Lib.hid h
  have HG := Lib.hid hG
  have HBX := Lib.hid hB
  have hq2 : ∀ b w, Sem.run Tryz.prog (binOp BinOp.eql 80 (Value.pointer (some ⟨b, 0, none⟩)) (Value.pointer none)) w = .ok (.bool false) w := fun _ _ => by kernel_rfl
  have hq1 : ∀ w, Sem.run Tryz.prog (binOp BinOp.eql 80 (Value.pointer none) (Value.pointer none)) w = .ok (.bool true) w := fun _ => by kernel_rfl
  clear h hG hB hx
  unfold ptr at *
  go_enter Tryz.func70, Tryz.ntmps70
  have HBD : Hid (Below w.heap.size w w.drew) := Lib.hid (Below.refl _ _).drew
  cases hp : placeE es x.nm with
  | some i =>
    have hv : lookV es x.nm = .pointer (some ⟨es[i]!.2, 0, none⟩) := by rw [lookV, hp]; rfl
    rw [hv] at CL
    have HO := Lib.hid (show offer es x G = es by rw [offer, hp])
    generalize es[i]!.2 = G2 at *
    clear hadd
    go_upto_region 0 with fail
    go_cut [9] from 3 to 9 (fun v9 wx => v9 = .bool false ∧ Below w.heap.size w wx)
    case first =>
      go_region_with (go_at_call 49; refine (CL.out _ HBD.out).mono ?_; rintro e w1 ⟨rfl, hb1⟩; have HB1 := Lib.hid (HBD.out.trans hb1); clear hb1)
      all_goals
        (try simp only [Act.put, List.getElem_toArray, List.getElem_cons_succ, List.getElem_cons_zero, List.setIfInBounds_toArray, List.set_cons_succ, List.set_cons_zero])
        go_wp2_with fail
        go_meet
        exact ⟨rfl, HB1.out⟩
    case rest =>
    obtain ⟨rfl, hb⟩ := hcut
    have HB := Lib.hid hb
    clear hb
    go_wp2_with fail
    (first | go_end0 | ((try simp only [Exit.inBlock, Exit.then]); refine bodyPost_ret (results_none rfl _ _ _) rfl ?_))
    exact ⟨rfl, by rw [HO.out]; exact HM.out.later HB.out, KeepT.below HB.out, fun c z hc => (HB.out.block _ lR).trans hc⟩
  | none =>
    have hv : lookV es x.nm = .pointer none := by rw [lookV, hp]
    rw [hv] at CL
    have HO := Lib.hid (show offer es x G = es ++ [(x, G)] by rw [offer, hp])
    have HAD := Lib.hid (hadd hp)
    clear hadd
    go_upto_region 0 with fail
    go_cut [9] from 3 to 9 (fun v9 wx => v9 = .bool true ∧ Below w.heap.size w wx)
    case first =>
      go_region_with (go_at_call 49; refine (CL.out _ HBD.out).mono ?_; rintro e w1 ⟨rfl, hb1⟩; have HB1 := Lib.hid (HBD.out.trans hb1); clear hb1)
      all_goals
        (try simp only [Act.put, List.getElem_toArray, List.getElem_cons_succ, List.getElem_cons_zero, List.setIfInBounds_toArray, List.set_cons_succ, List.set_cons_zero])
        go_wp2_with fail
        go_meet
        exact ⟨rfl, HB1.out⟩
    case rest =>
    obtain ⟨rfl, hb⟩ := hcut
    have HB := Lib.hid hb
    have b1 := cell_of_one ((hb.block _ (lt_of_block HBX.out)).trans HBX.out)
    have HG1 := Lib.hid ((hb.block _ (lt_of_block HG.out)).trans HG.out)
    obtain ⟨fm, sm, ofv, hm, hr⟩ := HM.out
    have HR := Lib.hid hr
    have CA := Lib.hid (addN_any (hm.later hb) HG1.out (nm := x.nm) (sh := x.sh) rfl rfl lG (by simp [olE]; omega) (by omega))
    clear hb hm hr
    unfold ptr at CA
    go_wp2_with fail
    refine CA.out.mono ?_
    intro e w3 h3
    have ok : addOk x.nm x.sh (flE es) (slE es) := (ok_iff x es hok).2 HAD.out
    obtain ⟨rfl, hG3, -⟩ := h3.good ok
    obtain ⟨fm3, sm3, ofv3, hown, hm3⟩ := h3.rowOf ok
    have HK3 : Hid (KeepT wc w3) := Lib.hid ⟨h3.keep.size, fun b c t z hb h1 h2 => by
      by_cases e : b = G
      · subst e
        rw [HG1.out] at hb
        cases hb
        exact hG3
      · exact h3.keep.cells b c t z hb h1 h2 e⟩
    have HM3 : Hid (ManyR w0 F (es ++ [(x, G)]) R w3) := Lib.hid ⟨fm3, sm3, ofv3, by rw [flE_snoc, slE_snoc, olE_snoc]; exact hm3, fun e => by
      rcases hown R e with q | q
      · exact HR.out q
      · have := HB.out.size; omega⟩
    have HS3 : Hid (RowStays R wc w3) := Lib.hid fun c z hc => h3.keepO.cells R c z hc (fun e => HR.out e.symm)
    clear h3 hG3 hown hm3 ok CA
    go_wp2_with fail
    (first | go_end0 | ((try simp only [Exit.inBlock, Exit.then]); refine bodyPost_ret (results_none rfl _ _ _) rfl ?_))
    exact ⟨rfl, by rw [HO.out]; exact HM3.out, (KeepT.below HB.out).trans HK3.out, fun c z hc => HS3.out c z ((HB.out.block _ lR).trans hc)⟩
end Go.Proofs.YtmmkebdaijmpiaaGreat
