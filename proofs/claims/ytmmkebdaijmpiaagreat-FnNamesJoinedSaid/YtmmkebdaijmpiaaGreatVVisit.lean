/- few's Visit over a set whose flags were set, with the closure of impl.Visit. -/
import Derived.Test.YtmmkebdaijmpiaaGreatVTold
import Derived.Test.YtmmkebdaijmpiaaGreatVSortF
import Derived.BigQuiet
namespace Go.Proofs.YtmmkebdaijmpiaaGreat
open Go.RowKit
set_option linter.unusedVariables false
set_option linter.unusedSimpArgs false

/-- The names of those that were set, in the order in which they were. -/
def actN (es : List (DefD × Nat)) (acts : List Nat) : List ByteArray := acts.map fun i => es[i]!.1.nm
/-- A row of flags, and their names. -/
structure VRow (B0 : Nat) (rv : Value) (l : List ByteArray) (w : World) : Prop where
  row : ∃ xs, w.ownsRow B0 80 1 rv l.length xs ∧ ∀ i (hi : i < l.length), ∃ G sh iv df no chg, xs[i]? = some (ptr G) ∧ w.heap[G]? = some (.cells (flV l[i] sh iv df no chg) 85 (0, 0))
theorem VRow.keep {B0 : Nat} {rv : Value} {l : List ByteArray} {w w' : World} (h : VRow B0 rv l w) (hk : KeepV w w') : VRow B0 rv l w' := by
  obtain ⟨xs, hr, hx⟩ := h.row
  refine ⟨xs, ?_, fun i hi => ?_⟩
  · refine ⟨hr.1, ?_⟩
    rcases hr.2 with h0 | ⟨b, cap, cur, e, hb', hh, hrr⟩
    · exact .inl h0
    · exact .inr ⟨b, cap, cur, e, hb', hk.cells _ _ _ hh (.inr rfl), hrr⟩
  · obtain ⟨G, sh, iv, df, no, chg, e, hG⟩ := hx i hi
    exact ⟨G, sh, iv, df, no, chg, e, hk.cells _ _ _ hG (.inl rfl)⟩
theorem VRow.at {B0 g n cap : Nat} {l : List ByteArray} {w : World} (h : VRow B0 (.slice (some ⟨g, 0, none⟩) n cap) l w) (i : Nat) (hi : i < l.length) :
    ∃ G sh iv df no chg, w.cell? ⟨g, i, none⟩ = some (ptr G) ∧ w.heap[G]? = some (.cells (flV l[i] sh iv df no chg) 85 (0, 0)) := by
  obtain ⟨xs, hr, hx⟩ := h.row
  obtain ⟨G, sh, iv, df, no, chg, e, hG⟩ := hx i hi
  refine ⟨G, sh, iv, df, no, chg, ?_, hG⟩
  rcases hr.2 with ⟨_, hn⟩ | ⟨b, cap', cur, e', hb, hh, hnc, hcm, hcs, ht⟩
  · exact absurd hn (by omega)
  · cases e'
    rw [← ht, List.getElem?_take, if_pos (by omega), Array.getElem?_toList] at e
    simp [World.cell?, hh, e]
theorem VRow.form {B0 : Nat} {rv : Value} {l : List ByteArray} {w : World} (h : VRow B0 rv l w) : ∃ a c, rv = .slice a l.length c := by
  obtain ⟨xs, hr, _⟩ := h.row
  exact row_form hr
theorem find_val : ∀ (es : List (DefD × Nat)) (acts : List Nat), (∀ i ∈ acts, i < es.length) → ∀ k ∈ actN es acts, ∃ i ∈ acts, es[i]!.1.nm = k ∧ valOf (alA es acts) k = ptr es[i]!.2 := by
  intro es acts hlt k hk
  have hm : k ∈ (alA es acts).map (·.1) := by
    obtain ⟨i, hi, rfl⟩ := List.mem_map.1 hk
    exact List.mem_map.2 ⟨_, List.mem_map.2 ⟨i, hi, rfl⟩, rfl⟩
  obtain ⟨j, v, hf, hmem⟩ := find_mem k (alA es acts) 0 hm
  obtain ⟨i, hi, e⟩ := List.mem_map.1 hmem
  simp only [Prod.mk.injEq] at e
  exact ⟨i, hi, e.1, by rw [valOf, hf]; exact e.2.symm⟩
theorem alA_keys (es : List (DefD × Nat)) (acts : List Nat) : (alA es acts).map (·.1) = actN es acts := by simp [alA, actN]
section
variable {w0 : World} {F : Nat} {so : Bool} {fm : Option Nat} {es : List (DefD × Nat)} {am : Option Nat} {oav ofv : Value} {sm : Option Nat} {acts : List Nat} {w w' : World}
theorem VSet.flagAt (h : VSet w0 F so fm es am oav ofv sm acts w) {i : Nat} (hi : i ∈ acts) : ∃ sh iv df no chg, w.heap[es[i]!.2]? = some (.cells (flV es[i]!.1.nm sh iv df no chg) 85 (0, 0)) := by
  have hl := h.alt i hi
  obtain ⟨iv, df, no, hG⟩ := (h.flag i hl).cells
  rw [getElem!_pos es i hl]
  exact ⟨_, _, _, _, _, hG⟩
theorem VSet.rowPlain (h : VSet w0 F so fm es am oav ofv sm acts w) : VRow w0.heap.size oav (actN es acts) w := by
  refine ⟨oaA es acts, by rw [actN, List.length_map]; exact h.rOa, fun i hi => ?_⟩
  have hi' : i < acts.length := by simpa [actN] using hi
  obtain ⟨sh, iv, df, no, chg, hG⟩ := h.flagAt (List.getElem_mem hi')
  exact ⟨es[acts[i]]!.2, sh, iv, df, no, chg, by rw [oaA, List.getElem?_map, List.getElem?_eq_getElem hi']; rfl, by rw [hG]; congr 2; simp only [actN, List.getElem_map]⟩
theorem VSet.rowSorted (h : VSet w0 F so fm es am oav ofv sm acts w) (hb : Below w.heap.size w w') {rv : Value} (hr : w'.ownsRow w.heap.size 80 1 rv (alA es acts).length ((srt ((alA es acts).map (·.1))).map (valOf (alA es acts)))) : VRow w0.heap.size rv (srt (actN es acts)) w' := by
  rw [alA_keys] at hr
  have hl : (alA es acts).length = (srt (actN es acts)).length := by rw [srt_length]; simp [alA, actN]
  rw [hl] at hr
  refine ⟨_, row_lower hr h.bel.size, fun i hi => ?_⟩
  have hm : (srt (actN es acts))[i] ∈ actN es acts := (srt_perm _).mem_iff.1 (List.getElem_mem hi)
  obtain ⟨j, hj, e1, e2⟩ := find_val es acts h.alt _ hm
  obtain ⟨sh, iv, df, no, chg, hG⟩ := h.flagAt hj
  rw [e1] at hG
  exact ⟨_, sh, iv, df, no, chg, by rw [List.getElem?_map, List.getElem?_eq_getElem hi, Option.map_some, e2], (hb.block _ (lt_of_block hG)).trans hG⟩
end
def visited (so : Bool) (es : List (DefD × Nat)) (acts : List Nat) : List ByteArray := if so then srt (actN es acts) else actN es acts
theorem visited_length (so : Bool) (es : List (DefD × Nat)) (acts : List Nat) : (visited so es acts).length = acts.length := by
  unfold visited
  split
  · rw [srt_length]; simp [actN]
  · simp [actN]

set_option maxRecDepth 100000 in
set_option maxHeartbeats 3200000 in
theorem visit_any {w0 : World} {F : Nat} {so : Bool} {fm : Option Nat} {es : List (DefD × Nat)} {am : Option Nat} {oav ofv : Value} {sm : Option Nat} {acts : List Nat} {w : World} {B : Nat} {ov : Value}
    (h : VSet w0 F so fm es am oav ofv sm acts w) (ho : OutS w0 B [] ov w) (ha : acts.length ≤ 1048576) :
    Calls Tryz.prog 28 #[ptr F, .func (.func 29) #[] #[ptr B]] w fun e w' => e = .returned (.tuple #[]) ∧ ∃ ov', OutS w0 B (visited so es acts) ov' w' := by
  have hlen : ∀ ty, (Builtin.len_ #[69] ty #[.map am]).run Tryz.prog w = .ok (.int .i64 acts.length) w := fun ty => by
    rcases h.ham with ⟨rfl, e⟩ | ⟨b, rfl, hm⟩
    · have : acts = [] := by simpa [alA] using e
      subst this
      simp [Builtin.len_, run_underlying (show Tryz.prog.underlying 69 = some (.map 99 80) by kernel_rfl), Result.andThen, goInt]
    · have := run_len_map (P := Tryz.prog) (T := 69) (kt := 99) (et := 80) hm (by kernel_rfl) ty
      rw [this]
      simp [alA]
  have c0 := h.cF 0 (.bool so) rfl
  have c5 := h.cF 5 (.map am) rfl
  have c6 := h.cF 6 oav rfl
  have c7 := h.cF 7 (.slice none 0 0) rfl
  have z7 := h.zF 7
  have lF := lt_of_block h.hF
  have HH := Lib.hid h
  have HO := Lib.hid ho
  clear h ho
  unfold ptr
  go_enter Tryz.func28, Tryz.ntmps28
  by_cases hz : acts.length = 0
  · have HV : Hid (visited so es acts = []) := Lib.hid (List.eq_nil_of_length_eq_zero (by rw [visited_length]; exact hz))
    rw [hz] at hlen
    go_wp2_with fail
    (try simp only [Exit.inBlock, Exit.then])
    refine bodyPost_ret (results_none rfl _ _ _) rfl ?_
    exact ⟨rfl, _, by rw [HV.out]; exact HO.out⟩
  obtain ⟨a, c, rfl⟩ := row_form HH.out.rOa
  generalize hNL : acts.length = NL at *
  obtain ⟨b, rfl, hm⟩ : ∃ b, am = some b ∧ MapIs strKey w b (alA es acts) := by
    rcases HH.out.ham with ⟨_, e⟩ | hx
    · have : acts = [] := by simpa [alA] using e
      rw [this] at hNL
      exact absurd hNL.symm hz
    · exact hx
  have ml : (alA es acts).length = NL := by simp [alA, hNL]
  have hvp : ∀ x ∈ alA es acts, ∃ p, x.2 = .pointer (some ⟨p, 0, none⟩) := fun x hx => by
    obtain ⟨j, hj, rfl⟩ := List.mem_map.1 hx
    exact ⟨_, rfl⟩
  have CS := Lib.hid (fun q => by
    have := sortFlags_any (MapIs.at (w' := w.drewN q) hm rfl) (by omega) hvp
    rw [ml] at this
    exact this)
  have ha' : ∃ g, a = some ⟨g, 0, none⟩ := by
    rcases HH.out.rOa.2 with ⟨_, hn⟩ | ⟨g, cap, cur, e, _⟩
    · rw [hNL] at hn; exact absurd hn hz
    · cases e; exact ⟨_, rfl⟩
  obtain ⟨g, rfl⟩ := ha'
  have HV : Hid ((visited so es acts).length = NL) := Lib.hid (by rw [visited_length, hNL])
  have HVT : Hid (so = true → visited so es acts = srt (actN es acts)) := Lib.hid (fun e => by unfold visited; rw [if_pos e])
  have HVF : Hid (so = false → visited so es acts = actN es acts) := Lib.hid (fun e => by unfold visited; rw [if_neg (by rw [e]; decide)])
  generalize visited so es acts = V at *
  have HML := Lib.hid ml
  have HM0 := Lib.hid hm
  clear hvp hm ml
  have hlq : ∀ ty q, (Builtin.len_ #[69] ty #[.map (some b)]).run Tryz.prog (w.drewN q) = .ok (.int .i64 NL) (w.drewN q) := fun ty q => by
    have := run_len_map (P := Tryz.prog) (T := 69) (kt := 99) (et := 80) (MapIs.at (w' := w.drewN q) HM0.out rfl) (by kernel_rfl) ty
    rw [this, HML.out]
  have q0 : ((NL : Int) == 0) = false := by simp; omega
  go_upto_if 16 with fail
  go_cut [4] from 17 to 43 (fun v4 wx => ∃ g cap, v4 = .slice (some ⟨g, 0, none⟩) NL cap ∧ VRow w0.heap.size v4 V wx ∧ OutS w0 B [] ov wx)
  case first =>
    cases hso : so with
    | false =>
      subst hso
      have HR := Lib.hid HH.out.rowPlain
      rw [← HVF.out (by first | rfl | trivial)] at HR
      clear hlen CS
      go_wp2_with fail
      go_meet
      exact ⟨_, _, rfl, HR.out, HO.out⟩
    | true =>
      subst hso
      go_wp2_with fail
      go_quiet (fail)
      go_wp2_with fail
      refine (CS.out nq).mono ?_
      rintro e w2 ⟨g2, rfl, hb2, hg2, hrow2⟩
      have HQ := Lib.hid (HH.out.later (Below.drewN' (n := nq) (Below.refl _ w)))
      have HOQ := Lib.hid (HO.out.later (Below.drewN' (n := nq) (Below.refl _ w)))
      have HR := Lib.hid (HQ.out.rowSorted hb2 (by rw [HML.out]; exact hrow2))
      rw [← HVT.out (by first | rfl | trivial)] at HR
      have hF2 := (hb2.block _ lF).trans HQ.out.hF
      have d7 := cell_of hF2 7 (.slice none 0 0) rfl
      have y7 := frozen_of hF2 7
      have l7 := lt_of_block hF2
      have d7' : (w2.setCell ⟨F, 7, none⟩ (.slice (some ⟨g2, 0, none⟩) NL NL)).cell? ⟨F, 7, none⟩ = some (.slice (some ⟨g2, 0, none⟩) NL NL) := cell_of (heap_set hF2 7 _) 7 _ rfl
      have HK : Hid (KeepV w2 (w2.setCell ⟨F, 7, none⟩ (.slice (some ⟨g2, 0, none⟩) NL NL))) := Lib.hid ⟨by rw [size_setCell]; exact Nat.le_refl _, fun b c t hb ht => heap_ne' (cells_ne hb hF2 (by rcases ht with rfl | rfl <;> decide)) hb⟩
      have HO2 := Lib.hid (HOQ.out.later hb2)
      have HOF := Lib.hid (show OutS w0 B [] ov (w2.setCell ⟨F, 7, none⟩ (.slice (some ⟨g2, 0, none⟩) NL NL)) from ⟨HO2.out.fr.setCell (.inl HH.out.lF) _ _, heap_ne' (cells_ne HO2.out.box hF2 (by decide)) HO2.out.box, ownsRow_at HO2.out.row fun g' e => by
        obtain ⟨_, c', hc⟩ := ownsRow_cells HO2.out.row e
        exact heap_ne _ _ _ _ (cells_ne hc hF2 (by decide))⟩)
      clear hb2 hrow2 hF2 CS hlen c0 c5 c6 c7 z7 lF
      go_wp2_with fail
      go_meet
      exact ⟨_, _, rfl, HR.out.keep HK.out, HOF.out⟩
  case rest =>
  obtain ⟨g4, cap4, rfl, hvr, hov⟩ := hcut
  have HVR := Lib.hid hvr
  have HOV := Lib.hid hov
  clear hvr hov CS hlen c0 c5 c6 c7 z7 lF HH HO HVT HVF
  go_wp2_with fail
  go_loopw [46] (fun vi wr => ∃ k : Nat, k ≤ NL ∧ vi = .int .i64 k ∧ VRow w0.heap.size (.slice (some ⟨g4, 0, none⟩) NL cap4) V wr ∧ ∃ ov', OutS w0 B (V.take k) ov' wr) (fun vi _ => NL - (intOf vi).toNat)
  case atStart => exact ⟨0, Nat.zero_le _, rfl, HVR.out, _, HOV.out⟩
  case round =>
    obtain ⟨k, hk, rfl, hvr, ov', hov⟩ := hrel
    have HVR := Lib.hid hvr
    have HOV := Lib.hid hov
    clear hvr hov
    by_cases hlt : k < NL
    case neg =>
      have HE : Hid (V.take k = V) := Lib.hid (List.take_of_length_le (by have := HV.out; omega))
      go_wp2_with fail
      (first | go_end0 | ((try simp only [Exit.inBlock, Exit.then]); refine bodyPost_ret (results_none rfl _ _ _) rfl ?_))
      exact ⟨rfl, _, by have := HOV.out; rw [HE.out] at this; exact this⟩
    have hkV : k < V.length := by have := HV.out; omega
    obtain ⟨G, sh, iv, df, no, chg, cg, hG⟩ := HVR.out.at k hkV
    have HT := Lib.hid (show V.take (k + 1) = V.take k ++ [V[k]] from List.take_succ_eq_append_getElem hkV)
    have CT := Lib.hid (told_any HOV.out hG (by rw [List.length_take]; omega))
    unfold ptr at cg CT
    clear hG
    go_wp2_with fail
    refine CT.out.mono ?_
    rintro e w3 ⟨rfl, ⟨ov3, ho3⟩, hk3⟩
    have HV3 := Lib.hid (HVR.out.keep hk3)
    have HO3 := Lib.hid ho3
    clear ho3 hk3 CT
    go_wp2_with fail
    go_roundw
    case rel => exact ⟨k + 1, by omega, by go_num, HV3.out, _, by rw [HT.out]; exact HO3.out⟩
    case measure => simp [intOf]; omega
end Go.Proofs.YtmmkebdaijmpiaaGreat
