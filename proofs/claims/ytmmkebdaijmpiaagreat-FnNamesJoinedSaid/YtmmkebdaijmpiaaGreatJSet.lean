/- The reference's addSet, walked. (Printed by gen_jset.py.) -/
import Derived.Test.YtmmkebdaijmpiaaGreatJReg
import Derived.Test.YtmmkebdaijmpiaaGreatNNew
namespace Go.Proofs.YtmmkebdaijmpiaaGreat
open Go.RowKit
set_option linter.unusedVariables false
set_option linter.unusedSimpArgs false

/-- Blocks of other types stay. -/
def KeepB (w w' : World) : Prop := ∀ (b : Nat) (c : Array Value) (t : TypeId), w.heap[b]? = some (Obj.cells c t (0, 0)) → t ≠ 41 → t ≠ 62 → t ≠ 3 → w'.heap[b]? = some (Obj.cells c t (0, 0))
theorem KeepB.trans {a b c : World} (h : KeepB a b) (k : KeepB b c) : KeepB a c := fun x cs t hx h1 h2 h3 => k x cs t (h x cs t hx h1 h2 h3) h1 h2 h3
theorem KeepB.below {w w' : World} (h : Below w.heap.size w w') : KeepB w w' := fun b c t hb _ _ _ => (h.block b (lt_of_block hb)).trans hb
theorem map_first (l : List DefD) : (l.map firstF).map (·.d) = l := by
  rw [List.map_map]
  have : (fun x : NFlag => x.d) ∘ firstF = id := by funext x; rfl
  rw [this, List.map_id]
theorem nmOf_range (m : List DefD) : nmOf m (List.range m.length) = m.map fun x => x.nm := by
  apply List.ext_getElem?
  intro i
  simp only [nmOf, List.getElem?_map]
  by_cases h : i < m.length
  · rw [List.getElem?_range h, List.getElem?_eq_getElem h]
    simp only [Option.map_some]
    rw [getElem!_pos m i h]
  · rw [List.getElem?_eq_none (by simp; omega), List.getElem?_eq_none (by omega)]; rfl
theorem placeD_mem {m : List DefD} {k : ByteArray} (h : k ∈ m.map fun x => x.nm) : ∃ p, ∃ hp : p < m.length, placeD m k = some p ∧ m[p].nm = k := by
  cases hp : placeD m k with
  | some i =>
    rw [placeD, List.findIdx?_eq_some_iff_getElem] at hp
    obtain ⟨hi, he, _⟩ := hp
    exact ⟨i, hi, rfl, by simpa using he⟩
  | none =>
    rw [placeD, List.findIdx?_eq_none_iff] at hp
    obtain ⟨e, he, rfl⟩ := List.mem_map.1 h
    have := hp e he
    simp at this
theorem sortD_length (m : List DefD) : (sortD m).length = m.length := by rw [sortD, List.length_map, srt_length, List.length_map]
/-- A flag of the sorted ones, by its name. -/
theorem sortD_at (m : List DefD) (k : Nat) (hk : k < (sortD m).length) : ∃ p, ∃ hp : p < m.length, placeD m (sortD m)[k].nm = some p ∧ (sortD m)[k] = m[p] ∧ (srt (m.map fun x => x.nm))[k]? = some (sortD m)[k].nm := by
  have hk' : k < (srt (m.map fun x => x.nm)).length := by rw [sortD, List.length_map] at hk; exact hk
  obtain ⟨p, hp, h1, h2⟩ := placeD_mem ((srt_perm (m.map fun x => x.nm)).mem_iff.1 (List.getElem_mem hk'))
  have e : (sortD m)[k] = m[p] := by
    simp only [sortD, List.getElem_map, h1, Option.getD_some]
    exact getElem!_pos m p hp
  refine ⟨p, hp, ?_, e, ?_⟩
  · rw [e, h2]; exact h1
  · rw [e, h2, List.getElem?_eq_getElem hk']

set_option maxRecDepth 100000 in
set_option maxHeartbeats 1600000 in
theorem addSet_any {w0 w : World} {N : Nat} {fv sv dv : Value} {l m : List DefD} (h : NSet w0 N fv false sv (l.map firstF) w) (hd : Defs w dv m) (ok2 : AllOk m) (hl : l.length ≤ 16) (hm : m.length ≤ 16) (hx2 : ∀ x ∈ m, (x.k = 0 ∨ x.k = 1) ∧ x.sh.size ≤ 60) (hnm : ∀ x ∈ m, x.nm.size ≤ 1048576) :
    Calls Tryz.prog 38 #[.pointer (some ⟨N, 0, none⟩), dv] w fun e w' => ∃ b, e = .returned (.bool b) ∧ (b = true → JoinOk l (sortD m) ∧ ∃ fv', NSet w0 N fv' false sv ((joinD l (sortD m)).map firstF) w') ∧ Below w0.heap.size w0 w' ∧ KeepB w w' := by
  have HN4 : Hid (NSet w w.heap.size (.slice none 0 0) false (.slice none 0 0) [] (w.alloc (.cells #[.slice none 0 0, .bool false, .slice none 0 0, .slice none 0 0] 41))) := Lib.hid ⟨(Below.refl _ _).alloc (Nat.le_refl _) _, heap_at _ _ _ rfl, World.ownsRow_nil _ _ _ _, Nat.le_refl _⟩
  have C4 := Lib.hid (defineS_any HN4.out dv m hd hm hx2)
  have HN := Lib.hid (fun W (hb : Below w.heap.size w W) => h.later hb)
  have HOB : Hid (∀ g, fv.ownBlock = some g → g < w.heap.size) := Lib.hid (fun g hg => by
    obtain ⟨_, c, hc⟩ := ownsRow_cells h.row hg
    exact lt_of_block hc)
  have HB0 := Lib.hid h.bel
  have lN := lt_of_block h.hN
  have HST : Hid (Stops m m.length) := Lib.hid ⟨Nat.le_refl _, by rw [List.take_length]; exact ok2, fun h => absurd h (Nat.lt_irrefl _)⟩
  have HX2 := Lib.hid hx2
  have HNM := Lib.hid hnm
  obtain ⟨a, cap, rfl, -⟩ := hd.len
  clear h hd ok2 hx2 hnm
  obtain ⟨o, ho⟩ : ∃ o, o = w.heap.size := ⟨_, rfl⟩
  have HOO := Lib.hid ho
  rw [← ho] at C4
  go_enter Tryz.func38, Tryz.ntmps38
  go_wp2_with fail
  rw [← ho]
  refine C4.out.mono ?_
  rintro e w2 ⟨n, rfl, hst, fo, hno⟩
  obtain rfl := hst.unique HST.out
  rw [List.take_length] at hno
  have hb2 : Below w.heap.size w w2 := hno.bel
  have HB2 := Lib.hid hb2
  have HNO := Lib.hid hno
  have C5 := Lib.hid (all_any hno (by rw [List.length_map]; omega))
  clear hst hno hb2 C4 HN4 ho
  go_wp2_with fail
  refine C5.out.mono ?_
  rintro e w3 ⟨rv, rfl, hb3, hr3⟩
  have HB3 := Lib.hid hb3
  rw [List.length_map] at hr3
  have hrr : w3.ownsRow w.heap.size 3 1 rv (List.range m.length).length (intsV (List.range m.length)) := by rw [List.length_range]; exact row_lower hr3 HB2.out.size
  obtain ⟨ra, rc, rfl⟩ := row_form hr3
  have C6 := visitsR_any (HNO.out.later hb3) (map_first m) hrr (fun i hi => List.mem_range.1 hi) (by rw [List.length_range]; omega) (by omega) HNM.out
  rw [visitedD_eq, if_pos (by rfl), nmOf_range] at C6
  have C6 := Lib.hid C6
  clear hb3 hr3 hrr C5
  go_wp2_with fail
  refine C6.out.mono ?_
  rintro e w4 ⟨rv4, rfl, hs4⟩
  obtain ⟨na, nc, rfl⟩ := row_form hs4.row
  have hsl : (srt (m.map fun x => x.nm)).length = m.length := by rw [srt_length, List.length_map]
  have HB4 : Hid (Below w.heap.size w w4) := Lib.hid ((HB2.out.trans (HB3.out.mono HB2.out.size)).trans (hs4.bel.mono (Nat.le_trans HB2.out.size HB3.out.size)))
  have HR4 := Lib.hid (row_lower hs4.row (Nat.zero_le _))
  have HNO4 := Lib.hid ((HNO.out.later HB3.out).later hs4.bel)
  clear hs4 C6 HNO
  -- the other set as the loop reads it
  obtain ⟨R, c, hO⟩ : ∃ R c, 0 < m.length → w.heap.size ≤ R ∧ OtherS o R c m w4 := by
    by_cases h0 : 0 < m.length
    · obtain ⟨ax, cx, rfl⟩ := HNO4.out.form
      obtain ⟨g, rfl, -⟩ := HNO4.out.at 0 (by rw [List.length_map]; exact h0)
      refine ⟨g, cx, fun _ => ⟨(ownsRow_cells HNO4.out.row (own_some _ _ _)).1, ?_⟩⟩
      have hh := HNO4.out.hN
      have hr := row_lower HNO4.out.row (Nat.zero_le _)
      rw [List.length_map] at hh hr
      exact ⟨hh, hr⟩
    · exact ⟨0, 0, fun h => absurd h h0⟩
  have H0 := Lib.hid (And.intro (HN.out w4 HB4.out) hO)
  have HXL := Lib.hid (sortD_length m)
  have HXA := Lib.hid (fun k hk => sortD_at m k hk)
  generalize hnames : srt (m.map fun x => x.nm) = names at *
  generalize hxs : sortD m = xs at *
  have HSL := Lib.hid hsl
  have HXS := Lib.hid hxs
  clear hO HN HNO4 hnames hxs hsl
  have hnn : names.length ≤ 16 := by have := HSL.out; omega
  go_wp2_with fail
  go_loopw [21] (fun vi wr => ∃ k : Nat, k ≤ names.length ∧ vi = .int .i64 k ∧ (∃ fk, NSet w0 N fk false sv ((joinD l (xs.take k)).map firstF) wr ∧ (0 < m.length → fk.ownBlock ≠ some R)) ∧ (0 < m.length → OtherS o R c m wr) ∧ wr.ownsRow 0 9 1 (.slice na names.length nc) names.length (names.map Value.string) ∧ KeepB w wr ∧ ∀ j (hj : j < xs.length), j < k → placeD (joinD l (xs.take j)) xs[j].nm = none → okP xs[j] (joinD l (xs.take j))) (fun vi _ => names.length - (intOf vi).toNat)
  case atStart => exact ⟨0, Nat.zero_le _, rfl, ⟨fv, by simpa [joinD] using H0.out.1, fun h e => by have h1 := (H0.out.2 h).1; have h2 := HOB.out R e; omega⟩, fun h => (H0.out.2 h).2, HR4.out, KeepB.below HB4.out, fun j _ hj => absurd hj (Nat.not_lt_zero _)⟩
  case round =>
    obtain ⟨k, hk, rfl, ⟨fk, hnk, hfk⟩, hok, hrk, hkb, hjk⟩ := hrel
    have HKB := Lib.hid hkb
    have HNK := Lib.hid hnk
    have HFK := Lib.hid hfk
    have HOK := Lib.hid hok
    have HRK := Lib.hid hrk
    have HJK := Lib.hid hjk
    clear hnk hfk hok hrk hjk hkb
    by_cases hlt : k < names.length
    case neg =>
      have HE : Hid (xs.take k = xs) := Lib.hid (List.take_of_length_le (by have := HXL.out; have := HSL.out; omega))
      have HKX : Hid (xs.length ≤ k) := Lib.hid (by have := HXL.out; have := HSL.out; omega)
      go_wp2_with fail
      go_ret
      rw [HXS.out]
      refine ⟨true, rfl, fun _ => ⟨fun j hj => HJK.out j hj (by have := HKX.out; omega), fk, ?_⟩, HNK.out.bel, HKB.out⟩
      have := HNK.out
      rw [HE.out] at this
      exact this
    have hmp : 0 < m.length := by have := HSL.out; omega
    have hkx : k < xs.length := by have := HXL.out; have := HSL.out; omega
    obtain ⟨p, hp, hpl, hxp, hnk⟩ := HXA.out k hkx
    have HO := Lib.hid (HOK.out hmp)
    have HFR := Lib.hid (HFK.out hmp)
    obtain ⟨gn, rfl, cnm⟩ : ∃ g, na = some ⟨g, 0, none⟩ ∧ wr.cell? ⟨g, k, none⟩ = some (.string xs[k].nm) := by
      rcases HRK.out.2 with ⟨e, hn⟩ | ⟨b, cap, cur, e, hb, hh, hnc, hcm, hcs, ht⟩
      · exact absurd hn (by omega)
      · cases e
        refine ⟨b, rfl, cell_of hh _ _ ?_⟩
        have : (names.map Value.string)[k]? = some (.string xs[k].nm) := by rw [List.getElem?_map, hnk]; rfl
        rw [← ht, List.getElem?_take, if_pos (by omega), Array.getElem?_toList] at this
        exact this
    have HT := Lib.hid (show xs.take (k + 1) = xs.take k ++ [xs[k]] from List.take_succ_eq_append_getElem hkx)
    have hxm : xs[k] ∈ m := by rw [hxp]; exact List.getElem_mem hp
    have HSZ := Lib.hid (HX2.out _ hxm)
    have HMP : Hid (m[p] = xs[k]) := Lib.hid hxp.symm
    have HPL := Lib.hid hpl
    have HJN := Lib.hid (fun (q : placeD (joinD l (xs.take k)) xs[k].nm = none → okP xs[k] (joinD l (xs.take k))) j (hj : j < xs.length) (hj' : j < k + 1) => if e : j = k then (by subst e; exact q : placeD (joinD l (xs.take j)) xs[j].nm = none → okP xs[j] (joinD l (xs.take j))) else HJK.out j hj (by omega))
    have hcl : (joinD l (xs.take k)).length ≤ 1048576 := by
      have := joinD_length l (xs.take k)
      rw [List.length_take] at this
      omega
    have CF := Lib.hid (fun W (hdw : Drawn wr W) => by
      have := find_any (HNK.out.later hdw.below) xs[k].nm (by rw [List.length_map]; omega)
      rw [place_idx, map_first] at this
      exact this)
    generalize hcur : joinD l (xs.take k) = cur at *
    clear hpl hxp hnk hxm
    generalize hxk : xs[k] = x at *
    have HXK := Lib.hid hxk
    have HCUR := Lib.hid hcur
    clear hxk hcur
    cases hpc : placeD cur x.nm with
    | some i =>
      have HNX : Hid (joinD l (xs.take (k + 1)) = cur) := Lib.hid (by rw [HT.out, joinD_snoc, HCUR.out, offerD, hpc])
      rw [hpc] at CF
      simp only at CF
      have HJX := Lib.hid (HJN.out (fun h => by rw [hpc] at h; cases h))
      generalize x.nm = nm at *
      clear hpc HJN
      go_wp2_with fail
      refine wp_region_og regD (RegI (fun wz => Drawn wr wz) (fun wz => Drawn wr wz) (fun iq => ([.pointer (some ⟨N, 0, none⟩), .string nm, .int .i64 (i : Int), .bool false, .bool false, undef, undef, undef, undef, undef, undef, undef, undef, undef, undef, undef, undef, .bool false] : List Value)[iq]?.getD undef)) (by kernel_rfl) (by kernel_rfl) ⟨fun _ => ⟨1, rfl⟩, fun h => Bool.noConfusion h, fun h => Bool.noConfusion h, fun h => Bool.noConfusion h, fun h => Bool.noConfusion h, fun h => Bool.noConfusion h, fun _ _ h => Bool.noConfusion h⟩ ?_ ?_
      · intro i' o' ho L f wz hl hp hI
        have hi' : i' < 18 := (Array.getElem?_eq_some_iff.1 ho).1
        obtain rfl | rfl | rfl | rfl | rfl | rfl | rfl | rfl | rfl | rfl | rfl | rfl | rfl | rfl | rfl | rfl | rfl | rfl : i' = 0 ∨ i' = 1 ∨ i' = 2 ∨ i' = 3 ∨ i' = 4 ∨ i' = 5 ∨ i' = 6 ∨ i' = 7 ∨ i' = 8 ∨ i' = 9 ∨ i' = 10 ∨ i' = 11 ∨ i' = 12 ∨ i' = 13 ∨ i' = 14 ∨ i' = 15 ∨ i' = 16 ∨ i' = 17 := by omega
        all_goals obtain rfl := Option.some.inj ho
        · exact og_op rfl rfl (og_value (run_move ((over_eval_out _ _ _ (by decide)).trans rfl)) ⟨_, over_put _ _ _ (by decide) _, hI.step (i := 0) (d := 25) (by decide) rfl rfl (by decide) (fun h => by omega)⟩)
        · exact og_op rfl rfl (og_value (run_move ((over_eval_out _ _ _ (by decide)).trans rfl)) ⟨_, over_put _ _ _ (by decide) _, hI.step (i := 1) (d := 26) (by decide) rfl rfl (by decide) (fun h => by omega)⟩)
        · have e0 := hI.v 0 (by decide) (hp ⟨0, .data⟩ (by simp) rfl)
          have e1 := hI.v 1 (by decide) (hp ⟨1, .data⟩ (by simp) rfl)
          have h15 : L 15 = false := by
            cases q : L 15 with
            | false => rfl
            | true => rw [hI.c15 q] at hl; cases hl
          refine og_op rfl rfl (og_call (run_call2 ((over_eval _ _ _ (by decide) (by show 25 < 44; omega)).trans e0) ((over_eval _ _ _ (by decide) (by show 26 < 44; omega)).trans e1) rfl (fun args => by go_simp)) ?_)
          refine (CF.out wz (hI.wa h15)).mono ?_
          rintro e w' ⟨rfl, rfl⟩
          exact ⟨_, rfl, _, over_put _ _ _ (by decide) _, hI.step (i := 2) (d := 27) (by decide) rfl rfl (by decide) (fun h => by omega)⟩
        · have e2 := hI.v 2 (by decide) (hp ⟨2, .data⟩ (by simp) rfl)
          have hd3 : decide (((i : Int) : Int) < 0) = false := by simp
          have hv3 : (([.pointer (some ⟨N, 0, none⟩), .string nm, .int .i64 (i : Int), .bool false, .bool false, undef, undef, undef, undef, undef, undef, undef, undef, undef, undef, undef, undef, .bool false] : List Value)[3]?.getD undef) = .bool (decide (((i : Int) : Int) < 0)) := by rw [hd3]; rfl
          exact og_op rfl rfl (og_value (run_lss0 ((over_eval _ _ _ (by decide) (by show 27 < 44; omega)).trans e2) rfl) ⟨_, over_put _ _ _ (by decide) _, hI.step (i := 3) (d := 28) (by decide) rfl hv3 (by decide) (fun _ => hp ⟨2, .data⟩ (by simp) rfl)⟩)
        · have e3 := hI.v 3 (by decide) (hp ⟨3, .data⟩ (by simp) rfl)
          exact og_op rfl rfl (og_value (run_move ((over_eval _ _ _ (by decide) (by show 28 < 44; omega)).trans e3)) ⟨_, over_put _ _ _ (by decide) _, hI.step (i := 4) (d := 29) (by decide) rfl rfl (by decide) (fun _ => hI.c3 (hp ⟨3, .data⟩ (by simp) rfl))⟩)
        · have eg := hI.v 4 (by decide) (hp ⟨4, .guard⟩ (by simp) rfl)
          exact og_off rfl rfl rfl ((tmp_over _ _ _ (by decide) (by show 29 < 44; omega)).trans (congrArg some eg)) ⟨_, over_put _ _ _ (by decide) _, hI.step (i := 5) (d := 30) (by decide) rfl rfl (by decide) (fun _ => hI.c4 (hp ⟨4, .guard⟩ (by simp) rfl))⟩
        · have eg := hI.v 4 (by decide) (hp ⟨4, .guard⟩ (by simp) rfl)
          exact og_off rfl rfl rfl ((tmp_over _ _ _ (by decide) (by show 29 < 44; omega)).trans (congrArg some eg)) ⟨_, over_put _ _ _ (by decide) _, hI.step (i := 6) (d := 31) (by decide) rfl rfl (by decide) (fun h => by omega)⟩
        · have eg := hI.v 4 (by decide) (hp ⟨4, .guard⟩ (by simp) rfl)
          exact og_off rfl rfl rfl ((tmp_over _ _ _ (by decide) (by show 29 < 44; omega)).trans (congrArg some eg)) ⟨_, over_put _ _ _ (by decide) _, hI.step (i := 7) (d := 32) (by decide) rfl rfl (by decide) (fun h => by omega)⟩
        · have eg := hI.v 4 (by decide) (hp ⟨4, .guard⟩ (by simp) rfl)
          exact og_off rfl rfl rfl ((tmp_over _ _ _ (by decide) (by show 29 < 44; omega)).trans (congrArg some eg)) ⟨_, over_put _ _ _ (by decide) _, hI.step (i := 8) (d := 33) (by decide) rfl rfl (by decide) (fun h => by omega)⟩
        · have eg := hI.v 4 (by decide) (hp ⟨4, .guard⟩ (by simp) rfl)
          exact og_off rfl rfl rfl ((tmp_over _ _ _ (by decide) (by show 29 < 44; omega)).trans (congrArg some eg)) ⟨_, over_put _ _ _ (by decide) _, hI.step (i := 9) (d := 34) (by decide) rfl rfl (by decide) (fun h => by omega)⟩
        · have eg := hI.v 4 (by decide) (hp ⟨4, .guard⟩ (by simp) rfl)
          exact og_off rfl rfl rfl ((tmp_over _ _ _ (by decide) (by show 29 < 44; omega)).trans (congrArg some eg)) ⟨_, over_put _ _ _ (by decide) _, hI.step (i := 10) (d := 35) (by decide) rfl rfl (by decide) (fun h => by omega)⟩
        · have eg := hI.v 4 (by decide) (hp ⟨4, .guard⟩ (by simp) rfl)
          exact og_off rfl rfl rfl ((tmp_over _ _ _ (by decide) (by show 29 < 44; omega)).trans (congrArg some eg)) ⟨_, over_put _ _ _ (by decide) _, hI.step (i := 11) (d := 36) (by decide) rfl rfl (by decide) (fun h => by omega)⟩
        · have eg := hI.v 4 (by decide) (hp ⟨4, .guard⟩ (by simp) rfl)
          exact og_off rfl rfl rfl ((tmp_over _ _ _ (by decide) (by show 29 < 44; omega)).trans (congrArg some eg)) ⟨_, over_put _ _ _ (by decide) _, hI.step (i := 12) (d := 37) (by decide) rfl rfl (by decide) (fun h => by omega)⟩
        · have eg := hI.v 4 (by decide) (hp ⟨4, .guard⟩ (by simp) rfl)
          exact og_off rfl rfl rfl ((tmp_over _ _ _ (by decide) (by show 29 < 44; omega)).trans (congrArg some eg)) ⟨_, over_put _ _ _ (by decide) _, hI.step (i := 13) (d := 38) (by decide) rfl rfl (by decide) (fun h => by omega)⟩
        · have eg := hI.v 4 (by decide) (hp ⟨4, .guard⟩ (by simp) rfl)
          exact og_off rfl rfl rfl ((tmp_over _ _ _ (by decide) (by show 29 < 44; omega)).trans (congrArg some eg)) ⟨_, over_put _ _ _ (by decide) _, hI.step (i := 14) (d := 39) (by decide) rfl rfl (by decide) (fun h => by omega)⟩
        · have eg := hI.v 4 (by decide) (hp ⟨4, .guard⟩ (by simp) rfl)
          exact og_off rfl rfl rfl ((tmp_over _ _ _ (by decide) (by show 29 < 44; omega)).trans (congrArg some eg)) ⟨_, over_put _ _ _ (by decide) _, hI.add rfl (hp ⟨5, .data⟩ (by simp) rfl) (hI.wa hl)⟩
        · have eg := hI.v 4 (by decide) (hp ⟨4, .guard⟩ (by simp) rfl)
          exact og_off rfl rfl rfl ((tmp_over _ _ _ (by decide) (by show 29 < 44; omega)).trans (congrArg some eg)) ⟨_, over_put _ _ _ (by decide) _, hI.step (i := 16) (d := 41) (by decide) rfl rfl (by decide) (fun h => by omega)⟩
        · have e4 := hI.v 4 (by decide) (hp ⟨4, .data⟩ (by simp) rfl)
          exact og_op rfl rfl (og_value (run_pickF ((over_eval _ _ _ (by decide) (by show 29 < 44; omega)).trans e4) rfl) ⟨_, over_put _ _ _ (by decide) _, hI.step (i := 17) (d := 42) (by decide) rfl rfl (by decide) (fun h => by omega)⟩)
      · intro L f wz hL hI
        obtain ⟨q, rfl⟩ := hI.wb (hL 15 (by decide))
        have e17 : f 42 = .bool false := hI.v 17 (by decide) (hL 17 (by decide))
        have HBD : Hid (Below wr.heap.size wr (wr.drewN q)) := Lib.hid (Below.drewN' (Below.refl _ _))
        clear hI hL CF
        simp only [over, ovl, regD, List.contains, List.elem, Nat.reduceBEq, Bool.false_eq_true, if_false, if_true, Nat.reduceAdd]
        rw [e17]
        go_wp2_with fail
        go_roundw
        case rel => exact ⟨k + 1, by omega, by go_num, ⟨fk, by rw [HNX.out]; exact HNK.out.later HBD.out, fun _ => HFR.out⟩, fun _ => HO.out.keep rfl rfl, HRK.out, HKB.out, HJX.out⟩
        case measure => simp [intOf]; omega
    | none =>
      have HNX : Hid (joinD l (xs.take (k + 1)) = cur ++ [x]) := Lib.hid (by rw [HT.out, joinD_snoc, HCUR.out, offerD, hpc])
      rw [hpc] at CF
      simp only at CF
      have HNK' := HNK.out
      have hoN : o ≠ N := by have := HOO.out; omega
      have CO := Lib.hid (fun W (ho : OtherS o R c m W) => by
        have := find_any ho.nset x.nm (by rw [List.length_map]; omega)
        rw [place_idx, map_first, HPL.out] at this
        exact this)
      have HCE := Lib.hid (fun W (ho : OtherS o R c m W) j v (hj : j < 11) (hv : (firstF x).cells[j]? = some v) => show W.cell? ⟨R, p * 11 + j, none⟩ = some v by
        obtain ⟨g', eg, hat⟩ := ho.nset.at p (by rw [List.length_map]; exact hp)
        cases eg
        exact hat j v hj (by rw [List.getElem_map, HMP.out]; exact hv))
      have HOD := Lib.hid (fun W (hdw : Drawn wr W) => show OtherS o R c m W from HO.out.keep (by rw [hdw.heap]) (by rw [hdw.heap]))
      have hRl : R < wr.heap.size := (by
        obtain ⟨_, c', hc⟩ := ownsRow_cells HO.out.row (own_some _ _ _)
        exact lt_of_block hc)
      have hol := lt_of_block HO.out.ho
      by_cases ok : okP x cur
      · have HJX := Lib.hid (HJN.out (fun _ => ok))
        have CA := Lib.hid (fun W (hdw : Drawn wr W) => (addK_any (HNK.out.later hdw.below) (firstF x) (by rw [List.length_map]; omega) (by have := HSZ.out.2; show x.sh.size ≤ 2147483647; omega) ((okS_iff x cur).2 ok)).mono (fun e w' (hh : e = .returned (.bool true) ∧ ∃ fv', NSet w0 N fv' false sv (cur.map firstF ++ [firstF x]) w' ∧ (∀ R, fv'.ownBlock = some R → fk.ownBlock = some R ∨ W.heap.size ≤ R) ∧ ∀ b o, W.heap[b]? = some o → b ≠ N → some b ≠ fk.ownBlock → w'.heap[b]? = some o) =>
          show e = .returned (.bool true) ∧ ∃ fv', NSet w0 N fv' false sv ((cur ++ [x]).map firstF) w' ∧ fv'.ownBlock ≠ some R ∧ OtherS o R c m w' ∧ w'.ownsRow 0 9 1 (.slice (some ⟨gn, 0, none⟩) names.length nc) names.length (names.map Value.string) ∧ KeepB wr w' from by
            obtain ⟨he, fv', h1, h2, h3⟩ := hh
            have hOW := HOD.out W hdw
            have rowN : ∀ g, fk.ownBlock = some g → ∃ c', W.heap[g]? = some (.cells c' 62 (0, 0)) := fun g hg => (ownsRow_cells (HNK.out.later hdw.below).row hg).2
            have kk : ∀ {b : Nat} {c' : Array Value} {t : TypeId} {z : Nat × Nat}, W.heap[b]? = some (.cells c' t z) → t ≠ 62 → b ≠ N → w'.heap[b]? = some (.cells c' t z) := fun {b c' t z} hb ht hbN => h3 b _ hb hbN (fun e => by
              obtain ⟨c2, hc2⟩ := rowN b e.symm
              rw [hb] at hc2
              cases hc2
              exact ht rfl)
            refine ⟨he, fv', by rw [List.map_append]; exact h1, fun e => ?_, hOW.keep ?_ ?_, ?_, fun b c' t hb t1 t2 t3 => kk (by rw [hdw.heap]; exact hb) t2 (fun e => by
              have hNN := (HNK.out.later hdw.below).hN
              rw [← e, hdw.heap, hb] at hNN
              cases hNN
              exact t1 rfl)⟩
            · rcases h2 R e with q | q
              · exact HFR.out q
              · have : W.heap.size = wr.heap.size := by rw [hdw.heap]
                omega
            · exact (kk hOW.ho (by decide) hoN).trans hOW.ho.symm
            · obtain ⟨_, c', hc⟩ := ownsRow_cells hOW.row (own_some _ _ _)
              exact (h3 R _ hc (fun e => by
                have hNN := (HNK.out.later hdw.below).hN
                rw [← e, hc] at hNN
                cases hNN) (fun e => HFR.out e.symm)).trans hc.symm
            · have hrW : W.ownsRow 0 9 1 (.slice (some ⟨gn, 0, none⟩) names.length nc) names.length (names.map Value.string) := ownsRow_at HRK.out fun g _ => by rw [hdw.heap]
              refine ownsRow_at hrW fun g hg => ?_
              obtain ⟨_, c', hc⟩ := ownsRow_cells hrW hg
              exact (kk hc (by decide) (fun e => by
                have hNN := (HNK.out.later hdw.below).hN
                rw [← e, hc] at hNN
                cases hNN)).trans hc.symm))
        have HOW : Hid (∀ (L : Nat → Bool) (wz : World), (L 15 = false → Drawn wr wz) → (L 15 = true → ∃ fv', NSet w0 N fv' false sv ((cur ++ [x]).map firstF) wz ∧ fv'.ownBlock ≠ some R ∧ OtherS o R c m wz ∧ wz.ownsRow 0 9 1 (.slice (some ⟨gn, 0, none⟩) names.length nc) names.length (names.map Value.string) ∧ KeepB wr wz) → OtherS o R c m wz) := Lib.hid (fun L wz h1 h2 => by
          cases q : L 15 with
          | false => exact HOD.out wz (h1 q)
          | true => obtain ⟨_, _, _, h, _⟩ := h2 q; exact h)
        clear ok hpc HNK' HJN
        obtain ⟨nm, sh, kd, on, n6, tx⟩ := x
        obtain ⟨vl, hvl⟩ : ∃ vl, vl = valF ⟨nm, sh, kd, on, n6, tx⟩ := ⟨_, rfl⟩
        have HCE := Lib.hid (fun W (ho : OtherS o R c m W) => And.intro (show W.cell? ⟨R, p * 11, none⟩ = some (.string nm) from HCE.out W ho 0 _ (by omega) rfl) (And.intro (HCE.out W ho 1 (.string sh) (by omega) rfl) (And.intro (HCE.out W ho 2 (.int .i64 kd) (by omega) rfl) (And.intro (HCE.out W ho 3 (.bool on) (by omega) rfl) (And.intro (HCE.out W ho 4 (.int .i64 n6) (by omega) rfl) (And.intro (HCE.out W ho 5 (.string tx) (by omega) rfl) (And.intro (HCE.out W ho 6 (.string nm) (by omega) rfl) (And.intro (show W.cell? ⟨R, p * 11 + 7, none⟩ = some (.string vl) from by rw [hvl]; exact HCE.out W ho 7 _ (by omega) rfl) (And.intro (HCE.out W ho 8 (.bool false) (by omega) rfl) (And.intro (HCE.out W ho 9 (.bool false) (by omega) rfl) (HCE.out W ho 10 (.bool false) (by omega) rfl)))))))))))
        have CA := Lib.hid (fun W hdw => show Calls Tryz.prog 33 #[.pointer (some ⟨N, 0, none⟩), .agg #[.string nm, .string sh, .int .i64 kd, .bool on, .int .i64 n6, .string tx, .string nm, .string vl, .bool false, .bool false, .bool false]] W _ from by
          have := CA.out W hdw
          simp only [firstF, NFlag.cells, DefD.cells, List.cons_append, List.nil_append, ← hvl] at this
          exact this)
        simp only at CF CO
        clear hvl
        go_wp2_with fail
        refine wp_region_og regD (RegI (fun wz => Drawn wr wz) (fun wz => ∃ fv', NSet w0 N fv' false sv ((cur ++ [(⟨nm, sh, kd, on, n6, tx⟩ : DefD)]).map firstF) wz ∧ fv'.ownBlock ≠ some R ∧ OtherS o R c m wz ∧ wz.ownsRow 0 9 1 (.slice (some ⟨gn, 0, none⟩) names.length nc) names.length (names.map Value.string) ∧ KeepB wr wz) (fun iq => ([.pointer (some ⟨N, 0, none⟩), .string nm, .int .i64 (-1), .bool true, .bool true, .pointer (some ⟨N, 0, none⟩), .pointer (some ⟨o, 0, none⟩), .pointer (some ⟨o, 0, none⟩), .pointer (some ⟨o, 2, none⟩), .slice (some ⟨R, 0, none⟩) m.length c, .pointer (some ⟨o, 0, none⟩), .string nm, .int .i64 (p : Int), .pointer (some ⟨R, p * 11, none⟩), .agg #[.string nm, .string sh, .int .i64 kd, .bool on, .int .i64 n6, .string tx, .string nm, .string vl, .bool false, .bool false, .bool false], .bool true, .bool !true, .bool !true] : List Value)[iq]?.getD undef)) (by kernel_rfl) (by kernel_rfl) ⟨fun _ => ⟨1, rfl⟩, fun h => Bool.noConfusion h, fun h => Bool.noConfusion h, fun h => Bool.noConfusion h, fun h => Bool.noConfusion h, fun h => Bool.noConfusion h, fun _ _ h => Bool.noConfusion h⟩ ?_ ?_
        · intro i' o' ho L f wz hl hp hI
          have hi' : i' < 18 := (Array.getElem?_eq_some_iff.1 ho).1
          obtain rfl | rfl | rfl | rfl | rfl | rfl | rfl | rfl | rfl | rfl | rfl | rfl | rfl | rfl | rfl | rfl | rfl | rfl : i' = 0 ∨ i' = 1 ∨ i' = 2 ∨ i' = 3 ∨ i' = 4 ∨ i' = 5 ∨ i' = 6 ∨ i' = 7 ∨ i' = 8 ∨ i' = 9 ∨ i' = 10 ∨ i' = 11 ∨ i' = 12 ∨ i' = 13 ∨ i' = 14 ∨ i' = 15 ∨ i' = 16 ∨ i' = 17 := by omega
          all_goals obtain rfl := Option.some.inj ho
          · exact og_op rfl rfl (og_value (run_move ((over_eval_out _ _ _ (by decide)).trans rfl)) ⟨_, over_put _ _ _ (by decide) _, hI.step (i := 0) (d := 25) (by decide) rfl rfl (by decide) (fun h => by omega)⟩)
          · exact og_op rfl rfl (og_value (run_move ((over_eval_out _ _ _ (by decide)).trans rfl)) ⟨_, over_put _ _ _ (by decide) _, hI.step (i := 1) (d := 26) (by decide) rfl rfl (by decide) (fun h => by omega)⟩)
          · have e0 := hI.v 0 (by decide) (hp ⟨0, .data⟩ (by simp) rfl)
            have e1 := hI.v 1 (by decide) (hp ⟨1, .data⟩ (by simp) rfl)
            have h15 : L 15 = false := by
              cases q : L 15 with
              | false => rfl
              | true => rw [hI.c15 q] at hl; cases hl
            refine og_op rfl rfl (og_call (run_call2 ((over_eval _ _ _ (by decide) (by show 25 < 44; omega)).trans e0) ((over_eval _ _ _ (by decide) (by show 26 < 44; omega)).trans e1) rfl (fun args => by go_simp)) ?_)
            refine (CF.out wz (hI.wa h15)).mono ?_
            rintro e w' ⟨rfl, rfl⟩
            exact ⟨_, rfl, _, over_put _ _ _ (by decide) _, hI.step (i := 2) (d := 27) (by decide) rfl rfl (by decide) (fun h => by omega)⟩
          · have e2 := hI.v 2 (by decide) (hp ⟨2, .data⟩ (by simp) rfl)
            have hd3 : decide ((-1 : Int) < 0) = true := by simp
            have hv3 : (([.pointer (some ⟨N, 0, none⟩), .string nm, .int .i64 (-1), .bool true, .bool true, .pointer (some ⟨N, 0, none⟩), .pointer (some ⟨o, 0, none⟩), .pointer (some ⟨o, 0, none⟩), .pointer (some ⟨o, 2, none⟩), .slice (some ⟨R, 0, none⟩) m.length c, .pointer (some ⟨o, 0, none⟩), .string nm, .int .i64 (p : Int), .pointer (some ⟨R, p * 11, none⟩), .agg #[.string nm, .string sh, .int .i64 kd, .bool on, .int .i64 n6, .string tx, .string nm, .string vl, .bool false, .bool false, .bool false], .bool true, .bool !true, .bool !true] : List Value)[3]?.getD undef) = .bool (decide ((-1 : Int) < 0)) := by rw [hd3]; rfl
            exact og_op rfl rfl (og_value (run_lss0 ((over_eval _ _ _ (by decide) (by show 27 < 44; omega)).trans e2) rfl) ⟨_, over_put _ _ _ (by decide) _, hI.step (i := 3) (d := 28) (by decide) rfl hv3 (by decide) (fun _ => hp ⟨2, .data⟩ (by simp) rfl)⟩)
          · have e3 := hI.v 3 (by decide) (hp ⟨3, .data⟩ (by simp) rfl)
            exact og_op rfl rfl (og_value (run_move ((over_eval _ _ _ (by decide) (by show 28 < 44; omega)).trans e3)) ⟨_, over_put _ _ _ (by decide) _, hI.step (i := 4) (d := 29) (by decide) rfl rfl (by decide) (fun _ => hI.c3 (hp ⟨3, .data⟩ (by simp) rfl))⟩)
          · have eg := hI.v 4 (by decide) (hp ⟨4, .guard⟩ (by simp) rfl)
            exact og_on rfl rfl rfl ((tmp_over _ _ _ (by decide) (by show 29 < 44; omega)).trans (congrArg some eg)) (og_value (run_move ((over_eval_out _ _ _ (by decide)).trans rfl)) ⟨_, over_put _ _ _ (by decide) _, hI.step (i := 5) (d := 30) (by decide) rfl rfl (by decide) (fun _ => hI.c4 (hp ⟨4, .guard⟩ (by simp) rfl))⟩)
          · have eg := hI.v 4 (by decide) (hp ⟨4, .guard⟩ (by simp) rfl)
            exact og_on rfl rfl rfl ((tmp_over _ _ _ (by decide) (by show 29 < 44; omega)).trans (congrArg some eg)) (og_value (run_move ((over_eval_out _ _ _ (by decide)).trans rfl)) ⟨_, over_put _ _ _ (by decide) _, hI.step (i := 6) (d := 31) (by decide) rfl rfl (by decide) (fun h => by omega)⟩)
          · have e6 := hI.v 6 (by decide) (hp ⟨6, .data⟩ (by simp) rfl)
            have eg := hI.v 4 (by decide) (hp ⟨4, .guard⟩ (by simp) rfl)
            exact og_on rfl rfl rfl ((tmp_over _ _ _ (by decide) (by show 29 < 44; omega)).trans (congrArg some eg)) (og_value (run_nilP ((over_eval _ _ _ (by decide) (by show 31 < 44; omega)).trans e6)) ⟨_, over_put _ _ _ (by decide) _, hI.step (i := 7) (d := 32) (by decide) rfl rfl (by decide) (fun h => by omega)⟩)
          · have e7 := hI.v 7 (by decide) (hp ⟨7, .data⟩ (by simp) rfl)
            have eg := hI.v 4 (by decide) (hp ⟨4, .guard⟩ (by simp) rfl)
            exact og_on rfl rfl rfl ((tmp_over _ _ _ (by decide) (by show 29 < 44; omega)).trans (congrArg some eg)) (og_value (run_fieldS2 ((over_eval _ _ _ (by decide) (by show 32 < 44; omega)).trans e7)) ⟨_, over_put _ _ _ (by decide) _, hI.step (i := 8) (d := 33) (by decide) rfl rfl (by decide) (fun h => by omega)⟩)
          · have e8 := hI.v 8 (by decide) (hp ⟨8, .data⟩ (by simp) rfl)
            have eg := hI.v 4 (by decide) (hp ⟨4, .guard⟩ (by simp) rfl)
            exact og_on rfl rfl rfl ((tmp_over _ _ _ (by decide) (by show 29 < 44; omega)).trans (congrArg some eg)) (og_value (run_loadFl ((over_eval _ _ _ (by decide) (by show 33 < 44; omega)).trans e8) (cell_of (HOW.out L wz hI.wa hI.wb).ho 2 _ rfl)) ⟨_, over_put _ _ _ (by decide) _, hI.step (i := 9) (d := 34) (by decide) rfl rfl (by decide) (fun h => by omega)⟩)
          · have eg := hI.v 4 (by decide) (hp ⟨4, .guard⟩ (by simp) rfl)
            exact og_on rfl rfl rfl ((tmp_over _ _ _ (by decide) (by show 29 < 44; omega)).trans (congrArg some eg)) (og_value (run_move ((over_eval_out _ _ _ (by decide)).trans rfl)) ⟨_, over_put _ _ _ (by decide) _, hI.step (i := 10) (d := 35) (by decide) rfl rfl (by decide) (fun h => by omega)⟩)
          · have eg := hI.v 4 (by decide) (hp ⟨4, .guard⟩ (by simp) rfl)
            exact og_on rfl rfl rfl ((tmp_over _ _ _ (by decide) (by show 29 < 44; omega)).trans (congrArg some eg)) (og_value (run_move ((over_eval_out _ _ _ (by decide)).trans rfl)) ⟨_, over_put _ _ _ (by decide) _, hI.step (i := 11) (d := 36) (by decide) rfl rfl (by decide) (fun h => by omega)⟩)
          · have e10 := hI.v 10 (by decide) (hp ⟨10, .data⟩ (by simp) rfl)
            have e11 := hI.v 11 (by decide) (hp ⟨11, .data⟩ (by simp) rfl)
            have eg := hI.v 4 (by decide) (hp ⟨4, .guard⟩ (by simp) rfl)
            refine og_on rfl rfl rfl ((tmp_over _ _ _ (by decide) (by show 29 < 44; omega)).trans (congrArg some eg)) (og_call (run_call2 ((over_eval _ _ _ (by decide) (by show 35 < 44; omega)).trans e10) ((over_eval _ _ _ (by decide) (by show 36 < 44; omega)).trans e11) rfl (fun args => by go_simp)) ?_)
            refine (CO.out wz (HOW.out L wz hI.wa hI.wb)).mono ?_
            rintro e w' ⟨rfl, rfl⟩
            exact ⟨_, rfl, _, over_put _ _ _ (by decide) _, hI.step (i := 12) (d := 37) (by decide) rfl rfl (by decide) (fun h => by omega)⟩
          · have e9 := hI.v 9 (by decide) (hp ⟨9, .data⟩ (by simp) rfl)
            have e12 := hI.v 12 (by decide) (hp ⟨12, .data⟩ (by simp) rfl)
            have eg := hI.v 4 (by decide) (hp ⟨4, .guard⟩ (by simp) rfl)
            exact og_on rfl rfl rfl ((tmp_over _ _ _ (by decide) (by show 29 < 44; omega)).trans (congrArg some eg)) (og_value (run_idxF ((over_eval _ _ _ (by decide) (by show 34 < 44; omega)).trans e9) ((over_eval _ _ _ (by decide) (by show 37 < 44; omega)).trans e12) (by omega)) ⟨_, over_put _ _ _ (by decide) _, hI.step (i := 13) (d := 38) (by decide) rfl rfl (by decide) (fun h => by omega)⟩)
          · have e13 := hI.v 13 (by decide) (hp ⟨13, .data⟩ (by simp) rfl)
            obtain ⟨b0, b1, b2, b3, b4, b5, b6, b7, b8, b9, b10⟩ := HCE.out wz (HOW.out L wz hI.wa hI.wb)
            have eg := hI.v 4 (by decide) (hp ⟨4, .guard⟩ (by simp) rfl)
            exact og_on rfl rfl rfl ((tmp_over _ _ _ (by decide) (by show 29 < 44; omega)).trans (congrArg some eg)) (og_value (run_loadF11 ((over_eval _ _ _ (by decide) (by show 38 < 44; omega)).trans e13) b0 b1 b2 b3 b4 b5 b6 b7 b8 b9 b10) ⟨_, over_put _ _ _ (by decide) _, hI.step (i := 14) (d := 39) (by decide) rfl rfl (by decide) (fun h => by omega)⟩)
          · have e5 := hI.v 5 (by decide) (hp ⟨5, .data⟩ (by simp) rfl)
            have e14 := hI.v 14 (by decide) (hp ⟨14, .data⟩ (by simp) rfl)
            have eg := hI.v 4 (by decide) (hp ⟨4, .guard⟩ (by simp) rfl)
            refine og_on rfl rfl rfl ((tmp_over _ _ _ (by decide) (by show 29 < 44; omega)).trans (congrArg some eg)) (og_call (run_call2 ((over_eval _ _ _ (by decide) (by show 30 < 44; omega)).trans e5) ((over_eval _ _ _ (by decide) (by show 39 < 44; omega)).trans e14) rfl (fun args => by go_simp)) ?_)
            refine (CA.out wz (hI.wa hl)).mono ?_
            rintro e w' ⟨rfl, hwb⟩
            exact ⟨_, rfl, _, over_put _ _ _ (by decide) _, hI.add rfl (hp ⟨5, .data⟩ (by simp) rfl) hwb⟩
          · have e15 := hI.v 15 (by decide) (hp ⟨15, .data⟩ (by simp) rfl)
            have eg := hI.v 4 (by decide) (hp ⟨4, .guard⟩ (by simp) rfl)
            exact og_on rfl rfl rfl ((tmp_over _ _ _ (by decide) (by show 29 < 44; omega)).trans (congrArg some eg)) (og_value (run_notB ((over_eval _ _ _ (by decide) (by show 40 < 44; omega)).trans e15)) ⟨_, over_put _ _ _ (by decide) _, hI.step (i := 16) (d := 41) (by decide) rfl rfl (by decide) (fun h => by omega)⟩)
          · have e4 := hI.v 4 (by decide) (hp ⟨4, .data⟩ (by simp) rfl)
            have e16 := hI.v 16 (by decide) (hp ⟨16, .data⟩ (by simp) rfl)
            exact og_op rfl rfl (og_value (run_pickB ((over_eval _ _ _ (by decide) (by show 29 < 44; omega)).trans e4) ((over_eval _ _ _ (by decide) (by show 41 < 44; omega)).trans e16)) ⟨_, over_put _ _ _ (by decide) _, hI.step (i := 17) (d := 42) (by decide) rfl rfl (by decide) (fun h => by omega)⟩)
        · intro L f wz hL hI
          obtain ⟨fv', h1, h2, h3, h4, h5⟩ := hI.wb (hL 15 (by decide))
          have e17 : f 42 = .bool false := hI.v 17 (by decide) (hL 17 (by decide))
          have H1 := Lib.hid h1
          have H3 := Lib.hid h3
          have H4 := Lib.hid h4
          have H2 := Lib.hid h2
          have H5 := Lib.hid (HKB.out.trans h5)
          clear hI hL CF CA CO HCE HOW h1 h2 h3 h4 h5
          simp only [over, ovl, regD, List.contains, List.elem, Nat.reduceBEq, Bool.false_eq_true, if_false, if_true, Nat.reduceAdd]
          rw [e17]
          go_wp2_with fail
          go_roundw
          case rel => exact ⟨k + 1, by omega, by go_num, ⟨fv', by rw [HNX.out]; exact H1.out, fun _ => H2.out⟩, fun _ => H3.out, H4.out, H5.out, HJX.out⟩
          case measure => simp [intOf]; omega
      · have CA := Lib.hid (fun W (hdw : Drawn wr W) => (addBad_any (HNK.out.later hdw.below) (firstF x) (by rw [List.length_map]; omega) (by have := HSZ.out.2; show x.sh.size ≤ 2147483647; omega) (fun h => ok ((okS_iff x cur).1 h))).mono (fun e w' (hh : e = .returned (.bool false) ∧ Below W.heap.size W w') => show e = .returned (.bool false) ∧ Below wr.heap.size wr w' from ⟨hh.1, hdw.below.trans (hh.2.mono (by rw [hdw.heap]; exact Nat.le_refl _))⟩))
        have HOW : Hid (∀ (L : Nat → Bool) (wz : World), (L 15 = false → Drawn wr wz) → (L 15 = true → Below wr.heap.size wr wz) → OtherS o R c m wz) := Lib.hid (fun L wz h1 h2 => by
          cases q : L 15 with
          | false => exact HOD.out wz (h1 q)
          | true => exact HO.out.keep ((h2 q).block _ hol) ((h2 q).block _ hRl))
        clear ok hpc HNK' HJN
        obtain ⟨nm, sh, kd, on, n6, tx⟩ := x
        obtain ⟨vl, hvl⟩ : ∃ vl, vl = valF ⟨nm, sh, kd, on, n6, tx⟩ := ⟨_, rfl⟩
        have HCE := Lib.hid (fun W (ho : OtherS o R c m W) => And.intro (show W.cell? ⟨R, p * 11, none⟩ = some (.string nm) from HCE.out W ho 0 _ (by omega) rfl) (And.intro (HCE.out W ho 1 (.string sh) (by omega) rfl) (And.intro (HCE.out W ho 2 (.int .i64 kd) (by omega) rfl) (And.intro (HCE.out W ho 3 (.bool on) (by omega) rfl) (And.intro (HCE.out W ho 4 (.int .i64 n6) (by omega) rfl) (And.intro (HCE.out W ho 5 (.string tx) (by omega) rfl) (And.intro (HCE.out W ho 6 (.string nm) (by omega) rfl) (And.intro (show W.cell? ⟨R, p * 11 + 7, none⟩ = some (.string vl) from by rw [hvl]; exact HCE.out W ho 7 _ (by omega) rfl) (And.intro (HCE.out W ho 8 (.bool false) (by omega) rfl) (And.intro (HCE.out W ho 9 (.bool false) (by omega) rfl) (HCE.out W ho 10 (.bool false) (by omega) rfl)))))))))))
        have CA := Lib.hid (fun W hdw => show Calls Tryz.prog 33 #[.pointer (some ⟨N, 0, none⟩), .agg #[.string nm, .string sh, .int .i64 kd, .bool on, .int .i64 n6, .string tx, .string nm, .string vl, .bool false, .bool false, .bool false]] W _ from by
          have := CA.out W hdw
          simp only [firstF, NFlag.cells, DefD.cells, List.cons_append, List.nil_append, ← hvl] at this
          exact this)
        simp only at CF CO
        clear hvl
        go_wp2_with fail
        refine wp_region_og regD (RegI (fun wz => Drawn wr wz) (fun wz => Below wr.heap.size wr wz) (fun iq => ([.pointer (some ⟨N, 0, none⟩), .string nm, .int .i64 (-1), .bool true, .bool true, .pointer (some ⟨N, 0, none⟩), .pointer (some ⟨o, 0, none⟩), .pointer (some ⟨o, 0, none⟩), .pointer (some ⟨o, 2, none⟩), .slice (some ⟨R, 0, none⟩) m.length c, .pointer (some ⟨o, 0, none⟩), .string nm, .int .i64 (p : Int), .pointer (some ⟨R, p * 11, none⟩), .agg #[.string nm, .string sh, .int .i64 kd, .bool on, .int .i64 n6, .string tx, .string nm, .string vl, .bool false, .bool false, .bool false], .bool false, .bool !false, .bool !false] : List Value)[iq]?.getD undef)) (by kernel_rfl) (by kernel_rfl) ⟨fun _ => ⟨1, rfl⟩, fun h => Bool.noConfusion h, fun h => Bool.noConfusion h, fun h => Bool.noConfusion h, fun h => Bool.noConfusion h, fun h => Bool.noConfusion h, fun _ _ h => Bool.noConfusion h⟩ ?_ ?_
        · intro i' o' ho L f wz hl hp hI
          have hi' : i' < 18 := (Array.getElem?_eq_some_iff.1 ho).1
          obtain rfl | rfl | rfl | rfl | rfl | rfl | rfl | rfl | rfl | rfl | rfl | rfl | rfl | rfl | rfl | rfl | rfl | rfl : i' = 0 ∨ i' = 1 ∨ i' = 2 ∨ i' = 3 ∨ i' = 4 ∨ i' = 5 ∨ i' = 6 ∨ i' = 7 ∨ i' = 8 ∨ i' = 9 ∨ i' = 10 ∨ i' = 11 ∨ i' = 12 ∨ i' = 13 ∨ i' = 14 ∨ i' = 15 ∨ i' = 16 ∨ i' = 17 := by omega
          all_goals obtain rfl := Option.some.inj ho
          · exact og_op rfl rfl (og_value (run_move ((over_eval_out _ _ _ (by decide)).trans rfl)) ⟨_, over_put _ _ _ (by decide) _, hI.step (i := 0) (d := 25) (by decide) rfl rfl (by decide) (fun h => by omega)⟩)
          · exact og_op rfl rfl (og_value (run_move ((over_eval_out _ _ _ (by decide)).trans rfl)) ⟨_, over_put _ _ _ (by decide) _, hI.step (i := 1) (d := 26) (by decide) rfl rfl (by decide) (fun h => by omega)⟩)
          · have e0 := hI.v 0 (by decide) (hp ⟨0, .data⟩ (by simp) rfl)
            have e1 := hI.v 1 (by decide) (hp ⟨1, .data⟩ (by simp) rfl)
            have h15 : L 15 = false := by
              cases q : L 15 with
              | false => rfl
              | true => rw [hI.c15 q] at hl; cases hl
            refine og_op rfl rfl (og_call (run_call2 ((over_eval _ _ _ (by decide) (by show 25 < 44; omega)).trans e0) ((over_eval _ _ _ (by decide) (by show 26 < 44; omega)).trans e1) rfl (fun args => by go_simp)) ?_)
            refine (CF.out wz (hI.wa h15)).mono ?_
            rintro e w' ⟨rfl, rfl⟩
            exact ⟨_, rfl, _, over_put _ _ _ (by decide) _, hI.step (i := 2) (d := 27) (by decide) rfl rfl (by decide) (fun h => by omega)⟩
          · have e2 := hI.v 2 (by decide) (hp ⟨2, .data⟩ (by simp) rfl)
            have hd3 : decide ((-1 : Int) < 0) = true := by simp
            have hv3 : (([.pointer (some ⟨N, 0, none⟩), .string nm, .int .i64 (-1), .bool true, .bool true, .pointer (some ⟨N, 0, none⟩), .pointer (some ⟨o, 0, none⟩), .pointer (some ⟨o, 0, none⟩), .pointer (some ⟨o, 2, none⟩), .slice (some ⟨R, 0, none⟩) m.length c, .pointer (some ⟨o, 0, none⟩), .string nm, .int .i64 (p : Int), .pointer (some ⟨R, p * 11, none⟩), .agg #[.string nm, .string sh, .int .i64 kd, .bool on, .int .i64 n6, .string tx, .string nm, .string vl, .bool false, .bool false, .bool false], .bool false, .bool !false, .bool !false] : List Value)[3]?.getD undef) = .bool (decide ((-1 : Int) < 0)) := by rw [hd3]; rfl
            exact og_op rfl rfl (og_value (run_lss0 ((over_eval _ _ _ (by decide) (by show 27 < 44; omega)).trans e2) rfl) ⟨_, over_put _ _ _ (by decide) _, hI.step (i := 3) (d := 28) (by decide) rfl hv3 (by decide) (fun _ => hp ⟨2, .data⟩ (by simp) rfl)⟩)
          · have e3 := hI.v 3 (by decide) (hp ⟨3, .data⟩ (by simp) rfl)
            exact og_op rfl rfl (og_value (run_move ((over_eval _ _ _ (by decide) (by show 28 < 44; omega)).trans e3)) ⟨_, over_put _ _ _ (by decide) _, hI.step (i := 4) (d := 29) (by decide) rfl rfl (by decide) (fun _ => hI.c3 (hp ⟨3, .data⟩ (by simp) rfl))⟩)
          · have eg := hI.v 4 (by decide) (hp ⟨4, .guard⟩ (by simp) rfl)
            exact og_on rfl rfl rfl ((tmp_over _ _ _ (by decide) (by show 29 < 44; omega)).trans (congrArg some eg)) (og_value (run_move ((over_eval_out _ _ _ (by decide)).trans rfl)) ⟨_, over_put _ _ _ (by decide) _, hI.step (i := 5) (d := 30) (by decide) rfl rfl (by decide) (fun _ => hI.c4 (hp ⟨4, .guard⟩ (by simp) rfl))⟩)
          · have eg := hI.v 4 (by decide) (hp ⟨4, .guard⟩ (by simp) rfl)
            exact og_on rfl rfl rfl ((tmp_over _ _ _ (by decide) (by show 29 < 44; omega)).trans (congrArg some eg)) (og_value (run_move ((over_eval_out _ _ _ (by decide)).trans rfl)) ⟨_, over_put _ _ _ (by decide) _, hI.step (i := 6) (d := 31) (by decide) rfl rfl (by decide) (fun h => by omega)⟩)
          · have e6 := hI.v 6 (by decide) (hp ⟨6, .data⟩ (by simp) rfl)
            have eg := hI.v 4 (by decide) (hp ⟨4, .guard⟩ (by simp) rfl)
            exact og_on rfl rfl rfl ((tmp_over _ _ _ (by decide) (by show 29 < 44; omega)).trans (congrArg some eg)) (og_value (run_nilP ((over_eval _ _ _ (by decide) (by show 31 < 44; omega)).trans e6)) ⟨_, over_put _ _ _ (by decide) _, hI.step (i := 7) (d := 32) (by decide) rfl rfl (by decide) (fun h => by omega)⟩)
          · have e7 := hI.v 7 (by decide) (hp ⟨7, .data⟩ (by simp) rfl)
            have eg := hI.v 4 (by decide) (hp ⟨4, .guard⟩ (by simp) rfl)
            exact og_on rfl rfl rfl ((tmp_over _ _ _ (by decide) (by show 29 < 44; omega)).trans (congrArg some eg)) (og_value (run_fieldS2 ((over_eval _ _ _ (by decide) (by show 32 < 44; omega)).trans e7)) ⟨_, over_put _ _ _ (by decide) _, hI.step (i := 8) (d := 33) (by decide) rfl rfl (by decide) (fun h => by omega)⟩)
          · have e8 := hI.v 8 (by decide) (hp ⟨8, .data⟩ (by simp) rfl)
            have eg := hI.v 4 (by decide) (hp ⟨4, .guard⟩ (by simp) rfl)
            exact og_on rfl rfl rfl ((tmp_over _ _ _ (by decide) (by show 29 < 44; omega)).trans (congrArg some eg)) (og_value (run_loadFl ((over_eval _ _ _ (by decide) (by show 33 < 44; omega)).trans e8) (cell_of (HOW.out L wz hI.wa hI.wb).ho 2 _ rfl)) ⟨_, over_put _ _ _ (by decide) _, hI.step (i := 9) (d := 34) (by decide) rfl rfl (by decide) (fun h => by omega)⟩)
          · have eg := hI.v 4 (by decide) (hp ⟨4, .guard⟩ (by simp) rfl)
            exact og_on rfl rfl rfl ((tmp_over _ _ _ (by decide) (by show 29 < 44; omega)).trans (congrArg some eg)) (og_value (run_move ((over_eval_out _ _ _ (by decide)).trans rfl)) ⟨_, over_put _ _ _ (by decide) _, hI.step (i := 10) (d := 35) (by decide) rfl rfl (by decide) (fun h => by omega)⟩)
          · have eg := hI.v 4 (by decide) (hp ⟨4, .guard⟩ (by simp) rfl)
            exact og_on rfl rfl rfl ((tmp_over _ _ _ (by decide) (by show 29 < 44; omega)).trans (congrArg some eg)) (og_value (run_move ((over_eval_out _ _ _ (by decide)).trans rfl)) ⟨_, over_put _ _ _ (by decide) _, hI.step (i := 11) (d := 36) (by decide) rfl rfl (by decide) (fun h => by omega)⟩)
          · have e10 := hI.v 10 (by decide) (hp ⟨10, .data⟩ (by simp) rfl)
            have e11 := hI.v 11 (by decide) (hp ⟨11, .data⟩ (by simp) rfl)
            have eg := hI.v 4 (by decide) (hp ⟨4, .guard⟩ (by simp) rfl)
            refine og_on rfl rfl rfl ((tmp_over _ _ _ (by decide) (by show 29 < 44; omega)).trans (congrArg some eg)) (og_call (run_call2 ((over_eval _ _ _ (by decide) (by show 35 < 44; omega)).trans e10) ((over_eval _ _ _ (by decide) (by show 36 < 44; omega)).trans e11) rfl (fun args => by go_simp)) ?_)
            refine (CO.out wz (HOW.out L wz hI.wa hI.wb)).mono ?_
            rintro e w' ⟨rfl, rfl⟩
            exact ⟨_, rfl, _, over_put _ _ _ (by decide) _, hI.step (i := 12) (d := 37) (by decide) rfl rfl (by decide) (fun h => by omega)⟩
          · have e9 := hI.v 9 (by decide) (hp ⟨9, .data⟩ (by simp) rfl)
            have e12 := hI.v 12 (by decide) (hp ⟨12, .data⟩ (by simp) rfl)
            have eg := hI.v 4 (by decide) (hp ⟨4, .guard⟩ (by simp) rfl)
            exact og_on rfl rfl rfl ((tmp_over _ _ _ (by decide) (by show 29 < 44; omega)).trans (congrArg some eg)) (og_value (run_idxF ((over_eval _ _ _ (by decide) (by show 34 < 44; omega)).trans e9) ((over_eval _ _ _ (by decide) (by show 37 < 44; omega)).trans e12) (by omega)) ⟨_, over_put _ _ _ (by decide) _, hI.step (i := 13) (d := 38) (by decide) rfl rfl (by decide) (fun h => by omega)⟩)
          · have e13 := hI.v 13 (by decide) (hp ⟨13, .data⟩ (by simp) rfl)
            obtain ⟨b0, b1, b2, b3, b4, b5, b6, b7, b8, b9, b10⟩ := HCE.out wz (HOW.out L wz hI.wa hI.wb)
            have eg := hI.v 4 (by decide) (hp ⟨4, .guard⟩ (by simp) rfl)
            exact og_on rfl rfl rfl ((tmp_over _ _ _ (by decide) (by show 29 < 44; omega)).trans (congrArg some eg)) (og_value (run_loadF11 ((over_eval _ _ _ (by decide) (by show 38 < 44; omega)).trans e13) b0 b1 b2 b3 b4 b5 b6 b7 b8 b9 b10) ⟨_, over_put _ _ _ (by decide) _, hI.step (i := 14) (d := 39) (by decide) rfl rfl (by decide) (fun h => by omega)⟩)
          · have e5 := hI.v 5 (by decide) (hp ⟨5, .data⟩ (by simp) rfl)
            have e14 := hI.v 14 (by decide) (hp ⟨14, .data⟩ (by simp) rfl)
            have eg := hI.v 4 (by decide) (hp ⟨4, .guard⟩ (by simp) rfl)
            refine og_on rfl rfl rfl ((tmp_over _ _ _ (by decide) (by show 29 < 44; omega)).trans (congrArg some eg)) (og_call (run_call2 ((over_eval _ _ _ (by decide) (by show 30 < 44; omega)).trans e5) ((over_eval _ _ _ (by decide) (by show 39 < 44; omega)).trans e14) rfl (fun args => by go_simp)) ?_)
            refine (CA.out wz (hI.wa hl)).mono ?_
            rintro e w' ⟨rfl, hwb⟩
            exact ⟨_, rfl, _, over_put _ _ _ (by decide) _, hI.add rfl (hp ⟨5, .data⟩ (by simp) rfl) hwb⟩
          · have e15 := hI.v 15 (by decide) (hp ⟨15, .data⟩ (by simp) rfl)
            have eg := hI.v 4 (by decide) (hp ⟨4, .guard⟩ (by simp) rfl)
            exact og_on rfl rfl rfl ((tmp_over _ _ _ (by decide) (by show 29 < 44; omega)).trans (congrArg some eg)) (og_value (run_notB ((over_eval _ _ _ (by decide) (by show 40 < 44; omega)).trans e15)) ⟨_, over_put _ _ _ (by decide) _, hI.step (i := 16) (d := 41) (by decide) rfl rfl (by decide) (fun h => by omega)⟩)
          · have e4 := hI.v 4 (by decide) (hp ⟨4, .data⟩ (by simp) rfl)
            have e16 := hI.v 16 (by decide) (hp ⟨16, .data⟩ (by simp) rfl)
            exact og_op rfl rfl (og_value (run_pickB ((over_eval _ _ _ (by decide) (by show 29 < 44; omega)).trans e4) ((over_eval _ _ _ (by decide) (by show 41 < 44; omega)).trans e16)) ⟨_, over_put _ _ _ (by decide) _, hI.step (i := 17) (d := 42) (by decide) rfl rfl (by decide) (fun h => by omega)⟩)
        · intro L f wz hL hI
          have hbz := hI.wb (hL 15 (by decide))
          have e17 : f 42 = .bool true := hI.v 17 (by decide) (hL 17 (by decide))
          have HKZ := Lib.hid (HKB.out.trans (KeepB.below hbz))
          have HBZ : Hid (Below w0.heap.size w0 wz) := Lib.hid (HNK.out.bel.trans (hbz.mono HNK.out.bel.size))
          clear hI hL CF CA CO HCE HOW hbz
          simp only [over, ovl, regD, List.contains, List.elem, Nat.reduceBEq, Bool.false_eq_true, if_false, if_true, Nat.reduceAdd]
          rw [e17]
          go_wp2_with fail
          go_ret
          exact ⟨false, rfl, fun h => Bool.noConfusion h, HBZ.out, HKZ.out⟩
end Go.Proofs.YtmmkebdaijmpiaaGreat
