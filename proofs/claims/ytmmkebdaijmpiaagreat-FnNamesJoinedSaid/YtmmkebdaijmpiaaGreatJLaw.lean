/- The law FnNamesJoined. (Printed by gen_jlaw.py.) -/
import Derived.Test.YtmmkebdaijmpiaaGreatJCmp
namespace Go.Proofs.YtmmkebdaijmpiaaGreat
open Go.RowKit
set_option linter.unusedVariables false
set_option linter.unusedSimpArgs false

def cmpD : List Nat := [107, 108, 109, 110, 111, 112, 113, 114, 115, 116]
theorem defsN_nms (l : List DefD) : ∀ x ∈ defsN l, x.nm.size ≤ 1048576 := by
  intro x hx
  obtain ⟨y, _, rfl⟩ := List.mem_map.1 hx
  have := cutN_size y.nm
  show (cutN y.nm).size ≤ 1048576
  omega
/-- A row of another type behind a growth. -/
theorem row_other {w0 w w1 : World} {e e2 : TypeId} {sz n sz2 n2 B : Nat} {v v2 : Value} {xs xs2 : List Value} (hr : w.ownsRow w0.heap.size e sz v n xs) (hg : w.grownBy w1 v.ownBlock) (h2 : w.ownsRow B e2 sz2 v2 n2 xs2) (hne : e2 ≠ e) : w1.ownsRow B e2 sz2 v2 n2 xs2 :=
  ownsRow_at h2 fun g hg2 => by
    obtain ⟨_, c, hc⟩ := ownsRow_cells h2 hg2
    rw [grown_other hr hg hc hne, hc]
theorem nset_other {w0 w w1 : World} {e : TypeId} {sz n N : Nat} {v fv sv : Value} {xs : List Value} {pl : Bool} {l : List NFlag} (hr : w.ownsRow w0.heap.size e sz v n xs) (hg : w.grownBy w1 v.ownBlock) (h : NSet w0 N fv pl sv l w) (h1 : e ≠ 41) (h2 : e ≠ 62) : NSet w0 N fv pl sv l w1 :=
  ⟨grown_below h.bel h.bel.size hr hg, grown_other hr hg h.hN (Ne.symm h1), row_other hr hg h.row (Ne.symm h2), h.lN⟩
/-- The row of what is wanted grows. -/
theorem want_grown {w0 w w1 : World} {N n k q c : Nat} {v fv sv : Value} {xs ts : List Value} {pl : Bool} {l : List NFlag} {o : Obj} (hb : Below w0.heap.size w0 w) (ht : w.ownsRow w0.heap.size 37 6 (.slice (some ⟨q, 0, none⟩) n c) n ts) (h : NSet w0 N fv pl sv l w) (hr : w.ownsRow w0.heap.size 32 9 v k xs) (hg : (w.alloc o).grownBy w1 v.ownBlock) :
    Below w0.heap.size w0 w1 ∧ w1.ownsRow w0.heap.size 37 6 (.slice (some ⟨q, 0, none⟩) n c) n ts ∧ NSet w0 N fv pl sv l w1 := by
  have ha := (Below.refl w.heap.size w).alloc (Nat.le_refl _) o
  have hr1 := row_grow hr ha
  exact ⟨grown_below (hb.alloc hb.size _) (by simp only [World.size_alloc]; exact Nat.le_succ_of_le hb.size) hr1 hg, row_other hr1 hg (row_grow ht ha) (by decide), nset_other hr1 hg (h.later ha) (by decide) (by decide)⟩
theorem row_keepB {w w' : World} {B n sz : Nat} {e : TypeId} {v : Value} {xs : List Value} (h : w.ownsRow B e sz v n xs) (hk : KeepB w w') (h1 : e ≠ 41) (h2 : e ≠ 62) (h3 : e ≠ 3) : w'.ownsRow B e sz v n xs :=
  ownsRow_at h fun g hg => by
    obtain ⟨_, c, hc⟩ := ownsRow_cells h hg
    rw [hk _ _ _ hc h1 h2 h3, hc]

set_option maxRecDepth 100000 in
set_option maxHeartbeats 1600000 in
theorem fnNamesJoined_law (v1 v2 : Value) (l m : List DefD) (w : World) (hv1 : Defs w v1 l) (hl : l.length ≤ maxLen) (hv2 : Defs w v2 m) (hm : m.length ≤ maxLen) :
    Calls Tryz.prog 4 #[v1, v2] w fun e w' => e = .returned (.bool true) ∧ Below w.heap.size w w' := by
  obtain ⟨i0, hi0, hz0, hz1, hz2⟩ := info_parts infoTurn
  obtain ⟨j0, hj0, hjz, hj1, hj2⟩ := info_parts infoNote
  have C1 := Lib.hid (fits15_any v1 l w hv1 hl)
  have C1b := Lib.hid (fun W (hb : Below w.heap.size w W) => fits15_any v2 m W (hv2.later hb) hm)
  have HV1 := Lib.hid hv1
  have HV2 := Lib.hid hv2
  obtain ⟨a1, cap1, rfl, -⟩ := hv1.len
  obtain ⟨a2, cap2, rfl, -⟩ := hv2.len
  clear hv1 hv2
  go_enter Tryz.func4, Tryz.ntmps4
  go_wp2_with fail
  refine C1.out.mono ?_
  rintro e w1 ⟨b, rfl, hb1, hsz⟩
  have HB1 := Lib.hid hb1
  cases b with
  | false =>
    go_wp2_with fail
    go_ret
    exact ⟨rfl, HB1.out⟩
  | true =>
  have HSZ := Lib.hid (hsz rfl)
  have C1c := Lib.hid (C1b.out w1 hb1)
  clear hb1 hsz C1 C1b
  go_wp2_with fail
  refine C1c.out.mono ?_
  rintro e w1b ⟨b, rfl, hb1, hsz⟩
  have HB1b : Hid (Below w.heap.size w w1b) := Lib.hid (HB1.out.trans (hb1.mono HB1.out.size))
  cases b with
  | false =>
    go_wp2_with fail
    go_ret
    exact ⟨rfl, HB1b.out⟩
  | true =>
  have HSZ2 := Lib.hid (hsz rfl)
  have C2 := Lib.hid (nameDefs_any _ l w1b (HV1.out.later HB1b.out) HSZ.out.1 HSZ.out.2)
  clear hb1 hsz C1c HB1
  go_wp2_with fail
  refine C2.out.mono ?_
  rintro e w2 ⟨rv, rfl, hd2, hb2⟩
  have HB2 : Hid (Below w.heap.size w w2) := Lib.hid (HB1b.out.trans (hb2.mono HB1b.out.size))
  have HD2 := Lib.hid hd2
  obtain ⟨a3, cap3, rfl, -⟩ := hd2.len
  have C2b := Lib.hid (nameDefs_any _ m w2 (HV2.out.later HB2.out) HSZ2.out.1 HSZ2.out.2)
  clear hd2 hb2 C2 HSZ HSZ2 HB1b
  go_wp2_with fail
  refine C2b.out.mono ?_
  rintro e w3 ⟨rv, rfl, hd3, hb3⟩
  have HB3 : Hid (Below w.heap.size w w3) := Lib.hid (HB2.out.trans (hb3.mono HB2.out.size))
  have HD2' := Lib.hid (HD2.out.later hb3)
  have HD3 := Lib.hid hd3
  obtain ⟨a4, cap4, rfl, -⟩ := hd3.len
  have HS2 : Hid ((defsN l).length ≤ 16 ∧ ∀ x ∈ defsN l, (x.k = 0 ∨ x.k = 1) ∧ x.sh.size ≤ 60) := Lib.hid ⟨defsN_length l, defsN_small l⟩
  have HS3 : Hid ((defsN m).length ≤ 16 ∧ ∀ x ∈ defsN m, (x.k = 0 ∨ x.k = 1) ∧ x.sh.size ≤ 60) := Lib.hid ⟨defsN_length m, defsN_small m⟩
  have HNM := Lib.hid (defsN_nms m)
  clear hd3 hb3 C2b HD2 HB2 HV1 HV2
  generalize defsN l = l2 at *
  generalize defsN m = m2 at *
  have C3 := Lib.hid (nameNew_any _ l2 w3 HD2'.out HS2.out.1 HS2.out.2)
  go_wp2_with fail
  refine C3.out.mono ?_
  rintro e w4 ⟨n, N, fv, rfl, hst, hns⟩
  have HB4 := Lib.hid hns.bel
  have HST := Lib.hid hst
  have HNS := Lib.hid hns
  have C4 := Lib.hid (nameNew_any _ m2 w4 (HD3.out.later hns.bel) HS3.out.1 HS3.out.2)
  clear hst hns C3
  go_wp2_with fail
  refine C4.out.mono ?_
  rintro e w5 ⟨n', N', fv', rfl, hst', hns'⟩
  have HB5 : Hid (Below w3.heap.size w3 w5) := Lib.hid (HB4.out.trans (hns'.bel.mono HB4.out.size))
  have HBW5 : Hid (Below w.heap.size w w5) := Lib.hid (HB3.out.trans (HB5.out.mono HB3.out.size))
  by_cases hn : n = l2.length
  case neg =>
    rw [decide_eq_false hn]
    clear hst' hns' C4
    go_wp2_with fail
    go_ret
    exact ⟨rfl, HBW5.out⟩
  rw [decide_eq_true hn]
  by_cases hn' : n' = m2.length
  case neg =>
    rw [decide_eq_false hn']
    clear hst' hns' C4
    go_wp2_with fail
    go_ret
    exact ⟨rfl, HBW5.out⟩
  rw [decide_eq_true hn']
  have HALL : Hid (AllOk l2) := Lib.hid (by
    have := HST.out.2.1
    rwa [hn, List.take_length] at this)
  have HALL2 : Hid (AllOk m2) := Lib.hid (by
    have := hst'.2.1
    rwa [hn', List.take_length] at this)
  have HN5 : Hid (NSet w3 N fv false (.slice none 0 0) (l2.map firstF) w5) := Lib.hid (by
    have := HNS.out.later hns'.bel
    rwa [hn, List.take_length] at this)
  clear hst' hns' C4 hn hn' HST HNS HB4
  obtain ⟨L12, hL12⟩ : ∃ L, L = l2 ++ m2 := ⟨_, rfl⟩
  obtain ⟨names, hnames⟩ : ∃ ns, ns = L12.map (fun x => x.nm) := ⟨_, rfl⟩
  have hLL : L12.length = l2.length + m2.length := by rw [hL12, List.length_append]
  have hNL : names.length = L12.length := by rw [hnames, List.length_map]
  have HFD : Hid (∀ nm ∈ names, ∃ i, placeD (joinD l2 (sortD m2)) nm = some i) := Lib.hid (by rw [hnames, hL12]; exact join_found l2 m2)
  have HNA : Hid (∀ k (hk : k < L12.length), ∃ hk' : k < names.length, names[k] = L12[k].nm) := Lib.hid (fun k hk => ⟨by omega, by simp [hnames]⟩)
  have HLL := Lib.hid hLL
  have HNL := Lib.hid hNL
  have HL12 := Lib.hid hL12
  have hle : names.length ≤ 32 := by have := HS2.out.1; have := HS3.out.1; omega
  clear hLL hNL hL12 hnames
  -- the turns begin; the definitions of both sets in one row
  have hq0 : ∀ (W : World), Below w3.heap.size w3 W → (W.alloc (.cells #[] 50)).ownsRow w3.heap.size 50 6 (.slice (some ⟨W.heap.size, 0, none⟩) 0 0) 0 (flatD []) := fun W hb => ⟨rfl, .inr ⟨W.heap.size, 0, #[], rfl, hb.size, heap_alloc_new W _, Nat.le_refl _, Nat.zero_le _, rfl, rfl⟩⟩
  have hl12 : l2.length + m2.length ≤ 1000 := by have := HS2.out.1; have := HS3.out.1; omega
  have hb6 : Below w3.heap.size w3 (w5.alloc (.cells (turnA (.slice a4 m2.length cap4)) 37)) := HB5.out.alloc HB5.out.size _
  have hb7 : Below w3.heap.size w3 ((w5.alloc (.cells (turnA (.slice a4 m2.length cap4)) 37)).alloc (.cells #[] 50)) := hb6.alloc hb6.size _
  have HQ0 := Lib.hid (hq0 _ hb6)
  have HB7 := Lib.hid hb7
  have HTU0 : Hid (((w5.alloc (.cells (turnA (.slice a4 m2.length cap4)) 37)).alloc (.cells #[] 50)).ownsRow w3.heap.size 37 6 (.slice (some ⟨w5.heap.size, 0, none⟩) 1 1) 1 (flatN ((turnsOf (.slice a4 m2.length cap4) names).take 1))) := Lib.hid ⟨rfl, .inr ⟨w5.heap.size, 1, _, rfl, HB5.out.size, heap_past' (by simp only [World.size_alloc]; omega) (heap_at _ _ _ rfl), Nat.le_refl _, by unfold maxLen; omega, rfl, rfl⟩⟩
  have HN7 := Lib.hid (HN5.out.later (((Below.refl w5.heap.size w5).alloc (Nat.le_refl _) (.cells (turnA (.slice a4 m2.length cap4)) 37)).alloc (by simp only [World.size_alloc]; omega) (.cells #[] 50)))
  clear hq0 hb6 hb7
  unfold turnA at HQ0 HB7 HTU0 HN7
  simp only [World.size_alloc] at HQ0
  go_wp2_with (first
    | (refine wpList_appendD (by rfl) _ _ (by rfl) w3.heap.size _ 0 0 [] (by rfl) HQ0.out _ l2 (by rfl) (HD2'.out.later (HB7.out.mono (Nat.le_refl _))) HB7.out.size (by omega) ?_
       intro q8 c8 w8 hr8 hg8
       have HB8 := Lib.hid (grown_below HB7.out HB7.out.size HQ0.out hg8)
       have HR8 : Hid (w8.ownsRow w3.heap.size 50 6 (.slice (some ⟨q8, 0, none⟩) l2.length c8) l2.length (flatD l2)) := Lib.hid (by have := hr8; rw [Nat.zero_add] at this; exact this)
       have HN8 := Lib.hid (nset_other HQ0.out hg8 HN7.out (by decide) (by decide))
       have HTU8 := Lib.hid (row_other HQ0.out hg8 HTU0.out (by decide))
       clear hr8 hg8)
    | (refine wpList_appendD (by rfl) _ _ (by rfl) w3.heap.size _ _ _ l2 (by rfl) HR8.out _ m2 (by rfl) (HD3.out.later HB8.out) HB8.out.size (by omega) ?_
       intro q9 c9 w9 hr9 hg9
       have HB9 := Lib.hid (grown_below HB8.out HB8.out.size HR8.out hg9)
       have HR9 := Lib.hid hr9
       have HN9 := Lib.hid (nset_other HR8.out hg9 HN8.out (by decide) (by decide))
       have HTU9 := Lib.hid (row_other HR8.out hg9 HTU8.out (by decide))
       clear hr9 hg9))
  clear HQ0 HB7 HTU0 HN7 HB8 HR8 HN8 HTU8 HN5 HB5 HBW5
  rw [← HL12.out] at HR9
  have HNN : Hid (l2.length + m2.length = names.length) := Lib.hid (by have := HLL.out; have := HNL.out; omega)
  obtain ⟨dv, hdv⟩ : ∃ dv, dv = Value.slice a4 m2.length cap4 := ⟨_, rfl⟩
  rw [← hdv] at HTU9
  have HDV := Lib.hid hdv
  clear hdv
  have hnl33 : l2.length + m2.length ≤ 32 := by have := HS2.out.1; have := HS3.out.1; omega
  go_loopw [10, 57] (fun v10 vi wr => ∃ k : Nat, k ≤ l2.length + m2.length ∧ vi = .int .i64 k ∧ Below w3.heap.size w3 wr ∧ NSet w3 N fv false (.slice none 0 0) (l2.map firstF) wr ∧ wr.ownsRow w3.heap.size 37 6 v10 (k + 1) (flatN ((turnsOf dv names).take (k + 1))) ∧ wr.ownsRow w3.heap.size 50 6 (.slice (some ⟨q9, 0, none⟩) (l2.length + m2.length) c9) (l2.length + m2.length) (flatD L12)) (fun _ vi _ => l2.length + m2.length - (intOf vi).toNat)
  case atStart => exact ⟨0, Nat.zero_le _, rfl, HB9.out, HN9.out, HTU9.out, HR9.out⟩
  case round =>
    obtain ⟨k, hk, rfl, hb, hn, ht, hr⟩ := hrel
    obtain ⟨ta, tc, rfl⟩ := row_form ht
    have HBR := Lib.hid hb
    have HNR := Lib.hid hn
    have HTR := Lib.hid ht
    have HRR := Lib.hid hr
    clear hb hn ht hr HB9 HN9 HTU9 HR9
    by_cases hlt : k < l2.length + m2.length
    case neg =>
      have hkn : k = names.length := by have := HNN.out; omega
      have HTK : Hid ((turnsOf dv names).take (k + 1) = turnsOf dv names) := Lib.hid (List.take_of_length_le (by simp [turnsOf]; omega))
      have HTR2 := Lib.hid (show wr.ownsRow w3.heap.size 37 6 (.slice ta (k + 1) tc) (k + 1) (flatN (turnsOf dv names)) by have := HTR.out; rwa [HTK.out] at this)
      obtain ⟨tq, rfl, -⟩ := rowN_at HTR2.out (by simp [turnsOf]; omega) (turnsOf_size dv names) 0 (by simp [turnsOf])
      have HKN := Lib.hid hkn
      clear HTR HTK HRR hkn
      obtain rfl := HKN.out
      obtain rfl := HDV.out
      have HS0 := Lib.hid (And.intro HBR.out (And.intro HTR2.out HNR.out))
      have hge : l2.length + m2.length ≤ names.length := Nat.le_of_not_lt hlt
      clear HBR HTR2 HNR HKN HDV hk hlt
      go_wp2_with fail
      clear HNN hge
      obtain ⟨wO, rfl⟩ : ∃ z : World, z = wr := ⟨_, rfl⟩
      go_loopw [9, 70] (fun v9 vi wr2 => ∃ k : Nat, k ≤ names.length + 1 ∧ vi = .int .i64 k ∧ Below w3.heap.size w3 wr2 ∧ wr2.ownsRow w3.heap.size 37 6 (.slice (some ⟨tq, 0, none⟩) (names.length + 1) tc) (names.length + 1) (flatN (turnsOf (.slice a4 m2.length cap4) names)) ∧ wr2.ownsRow w3.heap.size 32 9 v9 k (flatN ((notesOf (joinD l2 (sortD m2)) names).take k)) ∧ (k = 0 → NSet w3 N fv false (.slice none 0 0) (l2.map firstF) wr2) ∧ (0 < k → JoinOk l2 (sortD m2) ∧ ∃ fv', NSet w3 N fv' false (.slice none 0 0) ((joinD l2 (sortD m2)).map firstF) wr2)) (fun _ vi _ => names.length + 1 - (intOf vi).toNat)
      case atStart => exact ⟨0, Nat.zero_le _, rfl, HS0.out.1, HS0.out.2.1, World.ownsRow_nil _ _ _ _, fun _ => HS0.out.2.2, fun h => absurd h (Nat.lt_irrefl _)⟩
      case round =>
        obtain ⟨k, hk, rfl, hb, ht, hw, hn0, hn1⟩ := hrel
        obtain ⟨oa, oc, rfl⟩ := row_form hw
        have HBR := Lib.hid hb
        have HTR := Lib.hid ht
        have HWR := Lib.hid hw
        have HN0 := Lib.hid hn0
        have HN1 := Lib.hid hn1
        clear hb ht hw hn0 hn1 HS0
        by_cases hlt : k < names.length + 1
        case neg =>
          obtain rfl : k = names.length + 1 := by omega
          obtain ⟨hjo, fvj, hnj⟩ := HN1.out (by omega)
          have HTK : Hid ((notesOf (joinD l2 (sortD m2)) names).take (names.length + 1) = notesOf (joinD l2 (sortD m2)) names) := Lib.hid (List.take_of_length_le (by simp [notesOf]))
          have HWR2 := Lib.hid (show wr.ownsRow w3.heap.size 32 9 (.slice oa (names.length + 1) oc) (names.length + 1) (flatN (notesOf (joinD l2 (sortD m2)) names)) by have := HWR.out; rwa [HTK.out] at this)
          have CN := Lib.hid (names_any wr l2 m2 names _ _ (cap := tc) (HD2'.out.later HBR.out) (HD3.out.later HBR.out) (turnsAt_of HTR.out rfl) HALL.out HALL2.out hjo HS2.out.1 HS3.out.1 HS2.out.2 HS3.out.2 HFD.out (by omega))
          have HNSZ := Lib.hid (notesOf_size (joinD l2 (sortD m2)) names)
          have HNF := Lib.hid (notesOf_form (joinD l2 (sortD m2)) names)
          have HNLN : Hid (names.length + 1 = (notesOf (joinD l2 (sortD m2)) names).length) := Lib.hid (by simp [notesOf])
          clear hjo hnj HN0 HN1 HTK HWR
          generalize notesOf (joinD l2 (sortD m2)) names = NT at *
          go_wp2_with fail
          refine CN.out.mono ?_
          rintro e w8 ⟨rv8, rfl, hb8, hr8⟩
          obtain ⟨a8, c1, rfl⟩ := row_form hr8
          obtain ⟨g1, rfl, -⟩ := rowN_at hr8 HNLN.out HNSZ.out 0 (by have := HNLN.out; omega)
          obtain ⟨g2, rfl, -⟩ := rowN_at HWR2.out HNLN.out HNSZ.out 0 (by have := HNLN.out; omega)
          have HR8 := Lib.hid hr8
          have HW8 := Lib.hid (row_grow HWR2.out hb8)
          have HB8 : Hid (Below w.heap.size w w8) := Lib.hid ((HB3.out.trans (HBR.out.mono HB3.out.size)).trans (hb8.mono (Nat.le_trans HB3.out.size HBR.out.size)))
          clear hr8 hb8 CN HWR2 HTR
          go_wp2_with fail
          go_loopw [104] (fun vi wr3 => ∃ k : Nat, k ≤ names.length + 1 ∧ vi = .int .i64 k ∧ Below w8.heap.size w8 wr3) (fun vi _ => names.length + 1 - (intOf vi).toNat)
          case atStart => exact ⟨0, Nat.zero_le _, rfl, Below.refl _ _⟩
          case round =>
            obtain ⟨k, hk, rfl, hb⟩ := hrel
            have HBR := Lib.hid hb
            clear hb
            by_cases hlt : k < names.length + 1
            case neg =>
              go_wp2_with fail
              go_ret
              exact ⟨rfl, HB8.out.trans (HBR.out.mono HB8.out.size)⟩
            have hkn : k < NT.length := by have := HNLN.out; omega
            obtain ⟨p, a, b, d, hnt⟩ := HNF.out _ (List.getElem_mem hkn)
            obtain ⟨g1', e1, hc1⟩ := rowN_at (row_grow HR8.out HBR.out) HNLN.out HNSZ.out k hkn
            cases e1
            obtain ⟨g2', e2, hc2⟩ := rowN_at (row_grow HW8.out HBR.out) HNLN.out HNSZ.out k hkn
            cases e2
            rw [hnt] at hc1 hc2
            have HC1 := Lib.hid (fun wz (hbz : Below wr.heap.size wr wz) j v (hj : j < 9) (hv : (noteG p a b d)[j]? = some v) => show wz.cell? ⟨g1, k * 9 + j, none⟩ = some v from cell_keep (hc1 j v hj hv) (hbz.block _ (lt_of_cell (hc1 j v hj hv))))
            have HC2 := Lib.hid (fun wz (hbz : Below wr.heap.size wr wz) j v (hj : j < 9) (hv : (noteG p a b d)[j]? = some v) => show wz.cell? ⟨g2, k * 9 + j, none⟩ = some v from cell_keep (hc2 j v hj hv) (hbz.block _ (lt_of_cell (hc2 j v hj hv))))
            clear hc1 hc2 hnt
            go_wp2_with fail
            refine wp_region_og cmpD (FixB 10 107 wr (fun iq => ([.slice (some ⟨g1, 0, none⟩) (names.length + 1) c1, .int .i64 (k : Int), .pointer (some ⟨g1, k * 9, none⟩), .agg (noteG p a b d), .slice (some ⟨g2, 0, none⟩) (names.length + 1) oc, .int .i64 (k : Int), .pointer (some ⟨g2, k * 9, none⟩), .agg (noteG p a b d), .bool true, .bool false] : List Value)[iq]?.getD undef)) (by kernel_rfl) (by kernel_rfl) ⟨(Below.refl _ _).drew, fun _ _ h => Bool.noConfusion h⟩ ?_ ?_
            · intro i' o' ho L f wz hl hp hI
              have hi' : i' < 10 := (Array.getElem?_eq_some_iff.1 ho).1
              obtain rfl | rfl | rfl | rfl | rfl | rfl | rfl | rfl | rfl | rfl : i' = 0 ∨ i' = 1 ∨ i' = 2 ∨ i' = 3 ∨ i' = 4 ∨ i' = 5 ∨ i' = 6 ∨ i' = 7 ∨ i' = 8 ∨ i' = 9 := by omega
              all_goals obtain rfl := Option.some.inj ho
              · exact og_op rfl rfl (og_value (run_move ((over_eval_out _ _ _ (by decide)).trans rfl)) ⟨_, over_put _ _ _ (by decide) _, hI.step (i := 0) (d := 107) (by decide) rfl rfl (Below.refl _ _)⟩)
              · exact og_op rfl rfl (og_value (run_move ((over_eval_out _ _ _ (by decide)).trans rfl)) ⟨_, over_put _ _ _ (by decide) _, hI.step (i := 1) (d := 108) (by decide) rfl rfl (Below.refl _ _)⟩)
              · have e0 := hI.v 0 (by decide) (hp ⟨0, .data⟩ (by simp) rfl)
                have e1 := hI.v 1 (by decide) (hp ⟨1, .data⟩ (by simp) rfl)
                exact og_op rfl rfl (og_value (run_idxN ((over_eval _ _ _ (by decide) (by show 107 < 118; omega)).trans e0) ((over_eval _ _ _ (by decide) (by show 108 < 118; omega)).trans e1) (by omega)) ⟨_, over_put _ _ _ (by decide) _, hI.step (i := 2) (d := 109) (by decide) rfl rfl (Below.refl _ _)⟩)
              · have e2 := hI.v 2 (by decide) (hp ⟨2, .data⟩ (by simp) rfl)
                exact og_op rfl rfl (og_value (run_loadN ((over_eval _ _ _ (by decide) (by show 109 < 118; omega)).trans e2) (HC1.out wz hI.bel)) ⟨_, over_put _ _ _ (by decide) _, hI.step (i := 3) (d := 110) (by decide) rfl rfl (Below.refl _ _)⟩)
              · exact og_op rfl rfl (og_value (run_move ((over_eval_out _ _ _ (by decide)).trans rfl)) ⟨_, over_put _ _ _ (by decide) _, hI.step (i := 4) (d := 111) (by decide) rfl rfl (Below.refl _ _)⟩)
              · exact og_op rfl rfl (og_value (run_move ((over_eval_out _ _ _ (by decide)).trans rfl)) ⟨_, over_put _ _ _ (by decide) _, hI.step (i := 5) (d := 112) (by decide) rfl rfl (Below.refl _ _)⟩)
              · have e4 := hI.v 4 (by decide) (hp ⟨4, .data⟩ (by simp) rfl)
                have e5 := hI.v 5 (by decide) (hp ⟨5, .data⟩ (by simp) rfl)
                exact og_op rfl rfl (og_value (run_idxN ((over_eval _ _ _ (by decide) (by show 111 < 118; omega)).trans e4) ((over_eval _ _ _ (by decide) (by show 112 < 118; omega)).trans e5) (by omega)) ⟨_, over_put _ _ _ (by decide) _, hI.step (i := 6) (d := 113) (by decide) rfl rfl (Below.refl _ _)⟩)
              · have e6 := hI.v 6 (by decide) (hp ⟨6, .data⟩ (by simp) rfl)
                exact og_op rfl rfl (og_value (run_loadN ((over_eval _ _ _ (by decide) (by show 113 < 118; omega)).trans e6) (HC2.out wz hI.bel)) ⟨_, over_put _ _ _ (by decide) _, hI.step (i := 7) (d := 114) (by decide) rfl rfl (Below.refl _ _)⟩)
              · have e3 := hI.v 3 (by decide) (hp ⟨3, .data⟩ (by simp) rfl)
                have e7 := hI.v 7 (by decide) (hp ⟨7, .data⟩ (by simp) rfl)
                refine og_op rfl rfl (og_call (run_call2 ((over_eval _ _ _ (by decide) (by show 110 < 118; omega)).trans e3) ((over_eval _ _ _ (by decide) (by show 114 < 118; omega)).trans e7) rfl (fun args => by go_simp)) ?_)
                refine (nameNote_any p a b d wz).mono ?_
                rintro e w' ⟨rfl, hb'⟩
                exact ⟨_, rfl, _, over_put _ _ _ (by decide) _, hI.step (i := 8) (d := 115) (by decide) rfl rfl hb'⟩
              · have e8 := hI.v 8 (by decide) (hp ⟨8, .data⟩ (by simp) rfl)
                exact og_op rfl rfl (og_value (run_notB ((over_eval _ _ _ (by decide) (by show 115 < 118; omega)).trans e8)) ⟨_, over_put _ _ _ (by decide) _, hI.step (i := 9) (d := 116) (by decide) rfl rfl (Below.refl _ _)⟩)
            · intro L f wz hL hI
              have e116 : f 116 = .bool false := hI.v 9 (by decide) (hL 9 (by decide))
              have HBZ := Lib.hid hI.bel
              clear hI hL HC1 HC2
              simp only [over, ovl, cmpD, List.contains, List.elem, Nat.reduceBEq, Bool.false_eq_true, if_false, if_true, Nat.reduceAdd]
              rw [e116]
              go_wp2_with fail
              go_roundw
              case rel => exact ⟨k + 1, by omega, by go_num, HBR.out.trans (HBZ.out.mono HBR.out.size)⟩
              case measure => simp [intOf]; omega
        obtain ⟨tq', e, hct⟩ := rowN_at HTR.out (by simp [turnsOf]) (turnsOf_size (.slice a4 m2.length cap4) names) k (by simp [turnsOf]; omega)
        cases e
        by_cases hk0 : k = 0
        · subst hk0
          have c0 := hct 0 (.int .i64 13) (by omega) rfl
          have c1 := hct 1 (.string ⟨#[]⟩) (by omega) rfl
          have c2 := hct 2 (.string ⟨#[]⟩) (by omega) rfl
          have c3 := hct 3 (.bool false) (by omega) rfl
          have c4 := hct 4 (.slice none 0 0) (by omega) rfl
          have c5 := hct 5 (.slice a4 m2.length cap4) (by omega) rfl
          simp only [Nat.zero_mul, Nat.zero_add] at c0 c1 c2 c3 c4 c5
          have lg := lt_of_cell c0
          have hal := (Below.refl wr.heap.size wr).alloc (Nat.le_refl _) (.cells #[.int .i64 13, .string ⟨#[]⟩, .string ⟨#[]⟩, .bool false, .slice none 0 0, .slice a4 m2.length cap4] 37)
          have CD := doA_any ((HN0.out rfl).later hal) (HD3.out.later (HBR.out.trans (hal.mono HBR.out.size))) HALL2.out HS2.out.1 HS3.out.1 HS3.out.2 HNM.out
          unfold turnA at CD
          have CD := Lib.hid CD
          have HTA := Lib.hid (row_grow HTR.out hal)
          have HWA := Lib.hid (row_grow HWR.out hal)
          have HNX : Hid (flatN ((notesOf (joinD l2 (sortD m2)) names).take (0 + 1)) = flatN ((notesOf (joinD l2 (sortD m2)) names).take 0) ++ [.bool false, .bool false, .bool false, .bool false, .string ⟨#[]⟩, .string ⟨#[]⟩, .string ⟨#[]⟩, .int .i64 0, .slice none 0 0]) := Lib.hid rfl
          clear hct hal HN0 HN1
          go_wp2_with fail
          refine CD.out.mono ?_
          rintro e w5d ⟨b, nt, rfl, hnt, hbt, hbel, hkb⟩
          have HBE : Hid (Below w.heap.size w w5d) := Lib.hid (HB3.out.trans (hbel.mono HB3.out.size))
          cases b with
          | false =>
            obtain rfl : nt = noteP := hnt
            have HBX : Hid (Below w.heap.size w (w5d.alloc (.cells noteP 32))) := Lib.hid (HBE.out.alloc HBE.out.size _)
            clear hbt hbel hkb CD HTA HWA c0 c1 c2 c3 c4 c5 lg
            unfold noteP at HBX ⊢
            go_wp2_with fail
            go_ret
            exact ⟨rfl, HBX.out⟩
          | true =>
            obtain rfl : nt = note0 := hnt
            obtain ⟨hjo, fvj, hnj⟩ := hbt rfl
            have HJO := Lib.hid hjo
            have hal2 := (Below.refl w5d.heap.size w5d).alloc (Nat.le_refl _) (.cells #[.bool false, .bool false, .bool false, .bool false, .string ⟨#[]⟩, .string ⟨#[]⟩, .string ⟨#[]⟩, .int .i64 0, .slice none 0 0] 32)
            have HBL6 := Lib.hid (hbel.trans (hal2.mono hbel.size))
            have HTR6 := Lib.hid (row_grow (row_keepB HTA.out hkb (by decide) (by decide) (by decide)) hal2)
            have HWT6 := Lib.hid (row_grow (row_keepB HWA.out hkb (by decide) (by decide) (by decide)) hal2)
            have HNS6 := Lib.hid (hnj.later hal2)
            clear hbt hbel hkb CD HTA HWA c0 c1 c2 c3 c4 c5 lg hjo hnj hal2
            unfold note0
            have hrow := HWT6.out
            have hs0 := HBL6.out.size
            go_wp2_with (
              at_builtin
              refine wpList_append_lies _ (by rfl) _ _ _ (by rfl) w3.heap.size 32 j0 _ 9 88 Tryz.underlying47 hj0 hjz hj1 hj2 rfl (by omega) (.slice oa 0 oc) 0 _ (by rfl) (hrow.alloc _)
                ⟨w5d.heap.size + 1, 0, none⟩ 1 1 [.bool false, .bool false, .bool false, .bool false, .string ⟨#[]⟩, .string ⟨#[]⟩, .string ⟨#[]⟩, .int .i64 0, .slice none 0 0] (by rfl) (by rfl) (World.news_of_block (cs := #[.bool false, .bool false, .bool false, .bool false, .string ⟨#[]⟩, .string ⟨#[]⟩, .string ⟨#[]⟩, .int .i64 0, .slice none 0 0]) (t := 32) (fr := (0, 0)) (heap_at _ _ _ (by simp only [World.size_alloc]))) (by simp [Value.oneCell'])
                (by omega) (by unfold maxLen; omega) (by omega) (by simp only [World.size_alloc] at hs0 ⊢; omega) (w5d.heap.size + 1 + 1) (by simp only [World.size_alloc]) ?_
              intro gg cap5 w7 hown1 hgrow hat hlt5)
            have HG := Lib.hid (want_grown HBL6.out HTR6.out HNS6.out hrow hgrow)
            have HOW := Lib.hid hown1
            clear hown1 hgrow hat hlt5 hrow hs0
            go_roundw
            case rel => exact ⟨0 + 1, by omega, by go_num, HG.out.1, HG.out.2.1, by rw [HNX.out]; exact HOW.out, fun h => absurd h (by omega), fun _ => ⟨HJO.out, _, HG.out.2.2⟩⟩
            case measure => simp [intOf] <;> omega
        · obtain ⟨i, rfl⟩ : ∃ i, k = i + 1 := ⟨k - 1, by omega⟩
          have hin : i < names.length := by omega
          obtain ⟨hjo, fvj, hnj⟩ := HN1.out (by omega)
          have HJO := Lib.hid hjo
          obtain ⟨pl, hpl⟩ := HFD.out _ (List.getElem_mem hin)
          have hti : (turnsOf (.slice a4 m2.length cap4) names)[i + 1]'(by simp [turnsOf]; omega) = turnL names[i] := by simp [turnsOf]
          rw [hti] at hct
          have HNT : Hid ((notesOf (joinD l2 (sortD m2)) names).take (i + 1 + 1) = (notesOf (joinD l2 (sortD m2)) names).take (i + 1) ++ [tellD (tellOf (joinD l2 (sortD m2)) names[i])]) := Lib.hid (by
            rw [List.take_succ_eq_append_getElem (by simp [notesOf]; omega)]
            simp [notesOf])
          have HTO : Hid (tellOf (joinD l2 (sortD m2)) names[i] = (joinD l2 (sortD m2))[pl]!) := Lib.hid (by rw [tellOf, hpl]; rfl)
          generalize names[i] = nm at *
          have c0 := hct 0 (.int .i64 1) (by omega) rfl
          rw [Nat.add_zero] at c0
          have c1 := hct 1 (.string nm) (by omega) rfl
          have c2 := hct 2 (.string ⟨#[]⟩) (by omega) rfl
          have c3 := hct 3 (.bool false) (by omega) rfl
          have c4 := hct 4 (.slice none 0 0) (by omega) rfl
          have c5 := hct 5 (.slice none 0 0) (by omega) rfl
          have lg := lt_of_cell c0
          have hal := (Below.refl wr.heap.size wr).alloc (Nat.le_refl _) (.cells #[.int .i64 1, .string nm, .string ⟨#[]⟩, .bool false, .slice none 0 0, .slice none 0 0] 37)
          have hjl : (joinD l2 (sortD m2)).length ≤ 1000 := by
            have h1 := joinD_length l2 (sortD m2)
            rw [sortD_length] at h1
            omega
          have CD := doL_any (hnj.later hal) hpl hjl
          rw [HTO.out] at HNT
          obtain ⟨nmx, shx, sx, hsx⟩ : ∃ a b c, tellD (joinD l2 (sortD m2))[pl]! = noteA a b c := ⟨_, _, _, rfl⟩
          rw [hsx] at CD HNT
          have HNX : Hid (flatN ((notesOf (joinD l2 (sortD m2)) names).take (i + 1 + 1)) = flatN ((notesOf (joinD l2 (sortD m2)) names).take (i + 1)) ++ [.bool true, .bool false, .bool false, .bool false, .string nmx, .string shx, .string sx, .int .i64 0, .slice none 0 0]) := Lib.hid (by rw [HNT.out, flatN_snoc]; rfl)
          unfold turnL noteA at CD
          have CD := Lib.hid CD
          have HTA := Lib.hid (row_grow HTR.out hal)
          have HWA := Lib.hid (row_grow HWR.out hal)
          have HNA2 := Lib.hid (hnj.later hal)
          have HBA := Lib.hid (HBR.out.trans (hal.mono HBR.out.size))
          clear hct hal HN0 HN1 hpl hsx HNT hjo hnj hti
          go_wp2_with fail
          refine CD.out.mono ?_
          rintro e w5d ⟨rfl, hbd⟩
          have hal2 := (Below.refl w5d.heap.size w5d).alloc (Nat.le_refl _) (.cells #[.bool true, .bool false, .bool false, .bool false, .string nmx, .string shx, .string sx, .int .i64 0, .slice none 0 0] 32)
          have hb5 : Below w3.heap.size w3 w5d := HBA.out.trans (hbd.mono HBA.out.size)
          have HBL6 := Lib.hid (hb5.trans (hal2.mono hb5.size))
          have HTR6 := Lib.hid (row_grow (row_grow HTA.out hbd) hal2)
          have HWT6 := Lib.hid (row_grow (row_grow HWA.out hbd) hal2)
          have HNS6 := Lib.hid ((HNA2.out.later hbd).later hal2)
          clear hbd hb5 CD HTA HWA HNA2 HBA c0 c1 c2 c3 c4 c5 lg hal2
          have hrow := HWT6.out
          have hs0 := HBL6.out.size
          go_wp2_with (
            at_builtin
            refine wpList_append_lies _ (by rfl) _ _ _ (by rfl) w3.heap.size 32 j0 _ 9 88 Tryz.underlying47 hj0 hjz hj1 hj2 rfl (by omega) (.slice oa (i + 1) oc) (i + 1) _ (by rfl) (hrow.alloc _)
              ⟨w5d.heap.size + 1, 0, none⟩ 1 1 [.bool true, .bool false, .bool false, .bool false, .string nmx, .string shx, .string sx, .int .i64 0, .slice none 0 0] (by rfl) (by rfl) (World.news_of_block (cs := #[.bool true, .bool false, .bool false, .bool false, .string nmx, .string shx, .string sx, .int .i64 0, .slice none 0 0]) (t := 32) (fr := (0, 0)) (heap_at _ _ _ (by simp only [World.size_alloc]))) (by simp [Value.oneCell'])
              (by omega) (by unfold maxLen; omega) (by omega) (by simp only [World.size_alloc] at hs0 ⊢; omega) (w5d.heap.size + 1 + 1) (by simp only [World.size_alloc]) ?_
            intro gg cap5 w7 hown1 hgrow hat hlt5)
          have HG := Lib.hid (want_grown HBL6.out HTR6.out HNS6.out hrow hgrow)
          have HOW := Lib.hid hown1
          clear hown1 hgrow hat hlt5 hrow hs0
          go_roundw
          case rel => exact ⟨(i + 1) + 1, by omega, by go_num, HG.out.1, HG.out.2.1, by rw [HNX.out]; exact HOW.out, fun h => absurd h (by omega), fun _ => ⟨HJO.out, _, HG.out.2.2⟩⟩
          case measure => simp [intOf] <;> omega
    have hkL : k < L12.length := by have := HLL.out; omega
    obtain ⟨hkn, hnk⟩ := HNA.out k hkL
    have hat := fun j v hj hv => rowD_at HRR.out HLL.out.symm k hkL j v hj hv
    have HT : Hid (flatN ((turnsOf dv names).take (k + 1 + 1)) = flatN ((turnsOf dv names).take (k + 1)) ++ (turnL L12[k].nm).toList) := Lib.hid (by
      rw [List.take_succ_eq_append_getElem (by simp [turnsOf]; omega), flatN_snoc]
      simp [turnsOf, hnk])
    generalize L12[k] = x at *
    obtain ⟨nm, sh, kd, on, n6, tx⟩ := x
    have b0 := hat 0 (.string nm) (by omega) rfl
    rw [Nat.add_zero] at b0
    have b1 := hat 1 (.string sh) (by omega) rfl
    have b2 := hat 2 (.int .i64 kd) (by omega) rfl
    have b3 := hat 3 (.bool on) (by omega) rfl
    have b4 := hat 4 (.int .i64 n6) (by omega) rfl
    have b5 := hat 5 (.string tx) (by omega) rfl
    have lq := lt_of_cell b0
    obtain ⟨W1, hW1⟩ : ∃ W1, W1 = wr.alloc (.cells #[.string nm, .string sh, .int .i64 kd, .bool on, .int .i64 n6, .string tx] 50) := ⟨_, rfl⟩
    have hal : Below wr.heap.size wr W1 := by rw [hW1]; exact (Below.refl _ _).alloc (Nat.le_refl _) _
    have HTR1 := Lib.hid (row_grow HTR.out hal)
    have HRR1 := Lib.hid (row_grow HRR.out hal)
    have HNR1 := Lib.hid (HNR.out.later hal)
    have hb1 : Below w3.heap.size w3 W1 := HBR.out.trans (hal.mono HBR.out.size)
    have HB1 := Lib.hid hb1
    have hs1 := hb1.size
    clear hat hal hnk hb1 HTR HRR HNR
    have hW1' := Lib.hid hW1
    subst hW1
    go_wp2_with (
      at_builtin
      refine wpList_append_lies _ (by rfl) _ _ _ (by rfl) w3.heap.size 37 i0 _ 6 96 Tryz.underlying48 hi0 hz0 hz1 hz2 rfl (by omega) (.slice ta (k + 1) tc) (k + 1) _ (by rfl) (HTR1.out.alloc _)
        ⟨wr.heap.size + 1, 0, none⟩ 1 1 [.int .i64 1, .string nm, .string ⟨#[]⟩, .bool false, .slice none 0 0, .slice none 0 0] (by rfl) (by rfl) (World.news_of_block (cs := #[.int .i64 1, .string nm, .string ⟨#[]⟩, .bool false, .slice none 0 0, .slice none 0 0]) (t := 37) (fr := (0, 0)) (heap_at _ _ _ (by simp only [World.size_alloc]))) (by simp [Value.oneCell'])
        (by omega) (by unfold maxLen; omega) (by omega) (by simp only [World.size_alloc] at hs1 ⊢; omega) (wr.heap.size + 1 + 1) (by simp only [World.size_alloc]) ?_
      intro gg cap5 w7 hown1 hgrow hat hlt5)
    have hX := (Below.refl _ (wr.alloc (.cells #[.string nm, .string sh, .int .i64 kd, .bool on, .int .i64 n6, .string tx] 50))).alloc (Nat.le_refl _) (.cells #[.int .i64 1, .string nm, .string ⟨#[]⟩, .bool false, .slice none 0 0, .slice none 0 0] 37)
    have HB7 := Lib.hid (grown_below (HB1.out.trans (hX.mono hs1)) (Nat.le_trans hs1 hX.size) (HTR1.out.alloc _) hgrow)
    have HN7 := Lib.hid (nset_other (HTR1.out.alloc _) hgrow (HNR1.out.later hX) (by decide) (by decide))
    have HR7 := Lib.hid (row_other (HTR1.out.alloc _) hgrow (row_grow HRR1.out hX) (by decide))
    have HO7 := Lib.hid hown1
    clear hown1 hgrow hat hlt5 hX
    go_roundw
    case rel => exact ⟨k + 1, by omega, by go_num, HB7.out, HN7.out, by rw [HT.out]; exact HO7.out, HR7.out⟩
    case measure => simp [intOf]; omega
end Go.Proofs.YtmmkebdaijmpiaaGreat
