/- The walks of the reference's Short, shorts. -/
import Derived.Test.YtcpjdgbnfjdakaaSpecD
import Derived.Test.YtcpjdgbnfjdakaaParse
import Derived.Deep.CutRange
import Derived.StillTailTactics
namespace Go.Proofs.Ytcpjdgbnfjdakaa
open Go.RowKit
set_option linter.unusedVariables false
set_option linter.unusedSimpArgs false

set_option maxRecDepth 100000 in
set_option maxHeartbeats 3200000 in
theorem shortS_any {K : SSt} {s : SetD} {way : Way} (ok : SOk K s way) {r : RunD} {w : World} (h : SInv K r w) (he : r.err = .none) (hg : r.given.length ≤ 1099511627776)
    (shorts : ByteArray) (ha : shorts.size ≤ 2147483647) (ha2 : 0 < shorts.size) (v : Value) (l : List ByteArray) (hv : Texts K.w0 v l) (hl : l.length ≤ 2147483647) (hs : ∀ t ∈ l, t.size ≤ 2147483647) :
    Calls Try.prog 26 #[ptr K.X, .string shorts, v] w fun e w' => ∃ v', e = .returned (.tuple #[.string (shortF s way shorts l r).2.1, v']) ∧ SInv K (shortF s way shorts l r).1 w' ∧ Texts K.w0 v' (shortF s way shorts l r).2.2 := by
  obtain ⟨gv, av, h⟩ := h
  have hconv : ∀ n w, (convert 21 9 (.int .i32 n)).run Try.prog w = .ok (.string (Utf8.encode n)) w := fun _ _ => by kernel_rfl
  obtain ⟨gt, hgt⟩ : ∃ b, ((shorts.extract 0 5).toList == [116, 101, 115, 116, 46]) = b := ⟨_, rfl⟩
  have hg5 : ¬ 5 ≤ shorts.size → gt = false := fun h5 => by
    rw [← hgt, beq_eq_false_iff_ne]
    intro e
    have := congrArg List.length e
    rw [length_toList, ByteArray.size_extract] at this
    simp at this
    omega
  obtain ⟨c, hc⟩ : ∃ c, shorts[0] = c := ⟨_, rfl⟩
  obtain ⟨more, hmore⟩ : ∃ m, shorts.extract 1 shorts.size = m := ⟨_, rfl⟩
  have hmz : more.size = shorts.size - 1 := by rw [← hmore, ByteArray.size_extract]; omega
  obtain ⟨own, hown⟩ : ∃ b, (decide (2 < shorts.size) && (byteO shorts 1 == some 61)) = b := ⟨_, rfl⟩
  have hL : gt = false → shortF s way shorts l r = match s.lettered c with
    | none => if c == 104 then ({ r with err := .help }, more, l) else if s.unknown then (if own then (r, ⟨#[]⟩, l) else (r, more, stripF l)) else ({ r with err := .notExist (runeT c) shorts }, more, l)
    | some i => if own then (giveF s way i (shorts.extract 2 shorts.size) r, ⟨#[]⟩, l) else if (s.nooptOf i).size ≠ 0 then (giveF s way i (s.nooptOf i) r, more, l) else if more.size ≠ 0 then (giveF s way i more r, ⟨#[]⟩, l) else ((wantsF s way i (runeT c) shorts l r).1, ⟨#[]⟩, (wantsF s way i (runeT c) shorts l r).2) := fun e => by
    simp only [shortF, hgt, e, byteO_some ha2, hc, hmore, hown, Bool.false_eq_true, if_false, Option.getD_some]
    cases s.lettered c <;> rfl
  have hT : gt = true → shortF s way shorts l r = (r, ⟨#[]⟩, l) := fun e => by simp only [shortF, hgt, e, if_true]
  have HL := Lib.hid hL
  have HT := Lib.hid hT
  have OW : own = true → 2 < shorts.size ∧ ∃ h1 : 1 < shorts.size, ((shorts[1].toNat : Int) == 61) = true := by
    intro e
    rw [e, Bool.and_eq_true, decide_eq_true_iff] at hown
    obtain ⟨a1, a2⟩ := hown
    rw [byteO_some (by omega)] at a2
    refine ⟨a1, by omega, ?_⟩
    rw [show ((shorts[1].toNat : Int) == 61) = (shorts[1] == 61) from byteEq shorts[1] 61 61 rfl]
    simpa using a2
  have NO : own = false → ¬ 2 < shorts.size ∨ (2 < shorts.size ∧ ∃ h1 : 1 < shorts.size, ((shorts[1].toNat : Int) == 61) = false) := by
    intro e
    by_cases a1 : 2 < shorts.size
    · right
      rw [e, decide_eq_true a1, Bool.true_and, byteO_some (by omega)] at hown
      refine ⟨a1, by omega, ?_⟩
      rw [show ((shorts[1].toNat : Int) == 61) = (shorts[1] == 61) from byteEq shorts[1] 61 61 rfl]
      simpa using hown
    · exact .inl a1
  have OWH := Lib.hid OW
  have NOH := Lib.hid NO
  have HC := Lib.hid hc
  have HGT := Lib.hid hgt
  have H5 := Lib.hid hg5
  have HV := Lib.hid hv
  have HS := Lib.hid hs
  have HMO := Lib.hid hmore
  have HMZ := Lib.hid hmz
  clear hL hT hown OW NO hmz hgt hg5 hv hs hc hmore
  have b0 : (0 : Int) < (shorts.size : Int) := by omega
  have b1 : (1 : Int) ≤ (shorts.size : Int) := by omega
  go_enter Try.func26, Try.ntmps26
  go_upto_region 1 with fail
  go_cut [20] from 13 to 20 (fun v20 wx => v20 = .bool gt ∧ wx = w)
  case first =>
    by_cases h5 : 5 ≤ shorts.size
    · have d5 : decide ((5 : Int) ≤ (shorts.size : Int)) = true := by rw [decide_eq_true_eq]; omega
      have hgt := HGT.out
      go_wp2_with fail
      go_meet
      exact ⟨rfl, rfl⟩
    · have d5 : decide ((5 : Int) ≤ (shorts.size : Int)) = false := by rw [decide_eq_false_iff_not]; omega
      have hgt := H5.out h5
      subst hgt
      go_wp2_with fail
      go_meet
      exact ⟨rfl, rfl⟩
  case rest =>
    obtain ⟨rfl, rfl⟩ := hcut
    cases gt with
    | true =>
      have HE := Lib.hid (HT.out rfl)
      go_wp2_with fail
      go_ret2
      rw [HE.out]
      exact ⟨_, rfl, ⟨_, _, h⟩, HV.out⟩
    | false =>
      have HL3 := Lib.hid (HL.out rfl)
      clear HL
      clear HT HGT H5
      have hc := HC.out
      have hmore := HMO.out
      have hw32 : wrap32 (c.toNat : Int) = (c.toNat : Int) := by have := c.toNat_lt; unfold wrap32; omega
      go_upto_region 3 with fail
      go_quiet (fail)
      rename_i nq
      clear hw32
      have h2 := h.later (Below.drewN' (n := nq) (Below.refl _ wc))
      generalize wc.drewN nq = wq at *
      clear h
      go_upto_region 4 with fail
      go_cut [10] from 28 to 35 (fun v10 wx => v10 = .bool own ∧ wx = wq)
      case first =>
        cases own with
        | true =>
          obtain ⟨z1, z2, z3⟩ := OWH.out rfl
          have z4 : (1 : Int) < (shorts.size : Int) := by omega
          have d2 : decide ((2 : Int) < (shorts.size : Int)) = true := by rw [decide_eq_true_eq]; omega
          go_wp2_with fail
          go_meet
          exact ⟨rfl, rfl⟩
        | false =>
          rcases NOH.out rfl with z1 | ⟨z1, z2, z3⟩
          · have d2 : decide ((2 : Int) < (shorts.size : Int)) = false := by rw [decide_eq_false_iff_not]; omega
            go_wp2_with fail
            go_meet
            exact ⟨rfl, rfl⟩
          · have z4 : (1 : Int) < (shorts.size : Int) := by omega
            have d2 : decide ((2 : Int) < (shorts.size : Int)) = true := by rw [decide_eq_true_eq]; omega
            go_wp2_with fail
            go_meet
            exact ⟨rfl, rfl⟩
      case rest =>
        obtain ⟨rfl, rfl⟩ := hcut
        have c0 := h2.cell 0 K.fv rfl
        have c1 := h2.cell 1 (.bool K.plain) rfl
        have c2 := h2.cell 2 (.bool K.unk) rfl
        have c3 := h2.cell 3 (.int .i64 K.fold) rfl
        obtain ⟨fa, fcap, hfv⟩ := ok.hf.len
        rw [hfv] at c0
        have h3 := h2.later (Below.refl _ _).drew
        have CL := letteredK_any ok h3 c
        rw [hfv] at CL
        have HCL := Lib.hid CL
        have HFV := Lib.hid hfv
        clear CL hfv
        go_upto_region 5 with fail
        go_still_tail 6, (by kernel_rfl)
        change wpList _ _ _ _ _ (World.drew _)
        generalize World.drew _ = w3 at *
        go_wp2_with fail
        refine HCL.out.mono ?_
        rintro e w4 ⟨rfl, h4⟩
        clear c0 c1 c2 c3 HCL h2 h3
        cases hnm : s.lettered c with
        | none =>
          have HL1 : Hid (shortF s way shorts l r = if c == 104 then ({ r with err := .help }, more, l) else if s.unknown then (if own then (r, ⟨#[]⟩, l) else (r, more, stripF l)) else ({ r with err := .notExist (runeT c) shorts }, more, l)) := Lib.hid (by have q := HL3.out; rw [hnm] at q; exact q)
          clear hnm HL3
          simp only [placeI]
          have HU := fun b => Lib.hid (unknown_any ok ⟨_, _, h4⟩ he b (runeT c) shorts)
          obtain ⟨hp, hhp⟩ : ∃ b, ((c.toNat : Int) == 104) = b := ⟨_, rfl⟩
          have HH := Lib.hid ((byteEq c 104 104 rfl).symm.trans hhp)
          go_wp2_with fail
          refine (HU hp).out.mono ?_
          rintro e w2 ⟨rfl, h2⟩
          have HU2 : Hid (unknownF s hp (runeT c) shorts r = if hp then ({ r with err := .help }, false) else if s.unknown then (r, true) else ({ r with err := .notExist (runeT c) shorts }, false)) := Lib.hid rfl
          clear HU hhp
          cases hp with
          | true =>
            have HE : Hid (shortF s way shorts l r = ({ r with err := .help }, more, l)) := Lib.hid (by rw [HL1.out, HH.out]; rfl)
            have h3 : SInv K { r with err := .help } w2 := h2
            have e2 : (unknownF s true (runeT c) shorts r).2 = false := rfl
            rw [e2]
            clear e2 h2
            go_wp2_with fail
            go_ret2
            rw [HE.out]
            exact ⟨_, rfl, h3, HV.out⟩
          | false =>
            cases hu : s.unknown with
            | false =>
              have HE : Hid (shortF s way shorts l r = ({ r with err := .notExist (runeT c) shorts }, more, l)) := Lib.hid (by rw [HL1.out, HH.out, hu]; rfl)
              have e3 : unknownF s false (runeT c) shorts r = ({ r with err := .notExist (runeT c) shorts }, false) := by rw [HU2.out, hu]; rfl
              rw [e3] at h2 ⊢
              clear e3
              go_wp2_with fail
              go_ret2
              rw [HE.out]
              exact ⟨_, rfl, h2, HV.out⟩
            | true =>
              have e3 : unknownF s false (runeT c) shorts r = (r, true) := by rw [HU2.out, hu]; rfl
              rw [e3] at h2 ⊢
              clear e3
              have HE : Hid (shortF s way shorts l r = if own then (r, ⟨#[]⟩, l) else (r, more, stripF l)) := Lib.hid (by rw [HL1.out, HH.out, hu]; rfl)
              cases own with
              | true =>
                have HE2 : Hid (shortF s way shorts l r = (r, ⟨#[]⟩, l)) := Lib.hid (by rw [HE.out]; simp)
                clear HE
                go_wp2_with fail
                go_ret2
                rw [HE2.out]
                exact ⟨_, rfl, h2, HV.out⟩
              | false =>
                have HE2 : Hid (shortF s way shorts l r = (r, more, stripF l)) := Lib.hid (by rw [HE.out]; simp)
                clear HE
                obtain ⟨gv2, av2, h2⟩ := h2
                go_wp2_with fail
                refine (stripS_any v l K.w0 _ h2.bel.block HV.out hl HS.out).mono ?_
                rintro e w5 ⟨v', rfl, ht, rfl⟩
                go_wp2_with fail
                go_ret2
                rw [HE2.out]
                exact ⟨_, rfl, ⟨_, _, h2⟩, ht⟩
        | some i =>
          have hi := lettered_lt hnm
          have HL1 : Hid (shortF s way shorts l r = if own then (giveF s way i (shorts.extract 2 shorts.size) r, ⟨#[]⟩, l) else if (s.nooptOf i).size ≠ 0 then (giveF s way i (s.nooptOf i) r, more, l) else if more.size ≠ 0 then (giveF s way i more r, ⟨#[]⟩, l) else ((wantsF s way i (runeT c) shorts l r).1, ⟨#[]⟩, (wantsF s way i (runeT c) shorts l r).2)) := Lib.hid (by have q := HL3.out; rw [hnm] at q; exact q)
          clear hnm HL3
          simp only [placeI]
          cases own with
          | true =>
            have HE : Hid (shortF s way shorts l r = (giveF s way i (shorts.extract 2 shorts.size) r, ⟨#[]⟩, l)) := Lib.hid (by rw [HL1.out]; simp)
            obtain ⟨z1, z2, z3⟩ := OWH.out rfl
            have z4 : (2 : Int) ≤ (shorts.size : Int) := by omega
            have HG := Lib.hid (gives_any ok ⟨_, _, h4⟩ he i hi (shorts.extract 2 shorts.size) hg)
            go_wp2_with fail
            refine HG.out.mono ?_
            rintro e w5 ⟨rfl, h5⟩
            go_wp2_with fail
            go_ret2
            rw [HE.out]
            exact ⟨_, rfl, h5, HV.out⟩
          | false =>
            obtain ⟨a, cap, b, off, ba, bc, e, rfl, p2, p3, p4⟩ := ok.row h4 hi
            have hno := nooptOf_at hi
            have hlen := ok.len
            rw [HFV.out] at e
            cases e
            have d0 := h4.cell 0 K.fv rfl
            rw [HFV.out] at d0
            have HNO := Lib.hid hno
            clear p3 p4 hno
            generalize s.flags[i].noopt = noopt at *
            by_cases hz : 0 < noopt.size
            · have HE : Hid (shortF s way shorts l r = (giveF s way i noopt r, more, l)) := Lib.hid (by rw [HL1.out, HNO.out, if_neg (by simp), if_pos (by omega)])
              have e1 := isEmpty_no hz
              have HG := Lib.hid (gives_any ok ⟨_, _, h4⟩ he i hi noopt hg)
              go_wp2_with fail
              refine HG.out.mono ?_
              rintro e w5 ⟨rfl, h5⟩
              go_wp2_with fail
              go_ret2
              rw [HE.out]
              exact ⟨_, rfl, h5, HV.out⟩
            · have e1 := isEmpty_yes hz
              by_cases hm : 0 < more.size
              · have HE : Hid (shortF s way shorts l r = (giveF s way i more r, ⟨#[]⟩, l)) := Lib.hid (by rw [HL1.out, HNO.out, if_neg (by simp), if_neg (by omega), if_pos (by omega)])
                have e2 := isEmpty_no hm
                have HG := Lib.hid (gives_any ok ⟨_, _, h4⟩ he i hi more hg)
                go_wp2_with fail
                refine HG.out.mono ?_
                rintro e w5 ⟨rfl, h5⟩
                go_wp2_with fail
                go_ret2
                rw [HE.out]
                exact ⟨_, rfl, h5, HV.out⟩
              · have HE : Hid (shortF s way shorts l r = ((wantsF s way i (runeT c) shorts l r).1, ⟨#[]⟩, (wantsF s way i (runeT c) shorts l r).2)) := Lib.hid (by rw [HL1.out, HNO.out, if_neg (by simp), if_neg (by omega), if_neg (by omega)])
                have e2 := isEmpty_yes hm
                have HG := Lib.hid (wants_any ok ⟨_, _, h4⟩ he i hi (runeT c) shorts v l HV.out hl hg)
                go_wp2_with fail
                refine HG.out.mono ?_
                rintro e w5 ⟨v', rfl, h5, ht⟩
                go_wp2_with fail
                go_ret2
                rw [HE.out]
                exact ⟨_, rfl, h5, ht⟩
end Go.Proofs.Ytcpjdgbnfjdakaa
