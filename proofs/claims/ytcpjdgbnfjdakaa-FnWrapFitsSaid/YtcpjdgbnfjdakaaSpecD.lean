/- The walks of the reference's Long, Short, shorts. -/
import Derived.Test.YtcpjdgbnfjdakaaSpecC
import Derived.BigQuiet
namespace Go.Proofs.Ytcpjdgbnfjdakaa
open Go.RowKit
set_option linter.unusedVariables false
set_option linter.unusedSimpArgs false

theorem eqAt_any (s : ByteArray) (w : World) (hs : s.size ≤ 2147483647) :
    Calls Try.prog 47 #[.string s, .int .u8 61] w fun e w' => e = .returned (.int .i64 (firstFrom isEq s 0 : Nat)) ∧ w' = w := byteAt_any s 61 w hs

/-- The set that a run speaks of is searched by name, and by shorthand. -/
theorem namedK_any {K : SSt} {s : SetD} {way : Way} (ok : SOk K s way) {gv av : Value} {r : RunD} {w : World} (h : SIn K gv av r w) (name : ByteArray) (hn : name.size ≤ 2147483647) :
    Calls Try.prog 36 #[.agg #[K.fv, .bool K.plain, .bool K.unk, .int .i64 K.fold], .string name] w fun e w' => e = .returned (.int .i64 (placeI (s.named name))) ∧ SIn K gv av r w' := by
  refine (named_any K.fv s.flags K.plain K.unk K.fold s rfl ok.hlo ok.hda name hn w (ok.hf.later h.bel.block) ok.len (fun f hf => (ok.small f hf).1)).mono ?_
  rintro e w' ⟨rfl, hb⟩
  exact ⟨rfl, h.later hb⟩
theorem letteredK_any {K : SSt} {s : SetD} {way : Way} (ok : SOk K s way) {gv av : Value} {r : RunD} {w : World} (h : SIn K gv av r w) (c : UInt8) :
    Calls Try.prog 37 #[.agg #[K.fv, .bool K.plain, .bool K.unk, .int .i64 K.fold], .int .u8 c.toNat] w fun e w' => e = .returned (.int .i64 (placeI (s.lettered c))) ∧ SIn K gv av r w' := by
  refine (lettered_any K.fv s.flags K.plain K.unk K.fold s rfl c w (ok.hf.later h.bel.block) ok.len (fun f hf => (ok.small f hf).2.1)).mono ?_
  rintro e w' ⟨rfl, hb⟩
  exact ⟨rfl, h.later hb⟩

theorem named_lt {s : SetD} {n : ByteArray} {i : Nat} (h : s.named n = some i) : i < s.flags.length := by
  have := findAt_ge _ _ _ _ h; omega
theorem lettered_lt {s : SetD} {c : UInt8} {i : Nat} (h : s.lettered c = some i) : i < s.flags.length := by
  have := findAt_ge _ _ _ _ h; omega

theorem toList_no {s : ByteArray} (h : 0 < s.size) : (s.toList == []) = false := by rw [toList_nil]; exact decide_eq_false (by omega)
theorem toList_yes {s : ByteArray} (h : ¬ 0 < s.size) : (s.toList == []) = true := by rw [toList_nil]; exact decide_eq_true (by omega)

set_option maxRecDepth 100000 in
set_option maxHeartbeats 3200000 in
theorem longS_any {K : SSt} {s : SetD} {way : Way} (ok : SOk K s way) {r : RunD} {w : World} (h : SInv K r w) (he : r.err = .none) (hg : r.given.length ≤ 1099511627776)
    (arg : ByteArray) (ha : arg.size ≤ 2147483647) (ha2 : 2 ≤ arg.size) (v : Value) (l : List ByteArray) (hv : Texts K.w0 v l) (hl : l.length ≤ 2147483647) (hs : ∀ t ∈ l, t.size ≤ 2147483647) :
    Calls Try.prog 97 #[ptr K.X, .string arg, v] w fun e w' => ∃ v', e = .returned v' ∧ SInv K (longF s way arg l r).1 w' ∧ Texts K.w0 v' (longF s way arg l r).2 := by
  obtain ⟨gv, av, h⟩ := h
  obtain ⟨text, htext⟩ : ∃ t, arg.extract 2 arg.size = t := ⟨_, rfl⟩
  have htz : text.size ≤ 2147483647 := by rw [← htext, ByteArray.size_extract]; omega
  have c4 := h.cell 4 (.int .i64 r.err.kind) rfl
  have c5 := h.cell 5 (.string r.err.name) rfl
  have f4 := h.free 4
  have f5 := h.free 5
  by_cases hbad : (byteO text 0 == none || byteO text 0 == some 45 || byteO text 0 == some 61) = true
  · have e1 : longF s way arg l r = ({ r with err := .badSyntax arg }, l) := by
      simp only [longF, htext, hbad, if_true]
    rw [e1]
    have E := ((h.sc.put 4 (.int .i64 5)).put 5 (.string arg)).done (K' := K) (r' := { r with err := .badSyntax arg }) (by unfold runCells; rw [he]; rfl) rfl rfl rfl rfl
    clear e1
    by_cases h0 : 0 < text.size
    · have e0 := toList_no h0
      rw [byteO_some h0] at hbad
      have hb2 : text[0] = 45 ∨ text[0] = 61 := by simpa using hbad
      rcases hb2 with e | e
      · have f1 : ((text[0].toNat : Int) == 45) = true := by rw [e]; rfl
        clear e hbad
        go_enter Try.func97, Try.ntmps97
        go_wp2_with fail
        go_ret
        exact ⟨_, rfl, ⟨_, _, E⟩, hv⟩
      · have f1 : ((text[0].toNat : Int) == 45) = false := by rw [e]; rfl
        have f2 : ((text[0].toNat : Int) == 61) = true := by rw [e]; rfl
        clear e hbad
        go_enter Try.func97, Try.ntmps97
        go_wp2_with fail
        go_ret
        exact ⟨_, rfl, ⟨_, _, E⟩, hv⟩
    · have e0 := toList_yes h0
      go_enter Try.func97, Try.ntmps97
      go_wp2_with fail
      go_ret
      exact ⟨_, rfl, ⟨_, _, E⟩, hv⟩
  · have h0 : 0 < text.size := by
      rcases Nat.lt_or_ge 0 text.size with h0 | h0
      · exact h0
      · rw [byteO_none h0] at hbad; simp at hbad
    have e0 := toList_no h0
    have hb2 : text[0] ≠ 45 ∧ text[0] ≠ 61 := by rw [byteO_some h0] at hbad; simpa using hbad
    have f1 : ((text[0].toNat : Int) == 45) = false := by rw [beq_eq_false_iff_ne]; intro e; exact hb2.1 (UInt8.toNat_inj.mp (by show _ = 45; omega))
    have f2 : ((text[0].toNat : Int) == 61) = false := by rw [beq_eq_false_iff_ne]; intro e; exact hb2.2 (UInt8.toNat_inj.mp (by show _ = 61; omega))
    have hle := firstFrom_le isEq text 0
    obtain ⟨en, hen⟩ : ∃ e, firstFrom isEq text 0 = e := ⟨_, rfl⟩
    obtain ⟨name, hname⟩ : ∃ t, text.extract 0 en = t := ⟨_, rfl⟩
    have hnz : name.size ≤ 2147483647 := by rw [← hname, ByteArray.size_extract]; omega
    have hL : longF s way arg l r = match s.named name with
      | none => if eqB name helpT then ({ r with err := .help }, l) else if s.unknown then (r, if en < text.size then l else stripF l) else ({ r with err := .notExist name ⟨#[]⟩ }, l)
      | some i => if en < text.size then (giveF s way i (text.extract (en + 1) text.size) r, l) else if (s.nooptOf i).size ≠ 0 then (giveF s way i (s.nooptOf i) r, l) else wantsF s way i name ⟨#[]⟩ l r := by
      simp only [longF, htext, hbad, hen, hname, Bool.false_eq_true, if_false]
      cases s.named name <;> rfl
    have HL := Lib.hid hL
    rw [hen] at hle
    have HEN := Lib.hid hen
    clear hL hb2 hbad
    have c0 := h.cell 0 K.fv rfl
    have c1 := h.cell 1 (.bool K.plain) rfl
    have c2 := h.cell 2 (.bool K.unk) rfl
    have c3 := h.cell 3 (.int .i64 K.fold) rfl
    obtain ⟨fa, fcap, hfv⟩ := ok.hf.len
    rw [hfv] at c0
    have CN := namedK_any ok h name hnz
    rw [hfv] at CN
    have HCN := Lib.hid CN
    have HFV := Lib.hid hfv
    have HV := Lib.hid hv
    have HS := Lib.hid hs
    clear CN hfv hv hs hen
    go_enter Try.func97, Try.ntmps97
    go_wp2_with fail
    refine (eqAt_any text _ htz).mono ?_
    rintro e w1 ⟨rfl, rfl⟩
    rw [HEN.out]
    go_wp2_with fail
    refine HCN.out.mono ?_
    rintro e w1 ⟨rfl, h1⟩
    clear c0 c1 c2 c3 c4 c5 f4 f5 HCN
    cases hnm : s.named name with
    | none =>
      have HL1 : Hid (longF s way arg l r = if eqB name helpT then ({ r with err := .help }, l) else if s.unknown then (r, if en < text.size then l else stripF l) else ({ r with err := .notExist name ⟨#[]⟩ }, l)) := Lib.hid (by rw [HL.out, hnm])
      clear hnm HL
      simp only [placeI]
      have HU := fun b => Lib.hid (unknown_any ok ⟨_, _, h1⟩ he b name ⟨#[]⟩)
      obtain ⟨hp, hhp⟩ : ∃ b, (name.toList == [104, 101, 108, 112]) = b := ⟨_, rfl⟩
      have HH := Lib.hid ((eqB_help name).trans hhp)
      go_wp2_with fail
      refine (HU hp).out.mono ?_
      rintro e w2 ⟨rfl, h2⟩
      have HU2 : Hid (unknownF s hp name ⟨#[]⟩ r = if hp then ({ r with err := .help }, false) else if s.unknown then (r, true) else ({ r with err := .notExist name ⟨#[]⟩ }, false)) := Lib.hid rfl
      clear HU hhp
      cases hp with
      | true =>
        have HE : Hid (longF s way arg l r = ({ r with err := .help }, l)) := Lib.hid (by rw [HL1.out, HH.out]; rfl)
        have h3 : SInv K { r with err := .help } w2 := h2
        have e2 : (unknownF s true name ⟨#[]⟩ r).2 = false := rfl
        rw [e2]
        clear e2 h2
        go_wp2_with fail
        go_ret
        rw [HE.out]
        exact ⟨_, rfl, h3, HV.out⟩
      | false =>
        cases hu : s.unknown with
        | false =>
          have HE : Hid (longF s way arg l r = ({ r with err := .notExist name ⟨#[]⟩ }, l)) := Lib.hid (by rw [HL1.out, HH.out, hu]; rfl)
          have e3 : unknownF s false name ⟨#[]⟩ r = ({ r with err := .notExist name ⟨#[]⟩ }, false) := by rw [HU2.out, hu]; rfl
          rw [e3] at h2 ⊢
          clear e3
          go_wp2_with fail
          go_ret
          rw [HE.out]
          exact ⟨_, rfl, h2, HV.out⟩
        | true =>
          have e3 : unknownF s false name ⟨#[]⟩ r = (r, true) := by rw [HU2.out, hu]; rfl
          rw [e3] at h2 ⊢
          clear e3
          have HE : Hid (longF s way arg l r = (r, if en < text.size then l else stripF l)) := Lib.hid (by rw [HL1.out, HH.out, hu]; rfl)
          by_cases c : en < text.size
          · have d : ((en : Int) == (text.size : Int)) = false := by rw [beq_eq_false_iff_ne]; omega
            go_wp2_with fail
            go_ret
            rw [HE.out, if_pos c]
            exact ⟨_, rfl, h2, HV.out⟩
          · have d : ((en : Int) == (text.size : Int)) = true := by rw [beq_iff_eq]; omega
            obtain ⟨gv2, av2, h2⟩ := h2
            go_wp2_with fail
            refine (stripS_any v l K.w0 _ h2.bel.block HV.out hl HS.out).mono ?_
            rintro e w3 ⟨v', rfl, ht, rfl⟩
            go_wp2_with fail
            go_ret
            rw [HE.out, if_neg c]
            exact ⟨_, rfl, ⟨_, _, h2⟩, ht⟩
    | some i =>
      have hi := named_lt hnm
      have HL1 : Hid (longF s way arg l r = if en < text.size then (giveF s way i (text.extract (en + 1) text.size) r, l) else if (s.nooptOf i).size ≠ 0 then (giveF s way i (s.nooptOf i) r, l) else wantsF s way i name ⟨#[]⟩ l r) := Lib.hid (by rw [HL.out, hnm])
      clear hnm HL
      simp only [placeI]
      by_cases c : en < text.size
      · have HE : Hid (longF s way arg l r = (giveF s way i (text.extract (en + 1) text.size) r, l)) := Lib.hid (by rw [HL1.out, if_pos c])
        have d : decide ((en : Int) < (text.size : Int)) = true := by rw [decide_eq_true_eq]; omega
        have HG := Lib.hid (gives_any ok ⟨_, _, h1⟩ he i hi (text.extract (en + 1) text.size) hg)
        have b1 : (en : Int) + 1 ≤ (text.size : Int) := by omega
        go_wp2_with fail
        refine HG.out.mono ?_
        rintro e w2 ⟨rfl, h2⟩
        go_wp2_with fail
        go_ret
        rw [HE.out]
        exact ⟨_, rfl, h2, HV.out⟩
      · have d : decide ((en : Int) < (text.size : Int)) = false := by rw [decide_eq_false_iff_not]; omega
        obtain ⟨a, cap, b, off, ba, bc, e, rfl, p2, p3, p4⟩ := ok.row h1 hi
        have hno := nooptOf_at hi
        have hlen := ok.len
        rw [HFV.out] at e
        cases e
        have d0 := h1.cell 0 K.fv rfl
        rw [HFV.out] at d0
        have HNO := Lib.hid hno
        clear p3 p4 hno
        generalize s.flags[i].noopt = noopt at *
        by_cases hz : 0 < noopt.size
        · have HE : Hid (longF s way arg l r = (giveF s way i noopt r, l)) := Lib.hid (by rw [HL1.out, if_neg c, HNO.out, if_pos (by omega)])
          have e1 := isEmpty_no hz
          have HG := Lib.hid (gives_any ok ⟨_, _, h1⟩ he i hi noopt hg)
          go_wp2_with fail
          refine HG.out.mono ?_
          rintro e w2 ⟨rfl, h2⟩
          go_wp2_with fail
          go_ret
          rw [HE.out]
          exact ⟨_, rfl, h2, HV.out⟩
        · have HE : Hid (longF s way arg l r = wantsF s way i name ⟨#[]⟩ l r) := Lib.hid (by rw [HL1.out, if_neg c, HNO.out, if_neg (by omega)])
          have e1 := isEmpty_yes hz
          have HG := Lib.hid (wants_any ok ⟨_, _, h1⟩ he i hi name ⟨#[]⟩ v l HV.out hl hg)
          go_wp2_with fail
          refine HG.out.mono ?_
          rintro e w2 ⟨v', rfl, h2, ht⟩
          go_wp2_with fail
          go_ret
          rw [HE.out]
          exact ⟨_, rfl, h2, ht⟩
end Go.Proofs.Ytcpjdgbnfjdakaa
