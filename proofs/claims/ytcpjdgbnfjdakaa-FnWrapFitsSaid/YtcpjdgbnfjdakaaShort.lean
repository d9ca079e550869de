/- The walk of parseSingleShortArg. -/
import Derived.Test.YtcpjdgbnfjdakaaLong
import Derived.OwnWalk
namespace Go.Proofs.Ytcpjdgbnfjdakaa
open Go.RowKit
set_option linter.unusedVariables false
set_option linter.unusedSimpArgs false

/-- What comes of the first of shorthands. -/
def CameS (D : St) (s : SetD) (way : Way) (e : Ending) (w' : World) (o : RunD × ByteArray × List ByteArray) : Prop :=
  ∃ v' ev D', e = .returned (.tuple #[.string o.2.1, v', ev]) ∧ Inv D' w' ∧ Near D D' ∧ Runs D' s way o.1 ∧ ErrIs D' w' ev o.1.err ∧ Texts D.w0 v' o.2.2

/-- What the look-up of a shorthand answers. -/
theorem look_short {D : St} {w : World} {s : SetD} (h : Inv D w) (k : Ready D s) (c : UInt8) :
    (Instr.lookup 134 (.map D.sm) (.int .u8 c.toNat) true).run Try.prog w = .ok (seen D (s.lettered c)) w := by
  have hf := k.findS c
  have e : lookedUp (.pointer none) true (mapFind c D.shortL 0) = seen D (s.lettered c) := by
    cases c1 : s.lettered c with
    | none =>
      rw [c1] at hf
      cases c2 : mapFind c D.shortL 0 with
      | none => rfl
      | some y => rw [c2] at hf; simp at hf
    | some i =>
      have := findAt_ge _ _ _ _ c1
      obtain ⟨r, hr⟩ := k.get (List.getElem?_eq_getElem (show i < s.flags.length by omega))
      rw [c1] at hf
      cases c2 : mapFind c D.shortL 0 with
      | none => rw [c2] at hf; simp [hr] at hf
      | some y => rw [c2] at hf; simp [hr] at hf; simp [lookedUp, seen, hr, hf]
  rcases h.hsm with ⟨e1, e2⟩ | ⟨b, e1, hb⟩
  · rw [e1, ← e, e2]
    exact run_lookup_nilmap (P := Try.prog) (K := byteKey) (T := 134) (kt := 5) (et := 91) (z := .pointer none) (by kernel_rfl) (by kernel_rfl) (by kernel_rfl) c true
  · rw [e1, ← e]
    exact run_lookup_map (P := Try.prog) (T := 134) (kt := 5) (et := 91) (z := .pointer none) hb (by kernel_rfl) (by kernel_rfl) (by kernel_rfl) c true

set_option maxRecDepth 100000 in
set_option maxHeartbeats 3200000 in
theorem short_any {D : St} {s : SetD} {way : Way} {r : RunD} {w : World} {fid : FuncId} {first cap : Array Value} (hands : Hands fid first cap D s way) (h : Inv D w) (k : Runs D s way r) (he : r.err = .none) (hg : r.given.length ≤ 1099511627776)
    (shorts : ByteArray) (ha : shorts.size ≤ 4294967295) (ha2 : 0 < shorts.size) (v : Value) (l : List ByteArray) (hv : Texts D.w0 v l) (hl : l.length ≤ 2147483647) (hs : ∀ t ∈ l, t.size ≤ 4294967295) :
    Calls Try.prog 99 #[ptr D.F, .string shorts, v, .func (.func fid) first cap] w fun e w' => CameS D s way e w' (shortF s way shorts l r) := by
  obtain ⟨av, cv, rfl, hcv⟩ := hv.len
  have HV := Lib.hid hv
  have HS := Lib.hid hs
  clear hv hs
  have hconv : ∀ n w, (convert 5 9 (.int .u8 n)).run Try.prog w = .ok (.string (Utf8.encode n)) w := fun _ _ => by kernel_rfl
  cases hgt : ((shorts.extract 0 5).toList == [116, 101, 115, 116, 46]) with
  | true =>
    have HE : Hid (shortF s way shorts l r = (r, ⟨#[]⟩, l)) := Lib.hid (by simp only [shortF, hgt, if_true])
    go_enter Try.func99, Try.ntmps99
    go_wp2_with fail
    refine (gotest_any shorts _ ha).mono ?_
    rintro e w1 ⟨rfl, rfl⟩
    rw [hgt]
    go_wp2_with fail
    go_ret3
    rw [HE.out]
    exact ⟨_, _, D, rfl, h, Near.refl D, k, by rw [he]; rfl, HV.out⟩
  | false =>
    obtain ⟨c, hc⟩ : ∃ c, shorts[0] = c := ⟨_, rfl⟩
    obtain ⟨more, hmore⟩ : ∃ m, shorts.extract 1 shorts.size = m := ⟨_, rfl⟩
    have hmz : more.size = shorts.size - 1 := by rw [← hmore, ByteArray.size_extract]; omega
    obtain ⟨own, hown⟩ : ∃ b, (decide (2 < shorts.size) && (byteO shorts 1 == some 61)) = b := ⟨_, rfl⟩
    have hL : shortF s way shorts l r = match s.lettered c with
      | none => if c == 104 then ({ r with err := .help }, more, l) else if s.unknown then (if own then (r, ⟨#[]⟩, l) else (r, more, stripF l)) else ({ r with err := .notExist (runeT c) shorts }, more, l)
      | some i => if own then (giveF s way i (shorts.extract 2 shorts.size) r, ⟨#[]⟩, l) else if (s.nooptOf i).size ≠ 0 then (giveF s way i (s.nooptOf i) r, more, l) else if more.size ≠ 0 then (giveF s way i more r, ⟨#[]⟩, l) else ((wantsF s way i (runeT c) shorts l r).1, ⟨#[]⟩, (wantsF s way i (runeT c) shorts l r).2) := by
      simp only [shortF, hgt, byteO_some ha2, hc, hmore, hown, Bool.false_eq_true, if_false, Option.getD_some]
      cases s.lettered c <;> rfl
    have HL := Lib.hid hL
    have HM := Lib.hid hmore
    have HMZ := Lib.hid hmz
    have OW : own = true → 2 < shorts.size ∧ ∃ h1 : 1 < shorts.size, ((shorts[1].toNat : Int) == 61) = true := by
      intro e
      rw [e, Bool.and_eq_true, decide_eq_true_iff] at hown
      obtain ⟨a1, a2⟩ := hown
      rw [byteO_some (by omega)] at a2
      refine ⟨a1, by omega, ?_⟩
      rw [show ((shorts[1].toNat : Int) == 61) = (shorts[1] == 61) from byteEq shorts[1] 61 61 rfl]
      simpa using a2
    have NO : own = false → ¬ 2 < shorts.size ∨ (2 < shorts.size ∧ ∃ h1 : 1 < shorts.size, ((shorts[1].toNat : Int) == 61) = false) := by
      intro e
      by_cases a1 : 2 < shorts.size
      · right
        rw [e, decide_eq_true a1, Bool.true_and, byteO_some (by omega)] at hown
        refine ⟨a1, by omega, ?_⟩
        rw [show ((shorts[1].toNat : Int) == 61) = (shorts[1] == 61) from byteEq shorts[1] 61 61 rfl]
        simpa using hown
      · exact .inl a1
    have OWH := Lib.hid OW
    have NOH := Lib.hid NO
    clear hL hown OW NO hmz
    have b0 : (0 : Int) < (shorts.size : Int) := by omega
    have c11 := h.cellF 11 (.map D.sm) rfl
    have hlk := look_short h k.ready c
    rw [← hc] at hlk
    have d2 := h.cellF 2 (.bool false) rfl
    have d1 := h.cellF 1 (.bool D.unk) rfl
    rw [k.ready.unk] at d1
    cases hlt : s.lettered c with
    | none =>
      rw [hc, hlt] at hlk
      simp only [seen] at hlk
      rw [← hc] at hlk
      cases hh : c == 104 with
      | true =>
        have HE : Hid (shortF s way shorts l r = ({ r with err := .help }, more, l)) := Lib.hid (by rw [HL.out, hlt]; simp only [hh, if_true])
        have hq : ((shorts[0].toNat : Int) == 104) = true := by rw [hc]; exact (byteEq c 104 104 rfl).trans hh
        clear HL hh hlt hc hands
        go_enter Try.func99, Try.ntmps99
        go_wp2_with fail
        refine (gotest_any shorts _ ha).mono ?_
        rintro e w1 ⟨rfl, rfl⟩
        rw [hgt]
        go_wp2_with fail
        go_ret3
        rw [HE.out]
        exact ⟨_, _, D, rfl, h, Near.refl D, k.err _, rfl, HV.out⟩
      | false =>
        have hq : ((shorts[0].toNat : Int) == 104) = false := by rw [hc]; exact (byteEq c 104 104 rfl).trans hh
        cases hu : s.unknown with
        | true =>
          rw [hu] at d1
          cases hw : own with
          | true =>
            have HE : Hid (shortF s way shorts l r = (r, ⟨#[]⟩, l)) := Lib.hid (by rw [HL.out, hlt]; simp only [hh, hu, hw, if_true, Bool.false_eq_true, if_false])
            obtain ⟨z1, z2, z3⟩ := OWH.out hw
            have z4 : (1 : Int) < (shorts.size : Int) := by omega
            clear HL hh hlt hc hands
            go_enter Try.func99, Try.ntmps99
            go_wp2_with fail
            refine (gotest_any shorts _ ha).mono ?_
            rintro e w1 ⟨rfl, rfl⟩
            rw [hgt]
            go_wp2_with fail
            go_ret3
            rw [HE.out]
            exact ⟨_, _, D, rfl, h, Near.refl D, k, by rw [he]; rfl, HV.out⟩
          | false =>
            have HE : Hid (shortF s way shorts l r = (r, more, stripF l)) := Lib.hid (by rw [HL.out, hlt]; simp only [hh, hu, hw, if_true, Bool.false_eq_true, if_false])
            have hno := NOH.out hw
            clear HL hh hlt hc hands hw
            go_enter Try.func99, Try.ntmps99
            go_wp2_with fail
            refine (gotest_any shorts _ ha).mono ?_
            rintro e w1 ⟨rfl, rfl⟩
            rw [hgt]
            rcases hno with z1 | ⟨z1, z2, z3⟩
            · go_wp2_with fail
              refine (strip_any _ l D.w0 _ h.bel.block HV.out hl HS.out).mono ?_
              rintro e w3 ⟨v', rfl, ht, rfl⟩
              go_wp2_with fail
              go_ret3
              rw [HE.out]
              exact ⟨_, _, D, rfl, h, Near.refl D, k, by rw [he]; rfl, ht⟩
            · have z4 : (1 : Int) < (shorts.size : Int) := by omega
              go_wp2_with fail
              refine (strip_any _ l D.w0 _ h.bel.block HV.out hl HS.out).mono ?_
              rintro e w3 ⟨v', rfl, ht, rfl⟩
              go_wp2_with fail
              go_ret3
              rw [HE.out]
              exact ⟨_, _, D, rfl, h, Near.refl D, k, by rw [he]; rfl, ht⟩
        | false =>
          rw [hu] at d1
          have HE : Hid (shortF s way shorts l r = ({ r with err := .notExist (runeT c) shorts }, more, l)) := Lib.hid (by rw [HL.out, hlt]; simp only [hh, hu, Bool.false_eq_true, if_false])
          clear HL hh hlt hands
          rw [hc] at hlk hq
          go_enter Try.func99, Try.ntmps99
          go_wp2_with fail
          refine (gotest_any shorts _ ha).mono ?_
          rintro e w1 ⟨rfl, rfl⟩
          rw [hgt]
          go_wp2_with fail
          go_ret3
          rw [HE.out]
          exact ⟨_, _, D, rfl, h.later ((Below.refl _ _).alloc (Nat.le_refl _) _), Near.refl D, k.err _, ⟨_, _, rfl, heap_at _ _ _ rfl⟩, HV.out⟩
    | some i =>
      obtain ⟨x, hx⟩ : ∃ x, D.rs[i]? = some x := by
        have := findAt_ge _ _ _ _ hlt
        exact k.ready.get (List.getElem?_eq_getElem (show i < s.flags.length by omega))
      rw [hc, hlt] at hlk
      simp only [seen, hx, Option.map_some, Option.getD_some] at hlk
      rw [← hc] at hlk
      have hent := hands.enter
      have zn := k.ready.noopt hx
      have c6 := h.cellFlag hx 6 (.string x.noopt) rfl
      obtain ⟨-, hnos, -⟩ := k.ready.small i x hx
      cases hw : own with
      | true =>
        have HE : Hid (shortF s way shorts l r = (giveF s way i (shorts.extract 2 shorts.size) r, ⟨#[]⟩, l)) := Lib.hid (by rw [HL.out, hlt]; simp only [hw, if_true])
        obtain ⟨z1, z2, z3⟩ := OWH.out hw
        have z4 : (1 : Int) < (shorts.size : Int) := by omega
        clear HL hlt hc d1 d2
        go_enter Try.func99, Try.ntmps99
        go_wp2_with fail
        refine (gotest_any shorts _ ha).mono ?_
        rintro e w1 ⟨rfl, rfl⟩
        rw [hgt]
        go_wp2_with fail
        refine (hands.gives D w1 r i x (shorts.extract 2 shorts.size) (Near.refl D) h k he hx hg).mono ?_
        rintro e w3 ⟨ev, D', rfl, j1, j2, j3, j4⟩
        go_wp2_with fail
        go_ret3
        rw [HE.out]
        exact ⟨_, _, D', rfl, j1, j2, j3, j4, HV.out⟩
      | false =>
        have hno := NOH.out hw
        by_cases hnz : x.noopt.size = 0
        · have hq : (x.noopt.toList == []) = true := by rw [toList_nil]; exact decide_eq_true hnz
          by_cases hm1 : more.size = 0
          · have HE : Hid (shortF s way shorts l r = ((wantsF s way i (runeT c) shorts l r).1, ⟨#[]⟩, (wantsF s way i (runeT c) shorts l r).2)) := Lib.hid (by rw [HL.out, hlt]; simp only [hw, zn, hnz, hm1, Bool.false_eq_true, if_false, ne_eq, not_true_eq_false])
            have hs1 : shorts.size = 1 := by have := HMZ.out; omega
            have hm0 : more = ⟨#[]⟩ := ByteArray.ext (Array.eq_empty_of_size_eq_zero hm1)
            have z1 : ¬ 2 < shorts.size := by omega
            have z5 : ¬ 1 < shorts.size := by omega
            have z6 : (¬ (1 : Int) < (shorts.size : Int)) := by omega
            have hmm : shorts.extract 1 shorts.size = ⟨#[]⟩ := HM.out.trans hm0
            clear HL hlt hw d1 d2 hno hmore
            rw [hc] at hlk
            cases l with
            | nil =>
              go_enter Try.func99, Try.ntmps99
              go_wp2_with fail
              refine (gotest_any shorts _ ha).mono ?_
              rintro e w1 ⟨rfl, rfl⟩
              rw [hgt]
              go_wp2_with fail
              go_ret3
              rw [HE.out]
              exact ⟨_, _, D, rfl, h.later ((Below.refl _ _).alloc (Nat.le_refl _) _), Near.refl D, k.err _, ⟨_, x, rfl, hx, heap_at _ _ _ rfl⟩, HV.out⟩
            | cons y l =>
              obtain ⟨tb, to, A, rfl, -, hc1, q2, hA, ht⟩ := HV.out.tail
              have q2 : w.cell? ⟨tb, to, none⟩ = some (.string y) := (World.cell?_of_block (h.bel.block tb (World.block_lt_of_cell? D.w0 _ q2))).trans q2
              have HT := Lib.hid ht
              have hy := HS.out y (by simp)
              clear ht HS
              simp only [List.length_cons] at hl
              go_enter Try.func99, Try.ntmps99
              go_wp2_with fail
              refine (gotest_any shorts _ ha).mono ?_
              rintro e w1 ⟨rfl, rfl⟩
              rw [hgt]
              go_wp2_with fail
              refine (hands.gives D w1 r i x y (Near.refl D) h k he hx hg).mono ?_
              rintro e w3 ⟨ev, D', rfl, j1, j2, j3, j4⟩
              go_wp2_with fail
              go_ret3
              rw [HE.out]
              exact ⟨_, _, D', rfl, j1, j2, j3, j4, HT.out⟩
          · have HE : Hid (shortF s way shorts l r = (giveF s way i more r, ⟨#[]⟩, l)) := Lib.hid (by rw [HL.out, hlt]; simp only [hw, zn, hnz, hm1, Bool.false_eq_true, if_false, ne_eq, not_true_eq_false, not_false_eq_true, if_true])
            have z5 : (1 : Int) < (shorts.size : Int) := by have := HMZ.out; omega
            clear HL hlt hw d1 d2 hc
            go_enter Try.func99, Try.ntmps99
            go_wp2_with fail
            refine (gotest_any shorts _ ha).mono ?_
            rintro e w1 ⟨rfl, rfl⟩
            rw [hgt]
            rcases hno with z1 | ⟨z1, z2, z3⟩
            · go_wp2_with fail
              refine (hands.gives D w1 r i x more (Near.refl D) h k he hx hg).mono ?_
              rintro e w3 ⟨ev, D', rfl, j1, j2, j3, j4⟩
              go_wp2_with fail
              go_ret3
              rw [HE.out]
              exact ⟨_, _, D', rfl, j1, j2, j3, j4, HV.out⟩
            · have z4 : (1 : Int) < (shorts.size : Int) := by omega
              go_wp2_with fail
              refine (hands.gives D w1 r i x more (Near.refl D) h k he hx hg).mono ?_
              rintro e w3 ⟨ev, D', rfl, j1, j2, j3, j4⟩
              go_wp2_with fail
              go_ret3
              rw [HE.out]
              exact ⟨_, _, D', rfl, j1, j2, j3, j4, HV.out⟩
        · have hq : (x.noopt.toList == []) = false := by rw [toList_nil]; exact decide_eq_false hnz
          have HE : Hid (shortF s way shorts l r = (giveF s way i x.noopt r, more, l)) := Lib.hid (by rw [HL.out, hlt]; simp only [hw, zn, hnz, Bool.false_eq_true, if_false, ne_eq, not_false_eq_true, if_true])
          clear HL hlt hw d1 d2 hc
          go_enter Try.func99, Try.ntmps99
          go_wp2_with fail
          refine (gotest_any shorts _ ha).mono ?_
          rintro e w1 ⟨rfl, rfl⟩
          rw [hgt]
          rcases hno with z1 | ⟨z1, z2, z3⟩
          · go_wp2_with fail
            refine (hands.gives D w1 r i x x.noopt (Near.refl D) h k he hx hg).mono ?_
            rintro e w3 ⟨ev, D', rfl, j1, j2, j3, j4⟩
            go_wp2_with fail
            go_ret3
            rw [HE.out]
            exact ⟨_, _, D', rfl, j1, j2, j3, j4, HV.out⟩
          · have z4 : (1 : Int) < (shorts.size : Int) := by omega
            go_wp2_with fail
            refine (hands.gives D w1 r i x x.noopt (Near.refl D) h k he hx hg).mono ?_
            rintro e w3 ⟨ev, D', rfl, j1, j2, j3, j4⟩
            go_wp2_with fail
            go_ret3
            rw [HE.out]
            exact ⟨_, _, D', rfl, j1, j2, j3, j4, HV.out⟩
end Go.Proofs.Ytcpjdgbnfjdakaa
