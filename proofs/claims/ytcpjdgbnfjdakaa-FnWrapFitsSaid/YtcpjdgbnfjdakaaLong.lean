/- The walk of parseLongArg. -/
import Derived.Test.YtcpjdgbnfjdakaaSmall
import Derived.Deep.RegionHeld3
namespace Go.Proofs.Ytcpjdgbnfjdakaa
open Go.RowKit
set_option linter.unusedVariables false
set_option linter.unusedSimpArgs false

/-- What comes of a part of parsing: a value of texts that are left, an error, the set behind it. -/
def Came (D : St) (s : SetD) (way : Way) (e : Ending) (w' : World) (o : RunD × List ByteArray) : Prop :=
  ∃ v' ev D', e = .returned (.tuple #[v', ev]) ∧ Inv D' w' ∧ Near D D' ∧ Runs D' s way o.1 ∧ ErrIs D' w' ev o.1.err ∧ Texts D.w0 v' o.2

theorem lookup_form {D : St} {w : World} (h : Inv D w) (n : ByteArray) :
    (Instr.lookup 133 (.map D.fm) (.string n) true).run Try.prog w = .ok (lookedUp (.pointer none) true (mapFind n D.formL 0)) w := by
  rcases h.hfm with ⟨e, e2⟩ | ⟨b, e, hb⟩
  · rw [e, e2]
    exact run_lookup_nilmap (P := Try.prog) (K := strKey) (T := 133) (kt := 118) (et := 91) (z := .pointer none) (by kernel_rfl) (by kernel_rfl) (by kernel_rfl) n true
  · rw [e]
    exact run_lookup_map (P := Try.prog) (T := 133) (kt := 118) (et := 91) (z := .pointer none) hb (by kernel_rfl) (by kernel_rfl) (by kernel_rfl) n true

/-- What the look-up of a name answers. -/
def seen (D : St) : Option Nat → Value
  | none => .tuple #[.pointer none, .bool false]
  | some i => .tuple #[(D.rs[i]?.map fun r => ptr r.fb).getD (.pointer none), .bool true]

theorem lookup_seen {D : St} {s : SetD} (k : Ready D s) (n : ByteArray) : lookedUp (.pointer none) true (mapFind (s.fold n) D.formL 0) = seen D (s.named n) := by
  rw [k.find]
  cases c : s.named n with
  | none => rfl
  | some i =>
    have := findAt_ge _ _ _ _ c
    obtain ⟨r, hr⟩ := k.get (List.getElem?_eq_getElem (show i < s.flags.length by omega))
    simp [hr, seen, lookedUp]

theorem look_none {D : St} {w : World} {s : SetD} (h : Inv D w) (k : Ready D s) (n : ByteArray) (hn : s.named n = none) :
    (Instr.lookup 133 (.map D.fm) (.string (foldG s.lo s.da n)) true).run Try.prog w = .ok (.tuple #[.pointer none, .bool false]) w := by
  rw [lookup_form h, show foldG s.lo s.da n = s.fold n from rfl, lookup_seen k, hn]; rfl
theorem look_some {D : St} {w : World} {s : SetD} (h : Inv D w) (k : Ready D s) (n : ByteArray) {i : Nat} {x : FlagR} (hn : s.named n = some i) (hx : D.rs[i]? = some x) :
    (Instr.lookup 133 (.map D.fm) (.string (foldG s.lo s.da n)) true).run Try.prog w = .ok (.tuple #[ptr x.fb, .bool true]) w := by
  rw [lookup_form h, show foldG s.lo s.da n = s.fold n from rfl, lookup_seen k, hn, seen, hx]; rfl

theorem eqB_help (n : ByteArray) : eqB n helpT = (n.toList == [104, 101, 108, 112]) := by
  unfold eqB
  rw [show helpT.toList = [104, 101, 108, 112] from by rw [ByteArray.toList_eq]; rfl]

theorem toList_nil (n : ByteArray) : (n.toList == []) = decide (n.size = 0) := by
  rw [Bool.eq_iff_iff, beq_iff_eq, decide_eq_true_iff, ByteArray.toList_eq, Array.toList_eq_nil_iff]
  exact ⟨fun h => by rw [ByteArray.size, h]; rfl, fun h => Array.eq_empty_of_size_eq_zero h⟩

theorem splitF_no {t : ByteArray} (h : ¬ firstFrom isEq t 0 < t.size) : splitF t = [t] ∧ t.extract 0 (firstFrom isEq t 0) = t := by
  have h1 := firstFrom_le isEq t 0
  have h2 : firstFrom isEq t 0 = t.size := by omega
  exact ⟨by rw [splitF, if_neg h], by rw [h2, ByteArray.extract_zero_size]⟩

theorem Runs.err {D : St} {s : SetD} {way : Way} {r : RunD} (k : Runs D s way r) (x : ErrD) : Runs D s way { r with err := x } :=
  ⟨k.ready, k.given, k.args, k.dash, k.parsed, k.chg, k.oa⟩

set_option maxRecDepth 100000 in
set_option maxHeartbeats 3200000 in
theorem long_any {D : St} {s : SetD} {way : Way} {r : RunD} {w : World} {fid : FuncId} {first cap : Array Value} (hands : Hands fid first cap D s way) (h : Inv D w) (k : Runs D s way r) (he : r.err = .none) (hg : r.given.length ≤ 1099511627776)
    (arg : ByteArray) (ha : arg.size ≤ 4294967295) (ha2 : 2 ≤ arg.size) (v : Value) (l : List ByteArray) (hv : Texts D.w0 v l) (hl : l.length ≤ 2147483647) (hs : ∀ t ∈ l, t.size ≤ 4294967295) :
    Calls Try.prog 104 #[ptr D.F, .string arg, v, .func (.func fid) first cap] w fun e w' => Came D s way e w' (longF s way arg l r) := by
  obtain ⟨av, cv, rfl, hcv⟩ := hv.len
  obtain ⟨text, htext⟩ : ∃ t, arg.extract 2 arg.size = t := ⟨_, rfl⟩
  have htz : text.size ≤ 4294967295 := by rw [← htext, ByteArray.size_extract]; omega
  by_cases hbad : (byteO text 0 == none || byteO text 0 == some 45 || byteO text 0 == some 61) = true
  · have e1 : longF s way arg l r = ({ r with err := .badSyntax arg }, l) := by
      simp only [longF, htext, hbad, if_true]
    rw [e1]
    have HV := Lib.hid hv
    clear hv hs e1
    have fin : ∀ w', Below w.heap.size w w' → ∀ b, w'.heap[b]? = some (.cells #[.string arg] 160 (0, 0)) → Came D s way (.returned (.tuple #[.slice av l.length cv, .iface 142 (ptr b)])) w' ({ r with err := .badSyntax arg }, l) :=
      fun w' hb b hh => ⟨_, _, D, rfl, h.later hb, Near.refl D, k.err _, ⟨b, rfl, hh⟩, HV.out⟩
    by_cases h0 : 0 < text.size
    · have e0 : ((text.size : Int) == 0) = false := by rw [beq_eq_false_iff_ne]; omega
      rw [byteO_some h0] at hbad
      have hb2 : text[0] = 45 ∨ text[0] = 61 := by simpa using hbad
      rcases hb2 with e | e
      · have f1 : ((text[0].toNat : Int) == 45) = true := by rw [e]; rfl
        clear e hbad
        go_enter Try.func104, Try.ntmps104
        go_wp2_with fail
        go_ret2
        exact fin _ ((Below.refl _ _).alloc (Nat.le_refl _) _) _ (heap_at _ _ _ rfl)
      · have f1 : ((text[0].toNat : Int) == 45) = false := by rw [e]; rfl
        have f2 : ((text[0].toNat : Int) == 61) = true := by rw [e]; rfl
        clear e hbad
        go_enter Try.func104, Try.ntmps104
        go_wp2_with fail
        go_ret2
        exact fin _ ((Below.refl _ _).alloc (Nat.le_refl _) _) _ (heap_at _ _ _ rfl)
    · have e0 : ((text.size : Int) == 0) = true := by rw [beq_iff_eq]; omega
      go_enter Try.func104, Try.ntmps104
      go_wp2_with fail
      go_ret2
      exact fin _ ((Below.refl _ _).alloc (Nat.le_refl _) _) _ (heap_at _ _ _ rfl)
  · have h0 : 0 < text.size := by
      rcases Nat.lt_or_ge 0 text.size with h0 | h0
      · exact h0
      · rw [byteO_none h0] at hbad; simp at hbad
    have e0 : ((text.size : Int) == 0) = false := by rw [beq_eq_false_iff_ne]; omega
    have hbf : (byteO text 0 == none || byteO text 0 == some 45 || byteO text 0 == some 61) = false := Bool.eq_false_iff.2 hbad
    rw [byteO_some h0] at hbad
    have hb2 : ¬ text[0] = 45 ∧ ¬ text[0] = 61 := by simpa using hbad
    have f1 : ((text[0].toNat : Int) == 45) = false := by
      rw [show ((text[0].toNat : Int) == 45) = (text[0] == 45) from byteEq text[0] 45 45 rfl]; simpa using hb2.1
    have f2 : ((text[0].toNat : Int) == 61) = false := by
      rw [show ((text[0].toNat : Int) == 61) = (text[0] == 61) from byteEq text[0] 61 61 rfl]; simpa using hb2.2
    clear hbad hb2
    obtain ⟨name, hname⟩ : ∃ n, text.extract 0 (firstFrom isEq text 0) = n := ⟨_, rfl⟩
    have hnz : name.size ≤ 4294967295 := by rw [← hname, ByteArray.size_extract]; have := firstFrom_le isEq text 0; omega
    have hL : longF s way arg l r = match s.named name with
      | none => if eqB name helpT then ({ r with err := .help }, l) else if s.unknown then (r, if firstFrom isEq text 0 < text.size then l else stripF l) else ({ r with err := .notExist name ⟨#[]⟩ }, l)
      | some i => if firstFrom isEq text 0 < text.size then (giveF s way i (text.extract (firstFrom isEq text 0 + 1) text.size) r, l) else if (s.nooptOf i).size ≠ 0 then (giveF s way i (s.nooptOf i) r, l) else wantsF s way i name ⟨#[]⟩ l r := by
      simp only [longF, htext, hbf, hname, Bool.false_eq_true, if_false]
      cases s.named name <;> rfl
    have HL := Lib.hid hL
    have HV := Lib.hid hv
    have HS := Lib.hid hs
    have HN := Lib.hid hname
    clear hbf hL hv hs hname
    have c8 := h.cellF 8 (.map D.fm) rfl
    go_enter Try.func104, Try.ntmps104
    go_wp2_with fail
    refine (split_any text _ htz).mono ?_
    rintro e w1 ⟨sv, rfl, hsp, hb1⟩
    have i1 := h.later hb1
    have hn : ∃ m, splitF text = name :: m := by
      by_cases c : firstFrom isEq text 0 < text.size
      · exact ⟨_, by rw [splitF, if_pos c, HN.out]⟩
      · obtain ⟨a1, a2⟩ := splitF_no c
        exact ⟨[], by rw [a1, ← HN.out, a2]⟩
    obtain ⟨m, hm⟩ := hn
    rw [hm] at hsp
    obtain ⟨sa, sc, rfl⟩ := hsp.len
    obtain ⟨sb, so, rfl, hcell⟩ := hsp.cell (by simp)
    have q0 : w1.cell? ⟨sb, so, none⟩ = some (.string name) := hcell 0 (by simp)
    have HC := Lib.hid hcell
    have HM := Lib.hid hm
    clear hcell hm hsp c8 h
    simp only [List.length_cons]
    go_wp2_with fail
    cases hnm : s.named name with
    | none =>
      go_region_held3 (fun w' => w'.cell? ⟨D.F, 8, none⟩ = some (.map D.fm) ∧ (Instr.lookup 133 (.map D.fm) (.string (foldG s.lo s.da name)) true).run Try.prog w' = .ok (.tuple #[.pointer none, .bool false]) w' ∧ Inv D w' ∧ Below w1.heap.size w1 w')
        (first
          | exact ⟨i1.cellF 8 (.map D.fm) rfl, look_none i1 k.ready name hnm, i1, Below.refl _ _⟩
          | exact ⟨(i1.drewN 1).cellF 8 (.map D.fm) rfl, look_none (i1.drewN 1) k.ready name hnm, i1.drewN 1, (Below.refl _ _).drew⟩
          | exact ⟨i2.cellF 8 (.map D.fm) rfl, look_none i2 k.ready name hnm, i2, hb2⟩
          | exact ⟨(i2.drewN 1).cellF 8 (.map D.fm) rfl, look_none (i2.drewN 1) k.ready name hnm, i2.drewN 1, hb2.drew⟩)
        ((go_simp; go_at_call 102; refine (normalize_any (i1.drewN 1) k.ready.norm name hnz).mono ?_; rintro e w2 ⟨rfl, hb2⟩; have i2 := (i1.drewN 1).later hb2; have hb2 : Below w1.heap.size w1 w2 := Below.trans (Below.drewN' (Below.refl _ _)) hb2))
      rename_i hx1 hx2
      clear hx1 hx2 hands hb1 q0 HC
      have d2 := i2.cellF 2 (.bool false) rfl
      have d1 := i2.cellF 1 (.bool D.unk) rfl
      rw [k.ready.unk] at d1
      cases hh : eqB name helpT with
      | true =>
        have HE : Hid (longF s way arg l r = ({ r with err := .help }, l)) := Lib.hid (by rw [HL.out, hnm]; simp only [hh, if_true])
        have hq := (eqB_help name).symm.trans hh
        clear HL hh hnm
        go_wp2_with fail
        go_ret2
        rw [HE.out]
        exact ⟨_, _, D, rfl, i2, Near.refl D, k.err _, rfl, HV.out⟩
      | false =>
        have hq := (eqB_help name).symm.trans hh
        cases hu : s.unknown with
        | true =>
          rw [hu] at d1
          by_cases c : firstFrom isEq text 0 < text.size
          · have HE : Hid (longF s way arg l r = (r, l)) := Lib.hid (by rw [HL.out, hnm]; simp only [hh, hu, c, if_true, Bool.false_eq_true, if_false])
            have hml : m.length = 1 := by have := congrArg List.length HM.out; rw [splitF, if_pos c] at this; simpa using this.symm
            clear HL hh hnm c
            go_wp2_with fail
            go_ret2
            rw [HE.out]
            exact ⟨_, _, D, rfl, i2, Near.refl D, k, by rw [he]; rfl, HV.out⟩
          · have HE : Hid (longF s way arg l r = (r, stripF l)) := Lib.hid (by rw [HL.out, hnm]; simp only [hh, hu, c, if_true, Bool.false_eq_true, if_false])
            have hml : m.length = 0 := by have := congrArg List.length HM.out; rw [(splitF_no c).1] at this; simpa using this.symm
            clear HL hh hnm c
            go_wp2_with fail
            refine (strip_any _ l D.w0 _ i2.bel.block HV.out hl HS.out).mono ?_
            rintro e w3 ⟨v', rfl, ht, rfl⟩
            go_wp2_with fail
            go_ret2
            rw [HE.out]
            exact ⟨_, _, D, rfl, i2, Near.refl D, k, by rw [he]; rfl, ht⟩
        | false =>
          rw [hu] at d1
          have HE : Hid (longF s way arg l r = ({ r with err := .notExist name ⟨#[]⟩ }, l)) := Lib.hid (by rw [HL.out, hnm]; simp only [hh, hu, Bool.false_eq_true, if_false])
          clear HL hh hnm
          go_wp2_with fail
          go_ret2
          rw [HE.out]
          exact ⟨_, _, D, rfl, i2.later ((Below.refl _ _).alloc (Nat.le_refl _) _), Near.refl D, k.err _, ⟨_, _, rfl, heap_at _ _ _ rfl⟩, HV.out⟩
    | some i =>
      obtain ⟨x, hx⟩ : ∃ x, D.rs[i]? = some x := by
        have := findAt_ge _ _ _ _ hnm
        exact k.ready.get (List.getElem?_eq_getElem (show i < s.flags.length by omega))
      go_region_held3 (fun w' => w'.cell? ⟨D.F, 8, none⟩ = some (.map D.fm) ∧ (Instr.lookup 133 (.map D.fm) (.string (foldG s.lo s.da name)) true).run Try.prog w' = .ok (.tuple #[ptr x.fb, .bool true]) w' ∧ Inv D w' ∧ Below w1.heap.size w1 w')
        (first
          | exact ⟨i1.cellF 8 (.map D.fm) rfl, look_some i1 k.ready name hnm hx, i1, Below.refl _ _⟩
          | exact ⟨(i1.drewN 1).cellF 8 (.map D.fm) rfl, look_some (i1.drewN 1) k.ready name hnm hx, i1.drewN 1, (Below.refl _ _).drew⟩
          | exact ⟨i2.cellF 8 (.map D.fm) rfl, look_some i2 k.ready name hnm hx, i2, hb2⟩
          | exact ⟨(i2.drewN 1).cellF 8 (.map D.fm) rfl, look_some (i2.drewN 1) k.ready name hnm hx, i2.drewN 1, hb2.drew⟩)
        ((go_simp; go_at_call 102; refine (normalize_any (i1.drewN 1) k.ready.norm name hnz).mono ?_; rintro e w2 ⟨rfl, hb2⟩; have i2 := (i1.drewN 1).later hb2; have hb2 : Below w1.heap.size w1 w2 := Below.trans (Below.drewN' (Below.refl _ _)) hb2))
      rename_i hx1 hx2
      have hk2 := hb2.block
      clear hx1 hx2 hb1 q0
      have hent := hands.enter
      have z1 := k.ready.noopt hx
      have c6 := i2.cellFlag hx 6 (.string x.noopt) rfl
      obtain ⟨-, hnos, -⟩ := k.ready.small i x hx
      by_cases c : firstFrom isEq text 0 < text.size
      · have HE : Hid (longF s way arg l r = (giveF s way i (text.extract (firstFrom isEq text 0 + 1) text.size) r, l)) := Lib.hid (by rw [HL.out, hnm]; simp only [c, if_true])
        have hml : m = [text.extract (firstFrom isEq text 0 + 1) text.size] := by
          have e := HM.out
          rw [splitF, if_pos c] at e
          exact (List.cons.inj e).2.symm
        have q1 := HC.out 1 (by rw [hml]; simp)
        have q1 : w2.cell? ⟨sb, so + 1, none⟩ = some (.string (text.extract (firstFrom isEq text 0 + 1) text.size)) := by
          rw [World.cell?_of_block (hk2 sb (World.block_lt_of_cell? w1 _ q1)), q1]
          simp only [hml, List.getElem_cons_succ, List.getElem_cons_zero]
        have hv2 : (text.extract (firstFrom isEq text 0 + 1) text.size).size ≤ 4294967295 := by rw [ByteArray.size_extract]; omega
        generalize text.extract (firstFrom isEq text 0 + 1) text.size = val at *
        subst hml
        clear HL hnm c HC
        go_wp2_with fail
        refine (hands.gives D w2 r i x val (Near.refl D) i2 k he hx hg).mono ?_
        rintro e w3 ⟨ev, D', rfl, j1, j2, j3, j4⟩
        go_wp2_with fail
        go_ret2
        rw [HE.out]
        exact ⟨_, _, D', rfl, j1, j2, j3, j4, HV.out⟩
      · have hml : m = [] := by
          have e := HM.out
          rw [(splitF_no c).1] at e
          exact (List.cons.inj e).2.symm
        subst hml
        by_cases hno : x.noopt.size = 0
        · have hq : (x.noopt.toList == []) = true := by rw [toList_nil]; exact decide_eq_true hno
          have HE : Hid (longF s way arg l r = wantsF s way i name ⟨#[]⟩ l r) := Lib.hid (by rw [HL.out, hnm]; simp only [c, if_false, z1, hno, ne_eq, not_true_eq_false])
          clear HL hnm c HC hno z1
          cases l with
          | nil =>
            go_wp2_with fail
            go_ret2
            rw [HE.out]
            exact ⟨_, _, D, rfl, i2.later ((Below.refl _ _).alloc (Nat.le_refl _) _), Near.refl D, k.err _, ⟨_, x, rfl, hx, heap_at _ _ _ rfl⟩, HV.out⟩
          | cons y l =>
            obtain ⟨tb, to, A, rfl, -, hc1, q2, hA, ht⟩ := HV.out.tail
            have q2 : w2.cell? ⟨tb, to, none⟩ = some (.string y) := (World.cell?_of_block (i2.bel.block tb (World.block_lt_of_cell? D.w0 _ q2))).trans q2
            have HT := Lib.hid ht
            have hy := HS.out y (by simp)
            clear ht HS
            simp only [List.length_cons] at hl
            go_wp2_with fail
            refine (hands.gives D w2 r i x y (Near.refl D) i2 k he hx hg).mono ?_
            rintro e w3 ⟨ev, D', rfl, j1, j2, j3, j4⟩
            go_wp2_with fail
            go_ret2
            rw [HE.out]
            exact ⟨_, _, D', rfl, j1, j2, j3, j4, HT.out⟩
        · have hq : (x.noopt.toList == []) = false := by rw [toList_nil]; exact decide_eq_false hno
          have HE : Hid (longF s way arg l r = (giveF s way i x.noopt r, l)) := Lib.hid (by rw [HL.out, hnm]; simp only [c, if_false, z1, hno, ne_eq, not_false_eq_true, if_true])
          clear HL hnm c HC hno z1
          go_wp2_with fail
          refine (hands.gives D w2 r i x x.noopt (Near.refl D) i2 k he hx hg).mono ?_
          rintro e w3 ⟨ev, D', rfl, j1, j2, j3, j4⟩
          go_wp2_with fail
          go_ret2
          rw [HE.out]
          exact ⟨_, _, D', rfl, j1, j2, j3, j4, HV.out⟩
end Go.Proofs.Ytcpjdgbnfjdakaa
