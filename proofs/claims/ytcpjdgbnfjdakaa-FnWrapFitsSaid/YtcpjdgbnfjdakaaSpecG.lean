/- The walks of the reference's shorts, Goes. -/
import Derived.Test.YtcpjdgbnfjdakaaSpecE
namespace Go.Proofs.Ytcpjdgbnfjdakaa
open Go.RowKit
set_option linter.unusedVariables false
set_option linter.unusedSimpArgs false

theorem kind_zero (x : ErrD) : (x.kind == 0) = x.isNone := by cases x <;> rfl

set_option maxRecDepth 100000 in
set_option maxHeartbeats 3200000 in
theorem shortsS_any {K : SSt} {s : SetD} {way : Way} (ok : SOk K s way) {r : RunD} {w : World} (h : SInv K r w) (he : r.err = .none)
    (text : ByteArray) (ha : text.size ≤ 2147483647) (hg : r.given.length + text.size ≤ 1099511627776) (v : Value) (l : List ByteArray) (hv : Texts K.w0 v l) (hl : l.length ≤ 2147483647) (hs : ∀ t ∈ l, t.size ≤ 2147483647) :
    Calls Try.prog 98 #[ptr K.X, .string text, v] w fun e w' => ∃ v', e = .returned v' ∧ SInv K (shortsF s way text l r).1 w' ∧ Texts K.w0 v' (shortsF s way text l r).2 := by
  have HV := Lib.hid hv
  have HS := Lib.hid hs
  clear hv hs
  unfold shortsF
  go_enter Try.func98, Try.ntmps98
  go_wp2_with fail
  go_loopw [1, 7] (fun vt vl w' => ∃ r' cur left n, vt = .string cur ∧ SInv K r' w' ∧ Texts K.w0 vl left ∧ r'.given.length + cur.size ≤ 1099511627776 ∧ cur.size ≤ text.size ∧ cur.size ≤ n ∧ shortsN s way l text.size text r l = shortsN s way l n cur r' left)
    (fun vt _ _ => strLen vt)
  case atStart => exact ⟨r, text, l, text.size, rfl, h, HV.out, hg, Nat.le_refl _, Nat.le_refl _, rfl⟩
  case round =>
    obtain ⟨r', cur, left, n, rfl, ⟨gv, av, i1⟩, ht1, hg1, hz1, hn, hrun⟩ := hrel
    have HR := Lib.hid hrun
    have HT := Lib.hid ht1
    have c4 := i1.cell 4 (.int .i64 r'.err.kind) rfl
    have hk := kind_zero r'.err
    clear hrun ht1 h hg he
    by_cases hc : 0 < cur.size
    · have e1 := isEmpty_no hc
      cases hz : r'.err.isNone with
      | true =>
        have hze := isNone_eq hz
        rw [hz] at hk
        obtain ⟨m, rfl, hst⟩ := shortsN_step s way l n cur r' left (by omega) hn hze
        have e2 := shortF_given s way cur l r'
        have e3 := shortF_size s way cur l r' hc
        have C := Lib.hid (shortS_any ok ⟨gv, av, i1⟩ hze (by omega) cur (by omega) hc v l HV.out hl HS.out)
        have HST := Lib.hid hst
        clear hst hz hze
        generalize shortF s way cur l r' = o at *
        obtain ⟨ro, mo, lo⟩ := o
        generalize r'.err.kind = kd at *
        go_wp2_with fail
        refine C.out.mono ?_
        rintro e w3 ⟨v', rfl, h3, t3⟩
        go_wp2_with fail
        go_roundw
        case rel => exact ⟨ro, mo, lo, m, rfl, h3, t3, by omega, by omega, by omega, by rw [HR.out, HST.out]⟩
        case measure => simp only [strLen]; omega
      | false =>
        have HE : Hid (shortsN s way l text.size text r l = (r', left)) := Lib.hid (by rw [HR.out]; exact shortsN_stop _ _ _ _ _ _ _ hz)
        rw [hz] at hk
        clear HR hz
        generalize r'.err.kind = kd at *
        go_wp2_with fail
        go_ret
        rw [HE.out]
        exact ⟨_, rfl, ⟨_, _, i1⟩, HT.out⟩
    · have e1 := isEmpty_yes hc
      have HE : Hid (shortsN s way l text.size text r l = (r', left)) := Lib.hid (by rw [HR.out]; exact shortsN_empty _ _ _ _ _ _ _ (by omega))
      clear HR hk
      go_wp2_with fail
      go_ret
      rw [HE.out]
      exact ⟨_, rfl, ⟨_, _, i1⟩, HT.out⟩

theorem dd_eq {x : ByteArray} (h : 1 < x.size) (h0 : x[0] = 45) : (x.toList == [45, 45]) = (byteO x 1 == some 45 && decide (x.size = 2)) := by
  rw [Bool.eq_iff_iff, Bool.and_eq_true, beq_iff_eq, beq_iff_eq, decide_eq_true_iff, byteO_some h, ByteArray.toList_eq]
  obtain ⟨⟨l⟩⟩ := x
  match l, h with
  | [a], h => simp [ByteArray.size] at h
  | a :: b :: t, h =>
    have e0 : a = 45 := h0
    subst e0
    constructor
    · intro e
      cases e
      exact ⟨rfl, rfl⟩
    · rintro ⟨e1, e2⟩
      have e1' : b = 45 := by have : some b = some 45 := e1; simpa using this
      have e2' : t = [] := by
        have : (45 :: b :: t).length = 2 := e2
        simpa using this
      rw [e1', e2']

set_option maxRecDepth 100000 in
set_option maxHeartbeats 6400000 in
theorem goesS_any {K : SSt} {s : SetD} {way : Way} (ok : SOk K s way) {r : RunD} {w : World} (h : SInv K r w)
    (v : Value) (l : List ByteArray) (hv : Texts K.w0 v l) (hs : ∀ t ∈ l, t.size ≤ 2147483647) (hl : l.length ≤ 2147483647) (hg : r.given.length + bytesOf l ≤ 1099511627776) (ha : r.args.length + l.length ≤ 1099511627776) :
    Calls Try.prog 54 #[ptr K.X, v] w fun e w' => e = .returned (.tuple #[]) ∧ SInv { K with parsed := true } (goesF s way l r) w' := by
  obtain ⟨gv, av, h⟩ := h
  have HV := Lib.hid hv
  have HS := Lib.hid hs
  obtain ⟨i0, hi0, hz0, hz1, hz2⟩ := info_parts infoT
  have c13 := h.cell 13 (.bool K.parsed) rfl
  have f13 := h.free 13
  have E0 := Lib.hid ((h.sc.put 13 (.bool true)).done (K' := { K with parsed := true }) (r' := r) rfl rfl rfl rfl rfl)
  have ok2 := ok.parsed true
  unfold goesF
  clear hv hs
  go_enter Try.func54, Try.ntmps54
  go_wp2_with fail
  generalize hK : ({ K with parsed := true } : SSt) = K2 at *
  have hX : K.X = K2.X := by rw [← hK]
  have hw0 : K.w0 = K2.w0 := by rw [← hK]
  have E0 := E0.out
  rw [hw0] at HV
  have HK := Lib.hid hK
  clear hK c13 f13 h ok hw0
  rw [hX] at E0 ⊢
  clear hX
  generalize w.setCell ⟨K2.X, 13, none⟩ (.bool true) = w1 at *
  go_loopw [1] (fun va w' => ∃ r' left n, SInv K2 r' w' ∧ Texts K2.w0 va left ∧ left <:+ l ∧ r'.given.length + bytesOf left ≤ 1099511627776 ∧ r'.args.length + left.length ≤ 1099511627776 ∧ left.length ≤ n ∧ goesN s way l.length l r = goesN s way n left r')
    (fun va _ => match va with | .slice _ n _ => n | _ => 0)
  case atStart => exact ⟨r, l, l.length, ⟨_, _, E0⟩, HV.out, List.suffix_refl _, hg, ha, Nat.le_refl _, rfl⟩
  case round =>
    obtain ⟨r', left, n, ⟨gv1, av1, i1⟩, ht1, hsuf, hg1, ha1, hn, hrun⟩ := hrel
    have HR := Lib.hid hrun
    have c4 := i1.cell 4 (.int .i64 r'.err.kind) rfl
    have hk := kind_zero r'.err
    clear hrun E0 hg ha HV
    obtain ⟨av, cv, rfl, hcv⟩ := ht1.len
    cases left with
    | nil =>
      have HE : Hid (goesN s way l.length l r = r') := Lib.hid (by rw [HR.out]; exact goesN_nil _ _ _ _)
      clear HR hk
      go_wp2_with fail
      go_end0
      rw [HE.out, HK.out]
      exact ⟨rfl, _, _, i1⟩
    | cons x left =>
      cases hz : r'.err.isNone with
      | false =>
        have HE : Hid (goesN s way l.length l r = r') := Lib.hid (by rw [HR.out]; exact goesN_stop _ _ _ _ _ hz)
        rw [hz] at hk
        clear HR hz
        generalize r'.err.kind = kd at *
        simp only [List.length_cons]
        go_wp2_with fail
        go_end0
        rw [HE.out, HK.out]
        exact ⟨rfl, _, _, i1⟩
      | true =>
        have he1 := isNone_eq hz
        rw [hz] at hk
        obtain ⟨tb, tof, A, rfl, -, hc1, q2, hA, ht⟩ := ht1.tail
        have q2 : wr.cell? ⟨tb, tof, none⟩ = some (.string x) := (World.cell?_of_block (i1.bel.block tb (World.block_lt_of_cell? K2.w0 _ q2))).trans q2
        have HT := Lib.hid ht
        have HT1 := Lib.hid ht1
        have hx : x.size ≤ 2147483647 := HS.out x (hsuf.subset (by simp))
        have hsuf2 : left <:+ l := (List.suffix_cons x left).trans hsuf
        have hsz : ∀ t ∈ left, t.size ≤ 2147483647 := fun t h => HS.out t (hsuf2.subset h)
        have HSZ := Lib.hid hsz
        have HSUF := Lib.hid hsuf2
        have hll : left.length + 1 ≤ l.length := by have := hsuf.length_le; simpa using this
        obtain ⟨m, rfl⟩ : ∃ m, n = m + 1 := ⟨n - 1, by simp only [List.length_cons] at hn; omega⟩
        rw [bytesOf_cons] at hg1
        simp only [List.length_cons] at hn ha1
        clear ht ht1 hsuf hz hsz hsuf2
        simp only [List.length_cons]
        have HKD := Lib.hid (show r'.err.kind = 0 by rw [he1]; rfl)
        generalize r'.err.kind = kd at *
        go_wp2_with fail
        go_quiet (fail)
        rename_i nq
        have i2 := i1.later (Below.drewN' (n := nq) (Below.refl _ wr))
        generalize wr.drewN nq = w2 at *
        clear i1 c4 q2 hk HKD
        have c1 := i2.cell 1 (.bool K2.plain) rfl
        rw [← ok2.hp] at c1
        have c10 := i2.cell 10 av1 rfl
        have f10 := i2.free 10
        have HA := Lib.hid ha1
        go_wp2_with fail
        refine (bare_any x _).mono ?_
        rintro e w2 ⟨rfl, rfl⟩
        cases hb : bareF x with
        | true =>
          cases hp : s.plain with
          | true =>
            have HE : Hid (goesN s way l.length l r = { r' with args := r'.args ++ (x :: left) }) := Lib.hid (by rw [HR.out]; simp [goesN, he1, ErrD.isNone, hb, hp])
            rw [hp] at c1
            clear HR
            go_wp2_with (
              at_builtin
              refine wpList_append_own_at _ (by rfl) _ _ _ (by rfl) K2.base 9 i0 _ 1 16 Try.underlying25 hi0 hz0 hz1 hz2 rfl (by omega) av1 r'.args.length (r'.args.map .string) (by rfl) i2.rA
                ⟨tb, tof, none⟩ (left.length + 1) cv ((x :: left).map .string) (by rfl) (by simp) (Texts.news HT1.out i2.bel.block) (texts_oneCell (x :: left))
                (by have := HA.out; unfold maxLen; omega) (by have := HA.out; omega) i2.bel.size ?_
              intro nv w4 hown1 hgrow hnil hat
              obtain ⟨na, nc, rfl⟩ := row_form hown1
              obtain ⟨⟨g1, g2⟩, yI⟩ := i2.grownA hgrow _ (r'.args ++ (x :: left)) (by simpa using hown1))
            refine bodyPost_ret (results_none rfl _ _ _) rfl ?_
            rw [HE.out, HK.out]
            exact ⟨rfl, _, _, yI⟩
          | false =>
            have HE : Hid (goesN s way l.length l r = goesN s way m left { r' with args := r'.args ++ [x] }) := Lib.hid (by rw [HR.out]; simp [goesN, he1, ErrD.isNone, hb, hp])
            rw [hp] at c1
            clear HR
            go_wp2_with fail
            refine (bare_any x _).mono ?_
            rintro e w2 ⟨rfl, rfl⟩
            rw [hb]
            go_wp2_with (
              at_builtin
              refine wpList_append_own_at _ (by rfl) _ _ _ (by rfl) K2.base 9 i0 _ 1 16 Try.underlying25 hi0 hz0 hz1 hz2 rfl (by omega) av1 r'.args.length (r'.args.map .string) (by rfl) (i2.rA.alloc _)
                ⟨w2.heap.size, 0, none⟩ 1 1 [.string x] (by rfl) (by rfl) (World.news_of_block (cs := #[.string x]) (t := 9) (fr := (0, 0)) (heap_alloc_new w2 _)) (by simp [Value.oneCell'])
                (by have := HA.out; unfold maxLen; omega) (by have := HA.out; omega) (by have := i2.bel.size; simp only [World.size_alloc]; exact Nat.le_succ_of_le this) ?_
              intro nv w4 hown1 hgrow hnil hat
              obtain ⟨na, nc, rfl⟩ := row_form hown1
              obtain ⟨⟨g1, g2⟩, yI⟩ := (i2.later ((Below.refl _ w2).alloc (Nat.le_refl _) _)).grownA hgrow _ (r'.args ++ [x]) (by simpa using hown1))
            go_roundw
            case rel => exact ⟨_, left, m, ⟨_, _, yI⟩, HT.out, HSUF.out, by simp only; omega, by simp only [List.length_append, List.length_singleton]; omega, by omega, HE.out⟩
            case measure => simp
        | false =>
          obtain ⟨hx1, hx0⟩ := (bareF_cases x).resolve_left (fun q => by rw [hb] at q; exact absurd q.1 (by simp)) |>.2
          have hx45 : x[0] = 45 := by
            have : ((x[0].toNat : Int) == 45) = true := by rw [bne] at hx0; simpa using hx0
            rw [beq_iff_eq] at this
            exact UInt8.toNat_inj.mp (by show x[0].toNat = 45; omega)
          have hdd := dd_eq hx1 hx45
          have hb1 : (1 : Int) < (x.size : Int) := by omega
          have hb2 : (1 : Int) ≤ (x.size : Int) := by omega
          clear hx0 hx45
          cases hd : (byteO x 1 == some 45) with
          | true =>
            have hd1 : ((x[1].toNat : Int) == 45) = true := by
              rw [byteO_some hx1] at hd
              exact (byteEq x[1] 45 45 rfl).trans (by simpa using hd)
            by_cases hz : x.size = 2
            · have HE : Hid (goesN s way l.length l r = { r' with dash := r'.args.length, args := r'.args ++ left }) := Lib.hid (by rw [HR.out]; simp [goesN, he1, ErrD.isNone, hb, hd, hz])
              rw [hd, decide_eq_true hz] at hdd
              simp only [Bool.and_self] at hdd
              clear HR hd
              obtain ⟨aa, ac, hav⟩ := row_form i2.rA
              subst hav
              have f11 := i2.free 11
              have c11 := i2.cell 11 (.int .i64 r'.dash) rfl
              have i3 := (i2.sc.put 11 (.int .i64 (r'.args.length : Int))).done (K' := K2) (r' := { r' with dash := r'.args.length }) rfl rfl rfl rfl rfl
              have d10 := i3.cell 10 _ rfl
              go_wp2_with fail
              refine (bare_any x _).mono ?_
              rintro e w2 ⟨rfl, rfl⟩
              rw [hb]
              go_wp2_with (
                at_builtin
                refine wpList_append_own_at _ (by rfl) _ _ _ (by rfl) K2.base 9 i0 _ 1 16 Try.underlying25 hi0 hz0 hz1 hz2 rfl (by omega) (.slice aa r'.args.length ac) r'.args.length (r'.args.map .string) (by rfl) i3.rA
                  A left.length (cv - 1) (left.map .string) (by rfl) (by rw [List.length_map]; omega) (Texts.news HT.out i3.bel.block) (texts_oneCell left)
                  (by have := HA.out; unfold maxLen; omega) (by have := HA.out; omega) i3.bel.size ?_
                intro nv w4 hown1 hgrow hnil hat
                obtain ⟨na, nc, rfl⟩ := row_form hown1
                obtain ⟨⟨g1, g2⟩, yI⟩ := i3.grownA hgrow _ (r'.args ++ left) (by simpa using hown1))
              refine bodyPost_ret (results_none rfl _ _ _) rfl ?_
              rw [HE.out, HK.out]
              exact ⟨rfl, _, _, yI⟩
            · have HE : Hid (goesN s way l.length l r = goesN s way m (longF s way x left r').2 (longF s way x left r').1) := Lib.hid (by rw [HR.out]; simp [goesN, he1, ErrD.isNone, hb, hd, hz])
              rw [hd, decide_eq_false hz] at hdd
              simp only [Bool.and_false] at hdd
              have e2 := longF_given s way x left r'
              have e3 := longF_suffix s way x left r'
              have e4 := e3.length_le
              have e5 := bytesOf_suffix e3
              have e6 : (longF s way x left r').1.args = r'.args := longF_args s way x left r'
              have C := Lib.hid (longS_any ok2 ⟨_, _, i2⟩ he1 (by omega) x hx (by omega) (.slice (some A) left.length (cv - 1)) left HT.out (by omega) HSZ.out)
              clear HR hd
              generalize longF s way x left r' = o at *
              obtain ⟨ro, lo⟩ := o
              simp only at e2 e3 e4 e5 e6
              have HSU := Lib.hid (e3.trans HSUF.out)
              have HE6 := Lib.hid e6
              clear e3 e6
              go_wp2_with fail
              refine (bare_any x _).mono ?_
              rintro e w2 ⟨rfl, rfl⟩
              rw [hb]
              go_wp2_with fail
              refine C.out.mono ?_
              rintro e w5 ⟨v', rfl, h5, t5⟩
              obtain ⟨a5, c5, rfl, -⟩ := t5.len
              go_wp2_with fail
              go_roundw
              case rel => exact ⟨ro, lo, m, h5, t5, HSU.out, by omega, by rw [HE6.out]; omega, by omega, HE.out⟩
              case measure => simp; omega
          | false =>
            have hd1 : ((x[1].toNat : Int) == 45) = false := by
              rw [byteO_some hx1] at hd
              exact (byteEq x[1] 45 45 rfl).trans (by simpa using hd)
            rw [hd] at hdd
            simp only [Bool.false_and] at hdd
            obtain ⟨tx, htx⟩ : ∃ t, x.extract 1 x.size = t := ⟨_, rfl⟩
            have HE : Hid (goesN s way l.length l r = goesN s way m (shortsF s way (tx) left r').2 (shortsF s way (tx) left r').1) := Lib.hid (by rw [HR.out, ← htx]; simp [goesN, he1, ErrD.isNone, hb, hd])
            have hez : (tx).size + 1 = x.size := by rw [← htx, ByteArray.size_extract]; omega
            have e2 : (shortsF s way (tx) left r').1.given.length ≤ r'.given.length + (tx).size := shortsN_given s way left _ _ _ _
            have e3 : (shortsF s way (tx) left r').2 <:+ left := shortsN_suffix s way left _ _ _ _ (List.suffix_refl _)
            have e4 := e3.length_le
            have e5 := bytesOf_suffix e3
            have e6 : (shortsF s way (tx) left r').1.args = r'.args := shortsN_args s way left _ _ _ _
            have C := Lib.hid (shortsS_any ok2 ⟨_, _, i2⟩ he1 (tx) (by omega) (by omega) (.slice (some A) left.length (cv - 1)) left HT.out (by omega) HSZ.out)
            clear HR hd
            generalize shortsF s way (tx) left r' = o at *
            obtain ⟨ro, lo⟩ := o
            simp only at e2 e3 e4 e5 e6
            have HSU := Lib.hid (e3.trans HSUF.out)
            have HE6 := Lib.hid e6
            clear e3 e6
            go_wp2_with fail
            refine (bare_any x _).mono ?_
            rintro e w2 ⟨rfl, rfl⟩
            rw [hb]
            go_wp2_with fail
            refine C.out.mono ?_
            rintro e w5 ⟨v', rfl, h5, t5⟩
            obtain ⟨a5, c5, rfl, -⟩ := t5.len
            go_wp2_with fail
            go_roundw
            case rel => exact ⟨ro, lo, m, h5, t5, HSU.out, by omega, by rw [HE6.out]; omega, by omega, HE.out⟩
            case measure => simp; omega
end Go.Proofs.Ytcpjdgbnfjdakaa
