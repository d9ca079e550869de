/- The walk of the reference's Right. -/
import Derived.Test.YtcpjdgbnfjdakaaFits
import Derived.Test.YtcpjdgbnfjdakaaSpecD
namespace Go.Proofs.Ytcpjdgbnfjdakaa
open Go.RowKit
set_option linter.unusedVariables false
set_option linter.unusedSimpArgs false

/-- What a right set's flags are like. -/
structure RQ (F : ByteArray → ByteArray) (fs : List FlagD) : Prop where
  letter : ∀ f ∈ fs, ∃ h : 0 < f.name.size, letterF f.name[0] = true
  noeq : ∀ f ∈ fs, f.name.size ≤ firstFrom isEq f.name 0
  nm : ∀ (i j : Nat) (f g : FlagD), fs[i]? = some f → fs[j]? = some g → F f.name = F g.name → i = j
  one : ∀ f ∈ fs, f.short.size = 0 ∨ ∃ h : f.short.size = 1, letterF (f.short[0]'(by omega)) = true
  sh : ∀ (i j : Nat) (f g : FlagD) (c : UInt8), fs[i]? = some f → fs[j]? = some g → byteO f.short 0 = some c → byteO g.short 0 = some c → i = j

def namesL (F : ByteArray → ByteArray) (fs : List FlagD) : List (ByteArray × Value) := fs.map fun f => (F f.name, .bool true)
def shortsL (fs : List FlagD) : List (ByteArray × Value) := (fs.filter fun f => decide (0 < f.short.size)).map fun f => (f.short, .bool true)

theorem mapFind_none_ne {κ : Type} [DecidableEq κ] {k : κ} : ∀ {L : List (κ × Value)} {i : Nat}, mapFind k L i = none → ∀ x ∈ L, x.1 ≠ k
  | [], _, _, x, hx => by simp at hx
  | y :: L, i, h, x, hx => by
    rw [mapFind] at h
    split at h
    · cases h
    · rename_i c
      rcases List.mem_cons.1 hx with rfl | hx
      · exact fun e => c e.symm
      · exact mapFind_none_ne h x hx

theorem one_ext {s : ByteArray} {c : UInt8} (h : s.size = 1) (hc : byteO s 0 = some c) : s = ⟨#[c]⟩ := by
  obtain ⟨⟨l⟩⟩ := s
  match l, h with
  | [a], _ =>
    have : a = c := by
      rw [byteO_some (show 0 < 1 by omega)] at hc
      exact Option.some.inj hc
    rw [this]

theorem RQ.nil (F : ByteArray → ByteArray) : RQ F [] := ⟨by simp, by simp, by simp, by simp, by simp⟩

theorem RQ.snoc {F : ByteArray → ByteArray} {fs : List FlagD} (h : RQ F fs) (f : FlagD) (hl : ∃ h : 0 < f.name.size, letterF f.name[0] = true) (hn : f.name.size ≤ firstFrom isEq f.name 0) (hm : mapFind (F f.name) (namesL F fs) 0 = none)
    (hs : f.short.size = 0 ∨ ((∃ h : f.short.size = 1, letterF (f.short[0]'(by omega)) = true) ∧ mapFind f.short (shortsL fs) 0 = none)) : RQ F (fs ++ [f]) := by
  have hnm := mapFind_none_ne hm
  have key : ∀ (j : Nat) (g : FlagD), fs[j]? = some g → F g.name ≠ F f.name := fun j g hg => hnm (F g.name, .bool true) (List.mem_map.2 ⟨g, List.mem_of_getElem? hg, rfl⟩)
  have ks : ∀ (j : Nat) (g : FlagD) (c : UInt8), fs[j]? = some g → byteO g.short 0 = some c → byteO f.short 0 = some c → False := by
    intro j g c hg h1 h2
    rcases hs with hs | ⟨⟨h3, _⟩, h4⟩
    · rw [byteO_none (by omega)] at h2; cases h2
    · have h5 : 0 < g.short.size := by
        rcases Nat.lt_or_ge 0 g.short.size with h | h
        · exact h
        · rw [byteO_none h] at h1; cases h1
      have h6 : g.short.size = 1 := by
        rcases h.one g (List.mem_of_getElem? hg) with e | ⟨e, _⟩
        · omega
        · exact e
      refine mapFind_none_ne h4 (g.short, .bool true) (List.mem_map.2 ⟨g, List.mem_filter.2 ⟨List.mem_of_getElem? hg, by simp [h5]⟩, rfl⟩) ?_
      show g.short = f.short
      rw [one_ext h6 h1, one_ext h3 h2]
  refine ⟨?_, ?_, ?_, ?_, ?_⟩
  · intro g hg
    rcases List.mem_append.1 hg with hg | hg
    · exact h.letter g hg
    · simp at hg; subst hg; exact hl
  · intro g hg
    rcases List.mem_append.1 hg with hg | hg
    · exact h.noeq g hg
    · simp at hg; subst hg; exact hn
  · intro i j a b ha hb e
    rcases snoc_get ha with ⟨e1, rfl⟩ | ⟨e1, ha1⟩ <;> rcases snoc_get hb with ⟨e2, rfl⟩ | ⟨e2, hb1⟩
    · omega
    · exact absurd e.symm (key j b hb1)
    · exact absurd e (key i a ha1)
    · exact h.nm i j a b ha1 hb1 e
  · intro g hg
    rcases List.mem_append.1 hg with hg | hg
    · exact h.one g hg
    · simp at hg; subst hg
      rcases hs with hs | ⟨hs, _⟩
      · exact .inl hs
      · exact .inr hs
  · intro i j a b c ha hb e1 e2
    rcases snoc_get ha with ⟨q1, rfl⟩ | ⟨q1, ha1⟩ <;> rcases snoc_get hb with ⟨q2, rfl⟩ | ⟨q2, hb1⟩
    · omega
    · exact (ks j b c hb1 e2 e1).elim
    · exact (ks i a c ha1 e1 e2).elim
    · exact h.sh i j a b c ha1 hb1 e1 e2

theorem namesL_snoc (F : ByteArray → ByteArray) (fs : List FlagD) (f : FlagD) : namesL F (fs ++ [f]) = namesL F fs ++ [(F f.name, .bool true)] := by simp [namesL]
theorem shortsL_no (fs : List FlagD) (f : FlagD) (h : ¬ 0 < f.short.size) : shortsL (fs ++ [f]) = shortsL fs := by simp [shortsL, h]
theorem shortsL_yes (fs : List FlagD) (f : FlagD) (h : 0 < f.short.size) : shortsL (fs ++ [f]) = shortsL fs ++ [(f.short, .bool true)] := by simp [shortsL, h]

theorem put_str {B : Nat} {w : World} {m : Nat} {L : List (ByteArray × Value)} (h : MapIs strKey w m L) (k : ByteArray) (hB : B ≤ m) (hn : mapFind k L 0 = none) :
    ∃ w', (Instr.mapUpdate 74 (.map (some m)) (.string k) (.bool true)).run Try.prog w = .ok () w' ∧ MapIs strKey w' m (L ++ [(k, .bool true)]) ∧ (∀ b, b ≠ m → w'.heap[b]? = w.heap[b]?) ∧ w'.heap.size = w.heap.size ∧ Below B w w' := by
  obtain ⟨o, h1, h2⟩ := run_mapUpdate_map (P := Try.prog) (T := 74) (kt := 9) (et := 4) h (by kernel_rfl) (by kernel_rfl) k (.bool true)
  rw [mapPut_new k _ _ 0 hn] at h2
  have hb : ∀ b, b ≠ m → ({ w with heap := w.heap.setIfInBounds m o } : World).heap[b]? = w.heap[b]? := fun b hb => setBlock_ne hb
  exact ⟨_, h1, h2, hb, by simp, ⟨rfl, rfl, rfl, by simp, fun b hlt => hb b (by omega)⟩⟩

theorem look_str {w : World} {m : Nat} {L : List (ByteArray × Value)} (h : MapIs strKey w m L) (k : ByteArray) :
    (Instr.lookup 74 (.map (some m)) (.string k) false).run Try.prog w = .ok (lookedUp (.bool false) false (mapFind k L 0)) w :=
  run_lookup_map (P := Try.prog) (T := 74) (kt := 9) (et := 4) (z := .bool false) h (by kernel_rfl) (by kernel_rfl) (by kernel_rfl) k false

theorem found_true {F : ByteArray → ByteArray} {k : ByteArray} : ∀ {L : List (ByteArray × Value)} {i : Nat}, (∀ x ∈ L, x.2 = .bool true) → lookedUp (.bool false) false (mapFind k L i) = .bool (mapFind k L i).isSome
  | [], _, _ => rfl
  | y :: L, i, h => by
    rw [mapFind]
    split
    · have := h y (by simp); simp [lookedUp, this]
    · exact found_true (F := F) fun x hx => h x (by simp [hx])
theorem namesL_true (F : ByteArray → ByteArray) (fs : List FlagD) : ∀ x ∈ namesL F fs, x.2 = .bool true := by
  intro x hx
  obtain ⟨f, _, rfl⟩ := List.mem_map.1 hx
  rfl
theorem shortsL_true (fs : List FlagD) : ∀ x ∈ shortsL fs, x.2 = .bool true := by
  intro x hx
  obtain ⟨f, _, rfl⟩ := List.mem_map.1 hx
  rfl

theorem letterB_any (c : UInt8) (w : World) (n : Int) (h : n = (c.toNat : Int)) : Calls Try.prog 46 #[.int .u8 n] w fun e w' => e = .returned (.bool (letterF c)) ∧ w' = w := by
  subst h
  exact letter_any c w

set_option maxRecDepth 100000 in
set_option maxHeartbeats 1600000 in
theorem right_any (fv : Value) (fs : List FlagD) (plain unk : Bool) (fold : Int) (w : World) (hv : FlagRows w fv fs) (hl : fs.length ≤ 2147483647) (hsm : ∀ f ∈ fs, f.name.size ≤ 2147483647 ∧ f.short.size ≤ 2147483647) :
    Calls Try.prog 17 #[.agg #[fv, .bool plain, .bool unk, .int .i64 fold]] w fun e w' => Tells (RQ (foldG (bits .and .i64 fold 1 == 1) (bits .and .i64 fold 2 == 2)) fs ∧ 0 ≤ fold ∧ fold ≤ 3) e ∧ Below w.heap.size w w' := by
  obtain ⟨a, cap, rfl⟩ := hv.len
  have HV := Lib.hid hv
  have HSM := Lib.hid hsm
  clear hv hsm
  have hmm := @run_makeMap Try.prog
  obtain ⟨F, hF⟩ : ∃ F, foldG (bits .and .i64 fold 1 == 1) (bits .and .i64 fold 2 == 2) = F := ⟨_, rfl⟩
  rw [hF]
  have HF := Lib.hid hF
  clear hF
  obtain ⟨w1, hw1⟩ : ∃ w1, ((w.alloc (.cells #[.slice a fs.length cap, .bool plain, .bool unk, .int .i64 fold] 24)).alloc (.map #[] 0)).alloc (.map #[] 0) = w1 := ⟨_, rfl⟩
  have hsz1 : w1.heap.size = w.heap.size + 3 := by rw [← hw1]; simp
  have HB1 : Hid (Below w.heap.size w w1) := Lib.hid (by rw [← hw1]; (repeat (first | (with_reducible exact Below.refl _ _) | (with_reducible assumption) | ((with_reducible refine Below.alloc ?_ ?_ _); rotate_left; focus ((try simp only [World.size_alloc, size_setCell, World.heap_drewN]); (try omega); done)) | ((with_reducible refine Below.setCell ?_ ?_ _); rotate_left; focus ((try simp only [World.size_alloc, size_setCell, World.heap_drewN]); (try omega); done)) | (with_reducible refine Below.drewN' ?_) | (with_reducible refine Below.drew ?_))))
  have HX : Hid (w1.heap[w.heap.size]? = some (.cells #[.slice a fs.length cap, .bool plain, .bool unk, .int .i64 fold] 24 (0, 0))) := Lib.hid (by rw [← hw1]; exact heap_past' (by simp; omega) (heap_past' (by simp) (heap_at _ _ _ rfl)))
  have HM1 : Hid (MapIs strKey w1 (w.heap.size + 1) []) := Lib.hid (by
    rw [← hw1]
    have q := MapIs.empty (K := strKey) (w.alloc (.cells #[.slice a fs.length cap, .bool plain, .bool unk, .int .i64 fold] 24))
    rw [World.size_alloc] at q
    exact q.later fun b hb => heap_past _ _ b hb)
  have HM2 : Hid (MapIs strKey w1 (w.heap.size + 1 + 1) []) := Lib.hid (by
    rw [← hw1]
    have q := MapIs.empty (K := strKey) ((w.alloc (.cells #[.slice a fs.length cap, .bool plain, .bool unk, .int .i64 fold] 24)).alloc (.map #[] 0))
    rw [World.size_alloc, World.size_alloc] at q
    exact q)
  have c0 : w1.cell? ⟨w.heap.size, 0, none⟩ = some (.slice a fs.length cap) := by simp [World.cell?, HX.out]
  go_enter Try.func17, Try.ntmps17
  go_wp2_with fail
  clear hw1
  go_loopw [12] (fun vi wr => ∃ k : Nat, k ≤ fs.length ∧ vi = .int .i64 k ∧ Below (w.heap.size + 1) w1 wr ∧ MapIs strKey wr (w.heap.size + 1) (namesL F (fs.take k)) ∧ MapIs strKey wr (w.heap.size + 1 + 1) (shortsL (fs.take k)) ∧ RQ F (fs.take k)) (fun vi _ => fs.length - (intOf vi).toNat)
  case atStart => exact ⟨0, Nat.zero_le _, rfl, Below.refl _ _, HM1.out, HM2.out, by simpa using RQ.nil F⟩
  case round =>
    obtain ⟨k, hk, rfl, hbel, m1, m2, rq⟩ := hrel
    have hXr : wr.heap[w.heap.size]? = some (.cells #[.slice a fs.length cap, .bool plain, .bool unk, .int .i64 fold] 24 (0, 0)) := (hbel.block _ (by omega)).trans HX.out
    clear c0 HM1 HM2
    by_cases hlt : k < fs.length
    · obtain ⟨b, off, ba, bc, rfl, hb, p0, p1, p2, p3, -⟩ := (HV.out.later (fun b hb => (hbel.block b (by omega)).trans (HB1.out.block b hb))).row hlt
      obtain ⟨hz, hz2⟩ := HSM.out fs[k] (List.getElem_mem hlt)
      have hg : fs[k]? = some fs[k] := List.getElem?_eq_getElem hlt
      have htk := take_snoc hg
      generalize fs[k] = f at *
      have HTK := Lib.hid htk
      have RQH := Lib.hid rq
      clear hg htk rq
      go_wp2_with fail
      have hX4 := heap_past' (o := (.cells #[.string f.name, .string f.short, .string f.noopt, .slice ba f.bad.length bc] 62)) (lt_of_block hXr) hXr
      have hF4 : (wr.alloc (.cells #[.string f.name, .string f.short, .string f.noopt, .slice ba f.bad.length bc] 62)).heap[wr.heap.size]? = some (.cells #[.string f.name, .string f.short, .string f.noopt, .slice ba f.bad.length bc] 62 (0, 0)) := heap_at _ _ _ rfl
      have n1 := m1.later (w' := wr.alloc (.cells #[.string f.name, .string f.short, .string f.noopt, .slice ba f.bad.length bc] 62)) fun b hb => heap_past _ _ b hb
      have n2 := m2.later (w' := wr.alloc (.cells #[.string f.name, .string f.short, .string f.noopt, .slice ba f.bad.length bc] 62)) fun b hb => heap_past _ _ b hb
      have hrs : w.heap.size + 3 ≤ wr.heap.size := by have := hbel.size; omega
      have HB4 := Lib.hid (hbel.alloc (o := (.cells #[.string f.name, .string f.short, .string f.noopt, .slice ba f.bad.length bc] 62)) (by omega))
      have hbn : Below (w.heap.size + 1) w1 (wr.alloc (.cells #[.string f.name, .string f.short, .string f.noopt, .slice ba f.bad.length bc] 62)) := hbel.alloc (by omega) _
      have s4 : (wr.alloc (.cells #[.string f.name, .string f.short, .string f.noopt, .slice ba f.bad.length bc] 62)).heap.size = wr.heap.size + 1 := by simp
      generalize wr.alloc (.cells #[.string f.name, .string f.short, .string f.noopt, .slice ba f.bad.length bc] 62) = w4 at *
      have HFAIL : Hid (∀ w', Below w4.heap.size w4 w' → Below w.heap.size w w') := Lib.hid (fun w' h => HB1.out.trans ((hbn.mono (by omega)).trans (h.mono (by omega))))
      obtain ⟨hit, hhit⟩ : ∃ r, mapFind (F f.name) (namesL F (fs.take k)) 0 = r := ⟨_, rfl⟩
      have HHIT := Lib.hid hhit
      have keep : ∀ w', Below w4.heap.size w4 w' → (Below w4.heap.size w4 w' ∧ w'.cell? ⟨w.heap.size, 3, none⟩ = some (.int .i64 fold) ∧ w'.cell? ⟨wr.heap.size, 0, none⟩ = some (.string f.name) ∧ (Instr.lookup 74 (.map (some (w.heap.size + 1))) (.string (foldG (bits .and .i64 fold 1 == 1) (bits .and .i64 fold 2 == 2) f.name)) false).run Try.prog w' = .ok (.bool hit.isSome) w') := fun w' h => by
        have e1 := (h.block _ (lt_of_block hX4)).trans hX4
        have e2 := (h.block _ (lt_of_block hF4)).trans hF4
        have e3 := look_str (n1.later h.block) (F f.name)
        rw [found_true (F := F) (namesL_true F _), hhit, ← HF.out] at e3
        exact ⟨h, by simp [World.cell?, e1], by simp [World.cell?, e2], e3⟩
      have HK := Lib.hid keep
      clear keep hhit m1 m2 hbel hXr p0 p1 p2 p3
      have c00 : w4.cell? ⟨wr.heap.size, 0, none⟩ = some (.string f.name) := (HK.out w4 (Below.refl _ _)).2.2.1
      have hle := firstFrom_le isEq f.name 0
      by_cases q0 : 0 < f.name.size
      case neg =>
        have e1 := toList_yes q0
        go_quiet (fail)
        have HQ := Lib.hid (HFAIL.out _ (Below.drewN' (n := nq) (Below.refl _ _)))
        go_wp2_with fail
        go_ret
        exact ⟨Tells.no rfl, HQ.out⟩
      have e1 := toList_no q0
      have b1 : (0 : Int) < (f.name.size : Int) := by omega
      have LT := Lib.hid (letter_any f.name[0])
      obtain ⟨lt, hlt2⟩ : ∃ b, letterF f.name[0] = b := ⟨_, rfl⟩
      rw [hlt2] at LT
      have HLT := Lib.hid hlt2
      clear hlt2
      have BA := Lib.hid (fun w => eqAt_any f.name w hz)
      obtain ⟨en, hen⟩ : ∃ e, firstFrom isEq f.name 0 = e := ⟨_, rfl⟩
      rw [hen] at BA hle
      have HEN := Lib.hid hen
      clear hen
      cases lt with
      | false =>
        go_quiet (first
          | (go_at_call 46; exact Calls.quiet_of_same (LT.out _)))
        have HQ := Lib.hid (HFAIL.out _ (Below.drewN' (n := nq) (Below.refl _ _)))
        go_wp2_with fail
        go_ret
        exact ⟨Tells.no rfl, HQ.out⟩
      | true =>
        by_cases q1 : en < f.name.size
        · have d1 : decide ((en : Int) < (f.name.size : Int)) = true := by rw [decide_eq_true_eq]; omega
          go_quiet (first
            | (go_at_call 46; exact Calls.quiet_of_same (LT.out _))
            | (go_at_call 47; exact Calls.quiet_of_same (BA.out _)))
          have HQ := Lib.hid (HFAIL.out _ (Below.drewN' (n := nq) (Below.refl _ _)))
          go_wp2_with fail
          go_ret
          exact ⟨Tells.no rfl, HQ.out⟩
        · have d1 : decide ((en : Int) < (f.name.size : Int)) = false := by rw [decide_eq_false_iff_not]; omega
          obtain ⟨ht, hht⟩ : ∃ b, hit.isSome = b := ⟨_, rfl⟩
          rw [hht] at HK
          have HHT := Lib.hid hht
          clear hht
          go_region_held3 (fun w' => Below w4.heap.size w4 w' ∧ w'.cell? ⟨w.heap.size, 3, none⟩ = some (.int .i64 fold) ∧ w'.cell? ⟨wr.heap.size, 0, none⟩ = some (.string f.name) ∧ (Instr.lookup 74 (.map (some (w.heap.size + 1))) (.string (foldG (bits .and .i64 fold 1 == 1) (bits .and .i64 fold 2 == 2) f.name)) false).run Try.prog w' = .ok (.bool ht) w')
            (first
              | (with_reducible exact HK.out _ (Below.refl _ _))
              | (with_reducible exact HK.out _ (Below.refl _ _).drew)
              | (with_reducible exact HK.out _ hbx))
            (first
              | (go_simp; go_at_call 46; with_reducible refine (LT.out _).mono ?_; rintro e wx ⟨rfl, rfl⟩)
              | (go_simp; go_at_call 47; with_reducible refine (BA.out _).mono ?_; rintro e wx ⟨rfl, rfl⟩)
              | (go_simp; go_at_call 48; with_reducible refine (foldS_any fold f.name _ hz).mono ?_; rintro e wx ⟨rfl, hb⟩; (have hbx := Below.after (Below.refl w4.heap.size w4).drew hb)))
          rename_i hHeld
          have hbx2 := hbx
          cases ht with
          | true =>
            have HQ := Lib.hid (HFAIL.out _ hbx2)
            go_wp2_with fail
            go_ret
            exact ⟨Tells.no rfl, HQ.out⟩
          | false =>
            have hno : mapFind (F f.name) (namesL F (fs.take k)) 0 = none := by
              have q1 := HHIT.out
              have q2 := HHT.out
              rw [q1]
              cases hit with
              | none => rfl
              | some y => simp at q2
            have HLET : Hid (∃ h : 0 < f.name.size, letterF f.name[0] = true) := Lib.hid ⟨q0, HLT.out⟩
            have HEQ : Hid (f.name.size ≤ firstFrom isEq f.name 0) := Lib.hid (by rw [HEN.out]; omega)
            have HNO := Lib.hid hno
            clear hno HHIT HHT HK LT BA HLT HEN hle d1 q1 e1 b1 c00
            go_wp2_with fail
            refine (foldS_any fold f.name _ hz).mono ?_
            rintro e w6 ⟨rfl, hb6⟩
            have hb6 := Below.after hbx2 hb6
            obtain ⟨w7, hmu, m17, hb7, hs7, hB7⟩ := put_str (B := w.heap.size + 1) (n1.later hb6.block) (F f.name) (Nat.le_refl _) HNO.out
            rw [← HF.out] at hmu
            have hX7 := (hb7 _ (by omega)).trans ((hb6.block _ (lt_of_block hX4)).trans hX4)
            have hF7 := (hb7 _ (by omega)).trans ((hb6.block _ (lt_of_block hF4)).trans hF4)
            have c1 : w7.cell? ⟨wr.heap.size, 1, none⟩ = some (.string f.short) := by simp [World.cell?, hF7]
            have hs6 : w4.heap.size ≤ w6.heap.size := hb6.size
            have m27 : MapIs strKey w7 (w.heap.size + 1 + 1) (shortsL (fs.take k)) := (n2.later hb6.block).at (hb7 _ (by omega))
            have HB7 : Hid (Below (w.heap.size + 1) w1 w7) := Lib.hid (hbn.trans ((hb6.mono (by omega)).trans hB7))
            have HW7 : Hid (Below w.heap.size w w7) := Lib.hid (HB1.out.trans (HB7.out.mono (by omega)))
            have s7 : wr.heap.size + 1 ≤ w7.heap.size := by omega
            clear hHeld hbx hbx2 hb6 hB7 hb7 hs7 hs6 n1 n2 hX4 hF4 hbn HB4 HFAIL
            by_cases z0 : 0 < f.short.size
            case neg =>
              have z1 := toList_yes z0
              have RQ1 : Hid (RQ F (fs.take (k + 1))) := Lib.hid (by rw [HTK.out]; exact RQH.out.snoc f HLET.out HEQ.out HNO.out (.inl (by omega)))
              have M1 : Hid (MapIs strKey w7 (w.heap.size + 1) (namesL F (fs.take (k + 1)))) := Lib.hid (by rw [HTK.out, namesL_snoc]; exact m17)
              have M2 : Hid (MapIs strKey w7 (w.heap.size + 1 + 1) (shortsL (fs.take (k + 1)))) := Lib.hid (by rw [HTK.out, shortsL_no _ _ z0]; exact m27)
              clear m17 m27
              go_wp2_with fail
              go_roundw
              case rel => exact ⟨k + 1, by omega, by go_num, HB7.out, M1.out, M2.out, RQ1.out⟩
              case measure => simp [intOf]; omega
            have z1 := toList_no z0
            by_cases z2 : f.short.size = 1
            case neg =>
              have z3 : ((f.short.size : Int) != 1) = true := by rw [bne_iff_ne]; omega
              clear m17 m27
              go_wp2_with fail
              go_ret
              exact ⟨Tells.no rfl, HW7.out⟩
            have z3 : ((f.short.size : Int) != 1) = false := by rw [z2]; rfl
            have b1 : (0 : Int) < (f.short.size : Int) := by omega
            have LT := Lib.hid (letter_any f.short[0])
            obtain ⟨lt, hlt2⟩ : ∃ b, letterF f.short[0] = b := ⟨_, rfl⟩
            rw [hlt2] at LT
            have HLT := Lib.hid hlt2
            have HZ2 := Lib.hid z2
            clear hlt2 z2
            cases lt with
            | false =>
              clear m17 m27
              go_wp2_with fail
              refine (LT.out _).mono ?_
              rintro e w8 ⟨rfl, rfl⟩
              go_wp2_with fail
              go_ret
              exact ⟨Tells.no rfl, HW7.out⟩
            | true =>
              have lk := look_str m27 f.short
              rw [found_true (F := F) (shortsL_true _)] at lk
              obtain ⟨hit, hhit⟩ : ∃ r, mapFind f.short (shortsL (fs.take k)) 0 = r := ⟨_, rfl⟩
              rw [hhit] at lk
              cases hit with
              | some y =>
                simp only [Option.isSome_some] at lk
                clear m17 m27 hhit
                go_wp2_with fail
                refine (LT.out _).mono ?_
                rintro e w8 ⟨rfl, rfl⟩
                go_wp2_with fail
                go_ret
                exact ⟨Tells.no rfl, HW7.out⟩
              | none =>
                simp only [Option.isSome_none] at lk
                obtain ⟨w8, hmu2, m28, hb8, hs8, hB8⟩ := put_str (B := w.heap.size + 1) m27 f.short (by omega) hhit
                have RQ1 : Hid (RQ F (fs.take (k + 1))) := Lib.hid (by rw [HTK.out]; exact RQH.out.snoc f HLET.out HEQ.out HNO.out (.inr ⟨⟨HZ2.out, HLT.out⟩, hhit⟩))
                have M1 : Hid (MapIs strKey w8 (w.heap.size + 1) (namesL F (fs.take (k + 1)))) := Lib.hid (by rw [HTK.out, namesL_snoc]; exact m17.at (hb8 _ (by omega)))
                have M2 : Hid (MapIs strKey w8 (w.heap.size + 1 + 1) (shortsL (fs.take (k + 1)))) := Lib.hid (by rw [HTK.out, shortsL_yes _ _ z0]; exact m28)
                have HB8 : Hid (Below (w.heap.size + 1) w1 w8) := Lib.hid (HB7.out.trans hB8)
                clear m17 m27 m28 hb8 hB8 hhit
                go_wp2_with fail
                refine (LT.out _).mono ?_
                rintro e w9 ⟨rfl, rfl⟩
                go_wp2_with fail
                go_roundw
                case rel => exact ⟨k + 1, by omega, by go_num, HB8.out, M1.out, M2.out, RQ1.out⟩
                case measure => simp [intOf]; omega
    · have e : fs.take k = fs := List.take_of_length_le (by omega)
      rw [e] at rq
      have RQH := Lib.hid rq
      have c3 : wr.cell? ⟨w.heap.size, 3, none⟩ = some (.int .i64 fold) := by simp [World.cell?, hXr]
      have HB2 : Hid (Below w.heap.size w wr) := Lib.hid (HB1.out.trans (hbel.mono (by omega)))
      clear m1 m2 rq hbel e
      by_cases h0 : (0 : Int) ≤ fold
      · have d0 : decide ((0 : Int) ≤ fold) = true := decide_eq_true h0
        by_cases h3 : fold ≤ (3 : Int)
        · have d3 : decide (fold ≤ (3 : Int)) = true := decide_eq_true h3
          go_wp2_with fail
          go_ret
          exact ⟨Tells.yes rfl ⟨RQH.out, h0, h3⟩, HB2.out⟩
        · have d3 : decide (fold ≤ (3 : Int)) = false := decide_eq_false h3
          go_wp2_with fail
          go_ret
          exact ⟨Tells.no rfl, HB2.out⟩
      · have d0 : decide ((0 : Int) ≤ fold) = false := decide_eq_false h0
        go_wp2_with fail
        go_ret
        exact ⟨Tells.no rfl, HB2.out⟩
end Go.Proofs.Ytcpjdgbnfjdakaa
