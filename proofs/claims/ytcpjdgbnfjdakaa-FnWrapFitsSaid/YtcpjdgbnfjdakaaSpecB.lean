/- The walks of the reference's searches: Strip, Lettered, Named. -/
import Derived.Test.YtcpjdgbnfjdakaaSpecA
import Derived.Test.YtcpjdgbnfjdakaaSpecF
import Derived.Test.YtcpjdgbnfjdakaaMadeB
namespace Go.Proofs.Ytcpjdgbnfjdakaa
open Go.RowKit
set_option linter.unusedVariables false
set_option linter.unusedSimpArgs false

theorem Below.after {a b c : World} (h : Below a.heap.size a b) (k : Below b.heap.size b c) : Below a.heap.size a c := h.trans (k.mono h.size)

theorem FlagRows.later {w w' : World} {v : Value} {fs : List FlagD} (h : FlagRows w v fs) (hk : ∀ b, b < w.heap.size → w'.heap[b]? = w.heap[b]?) : FlagRows w' v fs := by
  obtain ⟨a, cap, rfl, h⟩ := h
  refine ⟨a, cap, rfl, ?_⟩
  rcases h with h | ⟨b, off, cs, ty, fz, e, hb, hc⟩
  · exact .inl h
  · refine .inr ⟨b, off, cs, ty, fz, e, (hk b (lt_of_block hb)).trans hb, fun i f hf => ?_⟩
    obtain ⟨bv, h0, h1, h2, h3, h4⟩ := hc i f hf
    exact ⟨bv, h0, h1, h2, h3, h4.later hk⟩

/-- A row of the flags' definitions. -/
theorem FlagRows.row {w : World} {a : Option Addr} {n cap : Nat} {fs : List FlagD} (h : FlagRows w (.slice a n cap) fs) {k : Nat} (hlt : k < fs.length) : ∃ b off ba bc, a = some ⟨b, off, none⟩ ∧ b < w.heap.size ∧
    w.cell? ⟨b, off + k * 4, none⟩ = some (.string fs[k].name) ∧ w.cell? ⟨b, off + k * 4 + 1, none⟩ = some (.string fs[k].short) ∧ w.cell? ⟨b, off + k * 4 + 2, none⟩ = some (.string fs[k].noopt) ∧
    w.cell? ⟨b, off + k * 4 + 3, none⟩ = some (.slice ba fs[k].bad.length bc) ∧ Strs w (.slice ba fs[k].bad.length bc) fs[k].bad := by
  obtain ⟨a', cap', e, h⟩ := h
  cases e
  obtain ⟨b, off, cs, ty, fz, rfl, hbw, hfs⟩ := h.resolve_left (fun e => by rw [e] at hlt; simp at hlt)
  obtain ⟨bv, q0, q1, q2, q3, hbv⟩ := hfs k fs[k] (List.getElem?_eq_getElem hlt)
  obtain ⟨ba, bc, rfl⟩ := hbv.len
  exact ⟨b, off, ba, bc, rfl, lt_of_block hbw, by simp [World.cell?, hbw, q0], by simp [World.cell?, hbw, q1], by simp [World.cell?, hbw, q2], by simp [World.cell?, hbw, q3], hbv⟩

theorem FlagRows.len {w : World} {v : Value} {fs : List FlagD} (h : FlagRows w v fs) : ∃ a cap, v = .slice a fs.length cap := by
  obtain ⟨a, cap, e, _⟩ := h
  exact ⟨a, cap, e⟩

/-- A place, as a number; -1: none. -/
def placeI : Option Nat → Int
  | none => -1
  | some i => i

theorem isEmpty_no {s : ByteArray} (h : 0 < s.size) : s.toList.isEmpty = false := by
  have := length_toList s
  cases e : s.toList with
  | nil => rw [e] at this; simp at this; omega
  | cons a l => rfl
theorem isEmpty_yes {s : ByteArray} (h : ¬ 0 < s.size) : s.toList.isEmpty = true := by
  rw [toList_of_empty (by omega)]; rfl

theorem stripS_any (v : Value) (l : List ByteArray) (w0 w : World) (hk : ∀ b, b < w0.heap.size → w.heap[b]? = w0.heap[b]?) (hv : Texts w0 v l) (hl : l.length ≤ 2147483647) (hs : ∀ s ∈ l, s.size ≤ 2147483647) :
    Calls Try.prog 64 #[v] w fun e w' => ∃ v', e = .returned v' ∧ Texts w0 v' (stripF l) ∧ w' = w := by
  obtain ⟨a, cap, rfl, hcap⟩ := hv.len
  cases l with
  | nil =>
    go_enter Try.func64, Try.ntmps64
    go_wp2_with fail
    go_ret
    exact ⟨_, rfl, hv, rfl⟩
  | cons x l =>
    obtain ⟨b, off, A, rfl, hn, hc1, hc0, hA, ht⟩ := hv.tail
    have hc : w.cell? ⟨b, off, none⟩ = some (.string x) := (World.cell?_of_block (hk b (World.block_lt_of_cell? w0 _ hc0))).trans hc0
    clear hc0 hk
    have HT := Lib.hid ht
    have HV := Lib.hid hv
    have hx := hs x (by simp)
    clear hs hn ht hv
    simp only [List.length_cons] at hl
    have fin : ∀ (hq : (byteO x 0 == some 45) = false) , stripF (x :: l) = l := fun hq => by rw [stripF, hq]; rfl
    by_cases h0 : 0 < x.size
    · have hnz : (x.toList.isEmpty) = false := isEmpty_no h0
      cases hq : byteO x 0 == some 45 with
      | true =>
        have he := (byteO_dash x h0).symm.trans hq
        have HE : Hid (stripF (x :: l) = x :: l) := Lib.hid (by rw [stripF, hq]; rfl)
        clear hq fin
        go_enter Try.func64, Try.ntmps64
        go_wp2_with fail
        go_ret
        exact ⟨_, rfl, by rw [HE.out]; exact HV.out, rfl⟩
      | false =>
        have he := (byteO_dash x h0).symm.trans hq
        have HE := Lib.hid (fin hq)
        clear hq fin
        by_cases h1 : 0 < l.length
        · go_enter Try.func64, Try.ntmps64
          go_wp2_with fail
          go_ret
          exact ⟨_, rfl, by rw [HE.out]; exact HT.out, rfl⟩
        · have hl0 : l = [] := List.length_eq_zero_iff.1 (by omega)
          subst hl0
          go_enter Try.func64, Try.ntmps64
          go_wp2_with fail
          go_ret
          exact ⟨_, rfl, by rw [HE.out]; exact HT.out, rfl⟩
    · have hnz : (x.toList.isEmpty) = true := isEmpty_yes h0
      have HE := Lib.hid (fin (by rw [byteO_none (by omega)]; rfl))
      clear fin
      by_cases h1 : 0 < l.length
      · go_enter Try.func64, Try.ntmps64
        go_wp2_with fail
        go_ret
        exact ⟨_, rfl, by rw [HE.out]; exact HT.out, rfl⟩
      · have hl0 : l = [] := List.length_eq_zero_iff.1 (by omega)
        subst hl0
        go_enter Try.func64, Try.ntmps64
        go_wp2_with fail
        go_ret
        exact ⟨_, rfl, by rw [HE.out]; exact HT.out, rfl⟩

theorem findAt_hit {α : Type} (p : α → Bool) (l : List α) (k : Nat) (h : k < l.length) (hp : p l[k] = true) : findAt p (l.drop k) k = some k := by
  rw [List.drop_eq_getElem_cons h, findAt, hp, if_pos rfl]
theorem findAt_miss {α : Type} (p : α → Bool) (l : List α) (k : Nat) (h : k < l.length) (hp : p l[k] = false) : findAt p (l.drop k) k = findAt p (l.drop (k + 1)) (k + 1) := by
  rw [List.drop_eq_getElem_cons h, findAt, hp, if_neg (by simp)]
theorem findAt_out {α : Type} (p : α → Bool) (l : List α) (k : Nat) (h : l.length ≤ k) : findAt p (l.drop k) k = none := by
  rw [List.drop_eq_nil_of_le h]; rfl

theorem lettered_any (fv : Value) (fs : List FlagD) (plain unk : Bool) (fold : Int) (s : SetD) (hs : s.flags = fs) (c : UInt8) (w : World) (hv : FlagRows w fv fs) (hl : fs.length ≤ 2147483647) (hsh : ∀ f ∈ fs, f.short.size ≤ 2147483647) :
    Calls Try.prog 37 #[.agg #[fv, .bool plain, .bool unk, .int .i64 fold], .int .u8 c.toNat] w fun e w' => e = .returned (.int .i64 (placeI (s.lettered c))) ∧ Below w.heap.size w w' := by
  obtain ⟨a, cap, rfl⟩ := hv.len
  have hP : s.lettered c = findAt (fun f : FlagD => byteO f.short 0 == some c) (fs.drop 0) 0 := by rw [SetD.lettered, hs]; rfl
  rw [hP]
  have HV := Lib.hid hv
  clear hv hP hs
  go_enter Try.func37, Try.ntmps37
  go_wp2_with fail
  go_loopw [10] (fun vi wr => Below w.heap.size w wr ∧ ∃ k : Nat, k ≤ fs.length ∧ vi = .int .i64 k ∧ findAt (fun f : FlagD => byteO f.short 0 == some c) (fs.drop 0) 0 = findAt (fun f : FlagD => byteO f.short 0 == some c) (fs.drop k) k) (fun vi _ => fs.length - (intOf vi).toNat)
  case atStart => exact ⟨by (repeat (first | (with_reducible exact Below.refl _ _) | (with_reducible assumption) | ((with_reducible refine Below.alloc ?_ ?_ _); rotate_left; focus ((try simp only [World.size_alloc, size_setCell, World.heap_drewN]); (try omega); done)) | ((with_reducible refine Below.setCell ?_ ?_ _); rotate_left; focus ((try simp only [World.size_alloc, size_setCell, World.heap_drewN]); (try omega); done)) | (with_reducible refine Below.drewN' ?_) | (with_reducible refine Below.drew ?_))), 0, Nat.zero_le _, rfl, rfl⟩
  case round =>
    obtain ⟨hbel, k, hk, rfl, hh⟩ := hrel
    have HH := Lib.hid hh
    clear hh
    by_cases hlt : k < fs.length
    · obtain ⟨b, off, ba, bc, rfl, hb, p0, p1, p2, p3, -⟩ := (HV.out.later hbel.block).row hlt
      have hz := hsh fs[k] (List.getElem_mem hlt)
      have HYes := Lib.hid (findAt_hit (fun f : FlagD => byteO f.short 0 == some c) fs k hlt)
      have HNo := Lib.hid (findAt_miss (fun f : FlagD => byteO f.short 0 == some c) fs k hlt)
      have HB := Lib.hid hbel
      clear hbel
      generalize fs[k] = f at *
      by_cases h0 : 0 < f.short.size
      · have hnz : (f.short.toList.isEmpty) = false := isEmpty_no h0
        cases hq : byteO f.short 0 == some c with
        | true =>
          have HE := Lib.hid (HYes.out hq)
          have he : ((f.short[0].toNat : Int) == (c.toNat : Int)) = true := by
            rw [byteO_some h0] at hq; simp at hq; rw [hq]; simp
          clear hq HNo HYes
          go_wp2_with fail
          go_ret
          exact ⟨by rw [HH.out, HE.out]; rfl, HB.out.alloc HB.out.size _⟩
        | false =>
          have HE := Lib.hid (HNo.out hq)
          have he : ((f.short[0].toNat : Int) == (c.toNat : Int)) = false := by
            rw [byteO_some h0] at hq
            rw [beq_eq_false_iff_ne] at hq ⊢
            intro e
            exact hq (congrArg some (UInt8.toNat_inj.mp (by omega)))
          clear hq HNo HYes
          go_wp2_with fail
          go_roundw
          case rel => exact ⟨HB.out.alloc HB.out.size _, k + 1, by omega, by go_num, by rw [HH.out, HE.out]⟩
          case measure => simp [intOf]; omega
      · have hnz : (f.short.toList.isEmpty) = true := isEmpty_yes h0
        have HE := Lib.hid (HNo.out (by rw [byteO_none (by omega)]; rfl))
        clear HNo HYes
        go_wp2_with fail
        go_roundw
        case rel => exact ⟨HB.out.alloc HB.out.size _, k + 1, by omega, by go_num, by rw [HH.out, HE.out]⟩
        case measure => simp [intOf]; omega
    · have HE := Lib.hid (findAt_out (fun f : FlagD => byteO f.short 0 == some c) fs k (by omega))
      go_wp2_with fail
      go_ret
      exact ⟨by rw [HH.out, HE.out]; rfl, hbel⟩

set_option maxRecDepth 100000 in
set_option maxHeartbeats 600000 in
theorem named_any (fv : Value) (fs : List FlagD) (plain unk : Bool) (fold : Int) (s : SetD) (hs : s.flags = fs) (hlo : s.lo = (bits .and .i64 fold 1 == 1)) (hda : s.da = (bits .and .i64 fold 2 == 2)) (name : ByteArray) (hn : name.size ≤ 2147483647) (w : World) (hv : FlagRows w fv fs) (hl : fs.length ≤ 2147483647) (hsh : ∀ f ∈ fs, f.name.size ≤ 2147483647) :
    Calls Try.prog 36 #[.agg #[fv, .bool plain, .bool unk, .int .i64 fold], .string name] w fun e w' => e = .returned (.int .i64 (placeI (s.named name))) ∧ Below w.heap.size w w' := by
  obtain ⟨a, cap, rfl⟩ := hv.len
  have hP : s.named name = findAt (fun f : FlagD => eqB (s.fold f.name) (s.fold name)) (fs.drop 0) 0 := by rw [SetD.named, hs]; rfl
  rw [hP]
  have hfold : ∀ n, s.fold n = foldG (bits .and .i64 fold 1 == 1) (bits .and .i64 fold 2 == 2) n := fun n => by rw [SetD.fold, hlo, hda]
  generalize hF : s.fold = F at *
  have HFold := Lib.hid hfold
  have HV := Lib.hid hv
  clear hv hP hs hF hlo hda hfold
  have lb : w.heap.size < (w.alloc (.cells #[.slice a fs.length cap, .bool plain, .bool unk, .int .i64 fold] 24)).heap.size := by rw [World.size_alloc]; omega
  have hX : (w.alloc (.cells #[.slice a fs.length cap, .bool plain, .bool unk, .int .i64 fold] 24)).heap[w.heap.size]? = some (.cells #[.slice a fs.length cap, .bool plain, .bool unk, .int .i64 fold] 24 (0, 0)) := heap_at _ _ _ rfl
  have HW := Lib.hid ((Below.refl _ w).alloc (Nat.le_refl _) (.cells #[.slice a fs.length cap, .bool plain, .bool unk, .int .i64 fold] 24))
  go_enter Try.func36, Try.ntmps36
  go_wp2_with fail
  generalize w.alloc (.cells #[.slice a fs.length cap, .bool plain, .bool unk, .int .i64 fold] 24) = w1 at *
  go_loopw [10] (fun vi wr => Below w1.heap.size w1 wr ∧ ∃ k : Nat, k ≤ fs.length ∧ vi = .int .i64 k ∧ findAt (fun f : FlagD => eqB (F f.name) (F name)) (fs.drop 0) 0 = findAt (fun f : FlagD => eqB (F f.name) (F name)) (fs.drop k) k) (fun vi _ => fs.length - (intOf vi).toNat)
  case atStart => exact ⟨Below.refl _ _, 0, Nat.zero_le _, rfl, rfl⟩
  case round =>
    obtain ⟨hbel, k, hk, rfl, hh⟩ := hrel
    have HH := Lib.hid hh
    clear hh
    by_cases hlt : k < fs.length
    · obtain ⟨b, off, ba, bc, rfl, hb, p0, p1, p2, p3, -⟩ := ((HV.out.later HW.out.block).later hbel.block).row hlt
      have hz := hsh fs[k] (List.getElem_mem hlt)
      have HYes := Lib.hid (findAt_hit (fun f : FlagD => eqB (F f.name) (F name)) fs k hlt)
      have HNo := Lib.hid (findAt_miss (fun f : FlagD => eqB (F f.name) (F name)) fs k hlt)
      generalize fs[k] = f at *
      have hX2 := (hbel.block _ lb).trans hX
      have HB := Lib.hid hbel
      clear hbel
      go_wp2_with fail
      have HBA := Lib.hid ((Below.refl _ wr).alloc (Nat.le_refl _) (.cells #[.string f.name, .string f.short, .string f.noopt, .slice ba f.bad.length bc] 62))
      have hX3 : (wr.alloc (.cells #[.string f.name, .string f.short, .string f.noopt, .slice ba f.bad.length bc] 62)).heap[wr.heap.size]? = some (.cells #[.string f.name, .string f.short, .string f.noopt, .slice ba f.bad.length bc] 62 (0, 0)) := heap_at _ _ _ rfl
      have hX4 := heap_past' (o := (.cells #[.string f.name, .string f.short, .string f.noopt, .slice ba f.bad.length bc] 62)) (lt_of_block hX2) hX2
      generalize wr.alloc (.cells #[.string f.name, .string f.short, .string f.noopt, .slice ba f.bad.length bc] 62) = w4 at *
      have keep : ∀ w', Below w4.heap.size w4 w' → (Below w4.heap.size w4 w' ∧ w'.cell? ⟨w.heap.size, 3, none⟩ = some (.int .i64 fold) ∧ w'.cell? ⟨wr.heap.size, 0, none⟩ = some (.string f.name)) := fun w' h => by
        have e1 := (h.block _ (lt_of_block hX4)).trans hX4
        have e2 := (h.block _ (lt_of_block hX3)).trans hX3
        exact ⟨h, by simp [World.cell?, e1], by simp [World.cell?, e2]⟩
      have HK := Lib.hid keep
      clear keep
      go_region_held3 (fun w' => Below w4.heap.size w4 w' ∧ w'.cell? ⟨w.heap.size, 3, none⟩ = some (.int .i64 fold) ∧ w'.cell? ⟨wr.heap.size, 0, none⟩ = some (.string f.name))
        (first
          | (with_reducible exact HK.out _ (Below.refl _ _))
          | (with_reducible exact HK.out _ (Below.refl _ _).drew)
          | (with_reducible exact HK.out _ hbz)
          | (with_reducible exact HK.out _ hbx)
          | (with_reducible exact HK.out _ hby))
        (first
          | (go_simp; go_at_call 48; with_reducible refine (foldS_any fold f.name _ hz).mono ?_; rintro e wx ⟨rfl, hb⟩; (first | (have hbz := Below.after hby hb) | (have hbx := Below.after (Below.refl w4.heap.size w4).drew hb)))
          | (go_simp; go_at_call 48; with_reducible refine (foldS_any fold name _ hn).mono ?_; rintro e wx ⟨rfl, hb⟩; (first | (have hbz := Below.after hbx hb) | (have hby := Below.after (Below.refl w4.heap.size w4).drew hb))))
      all_goals
        have HZ := Lib.hid (Below.after (Below.after HB.out HBA.out) hbz)
        clear hbz
        cases he : ((foldG (bits .and .i64 fold 1 == 1) (bits .and .i64 fold 2 == 2) f.name).toList == (foldG (bits .and .i64 fold 1 == 1) (bits .and .i64 fold 2 == 2) name).toList) with
        | true =>
          have he' : eqB (F f.name) (F name) = true := by rw [HFold.out, HFold.out]; exact he
          have HE := Lib.hid (HYes.out he')
          clear he'
          go_wp2_with fail
          go_ret
          exact ⟨by rw [HH.out, HE.out]; rfl, Below.after HW.out HZ.out⟩
        | false =>
          have he' : eqB (F f.name) (F name) = false := by rw [HFold.out, HFold.out]; exact he
          have HE := Lib.hid (HNo.out he')
          clear he'
          go_wp2_with fail
          go_roundw
          case rel => exact ⟨HZ.out, k + 1, by omega, by go_num, by rw [HH.out, HE.out]⟩
          case measure => simp [intOf]; omega
    · have HE := Lib.hid (findAt_out (fun f : FlagD => eqB (F f.name) (F name)) fs k (by omega))
      go_wp2_with fail
      go_ret
      exact ⟨by rw [HH.out, HE.out]; rfl, Below.after HW.out hbel⟩
end Go.Proofs.Ytcpjdgbnfjdakaa
