/- impl.Names, walked: another set is added, names are looked up. (Printed by gen_jnames.py.) -/
import Derived.Test.YtmmkebdaijmpiaaGreatJNames1
namespace Go.Proofs.YtmmkebdaijmpiaaGreat
open Go.RowKit
set_option linter.unusedVariables false
set_option linter.unusedSimpArgs false

theorem infoNote : (Tryz.prog.info? 32).map (fun i => (i.zero, i.size, i.bytes)) = some (some (.agg #[.bool false, .bool false, .bool false, .bool false, .string ⟨#[]⟩, .string ⟨#[]⟩, .string ⟨#[]⟩, .int .i64 0, .slice none 0 0]), 9, 88) := by kernel_rfl
def tellOf (J : List DefD) (nm : ByteArray) : DefD := J[(placeD J nm).getD 0]!
def notesOf (J : List DefD) (names : List ByteArray) : List (Array Value) := note0 :: names.map fun nm => tellD (tellOf J nm)
theorem TurnsAt.later {w w' : World} {g n : Nat} {dv : Value} {names : List ByteArray} (h : TurnsAt w g n dv names) (hb : Below w.heap.size w w') : TurnsAt w' g n dv names := by
  have k : ∀ {o : Nat} {v : Value}, w.cell? ⟨g, o, none⟩ = some v → w'.cell? ⟨g, o, none⟩ = some v := fun {o v} hc => cell_keep hc (hb.block _ (lt_of_cell hc))
  exact ⟨h.len, fun j v hv => k (h.one j v hv), fun i hi j v hv => k (h.more i hi j v hv)⟩
/-- A row of notes grows: the set and the box stay. -/
theorem note_grown {w0 w5 w6 : World} {F X k : Nat} {l : List DefD} {ov : Value} {xs : List Value} {o : Obj} (hs : SetE w0 F l w5) (hX : w5.heap[X]? = some (.cells #[ptr F] 65 (0, 0))) (hr : w5.ownsRow w0.heap.size 32 9 ov k xs) (hg : (w5.alloc o).grownBy w6 ov.ownBlock) :
    SetE w0 F l w6 ∧ w6.heap[X]? = some (.cells #[ptr F] 65 (0, 0)) := by
  have hb := (Below.refl w5.heap.size w5).alloc (Nat.le_refl _) o
  have h1 := hs.later hb
  have hr1 := row_grow hr hb
  have hX1 := heap_past' (o := o) (lt_of_block hX) hX
  have kk : ∀ (b : Nat) (o' : Obj), (w5.alloc o).heap[b]? = some o' → (∀ c z, o' ≠ Obj.cells c 32 z) → w6.heap[b]? = some o' := fun b o' hb' hne => (hg.block b (lt_of_block hb') (fun e => by
    obtain ⟨_, c', hc⟩ := ownsRow_cells hr1 e.symm
    rw [hc] at hb'
    cases hb'
    exact hne _ _ rfl)).trans hb'
  exact ⟨h1.keepN kk (h1.bel.trans (grownBy_below hg (fun b hb => (ownsRow_cells hr1 hb).1) h1.bel.size)), kk _ _ hX1 (fun c z e => by cases e)⟩
theorem row_keepT {w w' : World} {B n : Nat} {v : Value} {xs : List Value} (h : w.ownsRow B 32 9 v n xs) (hk : KeepT w w') : w'.ownsRow B 32 9 v n xs := by
  refine ⟨h.1, ?_⟩
  rcases h.2 with h0 | ⟨b, cap, cur, e, hb', hh, hr⟩
  · exact .inl h0
  · exact .inr ⟨b, cap, cur, e, hb', hk.cells _ _ _ _ hh (by decide) (by decide), hr⟩

set_option maxRecDepth 100000 in
set_option maxHeartbeats 3200000 in
theorem names_any (w : World) (l m : List DefD) (names : List ByteArray) (dv1 dv2 : Value) {g n cap : Nat} (hd1 : Defs w dv1 l) (hd2 : Defs w dv2 m) (ht : TurnsAt w g n dv2 names) (hok : AllOk l) (ok2 : AllOk m) (hj : JoinOk l (sortD m)) (hl : l.length ≤ 16) (hm : m.length ≤ 16) (hx : ∀ x ∈ l, (x.k = 0 ∨ x.k = 1) ∧ x.sh.size ≤ 60) (hx2 : ∀ x ∈ m, (x.k = 0 ∨ x.k = 1) ∧ x.sh.size ≤ 60)
    (hfind : ∀ nm ∈ names, ∃ i, placeD (joinD l (sortD m)) nm = some i) (hn : names.length ≤ 40) :
    Calls Tryz.prog 14 #[.slice none 0 0, dv1, .slice (some ⟨g, 0, none⟩) n cap] w fun e w' => ∃ rv, e = .returned (.tuple #[rv, .bool true]) ∧ Below w.heap.size w w' ∧ w'.ownsRow w.heap.size 32 9 rv (names.length + 1) (flatN (notesOf (joinD l (sortD m)) names)) := by
  obtain ⟨i0, hi0, hz0, hz1, hz2⟩ := info_parts infoNote
  have hmf : ∀ (fn : Fn) (first cap : Array Value) (w : World), (Instr.makeFunc fn first cap).run Tryz.prog w = .ok (.func fn first cap) w := fun _ _ _ _ => rfl
  obtain ⟨a1, cap1, rfl, -⟩ := hd1.len
  obtain ⟨w3, hw3⟩ : ∃ w3, w3 = ((w.alloc (.cells #[.slice none 0 0] 35)).alloc (.cells #[.slice a1 l.length cap1] 22)).alloc (.cells #[.pointer none] 65) := ⟨_, rfl⟩
  have hb3 : Below w.heap.size w w3 := by
    subst hw3
    exact (((Below.refl _ _).alloc (Nat.le_refl _) _).alloc (by simp only [World.size_alloc]; omega) _).alloc (by simp only [World.size_alloc]; omega) _
  have hR : w3.heap[w.heap.size]? = some (.cells #[.slice none 0 0] 35 (0, 0)) := by
    subst hw3
    exact heap_past' (by simp only [World.size_alloc]; omega) (heap_past' (by simp only [World.size_alloc]; omega) (heap_at _ _ _ rfl))
  have hD : w3.heap[w.heap.size + 1]? = some (.cells #[.slice a1 l.length cap1] 22 (0, 0)) := by
    subst hw3
    exact heap_past' (by simp only [World.size_alloc]; omega) (heap_at _ _ _ (by simp only [World.size_alloc]))
  have hX : w3.heap[w.heap.size + 1 + 1]? = some (.cells #[.pointer none] 65 (0, 0)) := by
    subst hw3
    exact heap_at _ _ _ (by simp only [World.size_alloc])
  have lX : w.heap.size + 1 + 1 < w3.heap.size := lt_of_block hX
  have hba := (Below.refl w3.heap.size w3).alloc (Nat.le_refl _) (.cells #[.bool false] 4)
  have hXa := heap_past' (o := .cells #[.bool false] 4) (lt_of_block hX) hX
  have C : Hid (Calls Tryz.prog 24 #[.func (.func 31) #[] #[ptr w.heap.size, ptr (w.heap.size + 1), ptr (w.heap.size + 1 + 1)]] w3 fun e w' => e = .returned (.bool false) ∧ ∃ F, SetE ((w3.alloc (.cells #[.bool false] 4)).setCell ⟨w.heap.size + 1 + 1, 0, none⟩ (ptr F)) F l w' ∧ w'.heap[w.heap.size + 1 + 1]? = some (.cells #[ptr F] 65 (0, 0))) := Lib.hid (by
    refine guarded_ok 31 _ w3 (fun w' => ∃ F, SetE ((w3.alloc (.cells #[.bool false] 4)).setCell ⟨w.heap.size + 1 + 1, 0, none⟩ (ptr F)) F l w' ∧ w'.heap[w.heap.size + 1 + 1]? = some (.cells #[ptr F] 65 (0, 0))) _ rfl (fun _ => by unfold ptr; go_simp) ?_ ?_
    · exact names1_any _ l _ ((hd1.later hb3).later hba) hok hl hx (heap_past' (lt_of_block hR) hR) (heap_past' (lt_of_block hD) hD) hXa
    · rintro w' ⟨F, h1, h2⟩
      have h3 : ((w3.alloc (.cells #[.bool false] 4)).setCell ⟨w.heap.size + 1 + 1, 0, none⟩ (ptr F)).heap[w3.heap.size]? = some (.cells #[.bool false] 4 (0, 0)) := heap_ne' (by show w3.heap.size ≠ w.heap.size + 1 + 1; omega) (heap_at _ _ _ rfl)
      exact (h1.bel.block _ (lt_of_block h3)).trans h3)
  have HW0 := Lib.hid (fun (u : Value) => show Below w.heap.size w ((w3.alloc (.cells #[.bool false] 4)).setCell ⟨w.heap.size + 1 + 1, 0, none⟩ u) from (hb3.trans (hba.mono hb3.size)).setCell (by show w.heap.size ≤ w.heap.size + 1 + 1; omega) _)
  have HT := Lib.hid (fun W (hb : Below w.heap.size w W) => ht.later hb)
  have HD2 := Lib.hid (fun W (hb : Below w.heap.size w W) => hd2.later hb)
  have HNL := Lib.hid ht.len
  have HFI := Lib.hid hfind
  have HTA := Lib.hid (fun (w0 W : World) F (h : SetE w0 F l W) (hd : Defs W dv2 m) => turnedAdd_any h hd hok ok2 hj (by omega) hm hx2)
  obtain ⟨a2, cap2, rfl, -⟩ := hd2.len
  clear hd1 hd2 ht hok ok2 hj hx hx2 hfind hb3 hR hD hX hba hXa lX
  generalize hJ : joinD l (sortD m) = J at *
  have hnn : n ≤ 41 := by have := HNL.out; omega
  clear hJ
  unfold ptr at C
  go_enter Tryz.func14, Tryz.ntmps14
  go_wp2_with fail
  rw [← hw3]
  refine C.out.mono ?_
  rintro e w4 ⟨rfl, F, hs4, hx4⟩
  obtain ⟨w0, hw0⟩ : ∃ w0, w0 = (w3.alloc (.cells #[.bool false] 4)).setCell ⟨w.heap.size + 1 + 1, 0, none⟩ (.pointer (some ⟨F, 0, none⟩)) := ⟨_, rfl⟩
  rw [← hw0] at hs4
  have HBW : Hid (Below w.heap.size w w0) := Lib.hid (by rw [hw0]; exact HW0.out _)
  have H0 := Lib.hid (And.intro hs4 hx4)
  clear hs4 hx4 hw0 C
  go_wp2_with fail
  go_loopw [9, 16] (fun v9 vi wr => ∃ k : Nat, k ≤ n ∧ vi = .int .i64 k ∧ SetE w0 F (if k = 0 then l else J) wr ∧ wr.heap[w.heap.size + 1 + 1]? = some (.cells #[.pointer (some ⟨F, 0, none⟩)] 65 (0, 0)) ∧ wr.ownsRow w0.heap.size 32 9 v9 k (flatN ((notesOf J names).take k))) (fun _ vi _ => n - (intOf vi).toNat)
  case atStart => exact ⟨0, Nat.zero_le _, rfl, by rw [if_pos rfl]; exact H0.out.1, H0.out.2, World.ownsRow_nil _ _ _ _⟩
  case round =>
    obtain ⟨k, hk, rfl, hs, hx, hr⟩ := hrel
    obtain ⟨oa, oc, rfl⟩ := row_form hr
    have HS := Lib.hid hs
    have HX := Lib.hid hx
    have HR := Lib.hid hr
    have HBR : Hid (Below w.heap.size w wr) := Lib.hid (HBW.out.trans (hs.bel.mono HBW.out.size))
    clear hs hr
    by_cases hlt : k < n
    case neg =>
      have HE : Hid ((notesOf J names).take k = notesOf J names) := Lib.hid (List.take_of_length_le (by have := HNL.out; simp [notesOf]; omega))
      have HKN : Hid (k = names.length + 1) := Lib.hid (by have := HNL.out; omega)
      clear hx
      go_wp2_with fail
      go_ret2
      refine ⟨_, rfl, HBR.out, ?_⟩
      have := row_lower HR.out HBW.out.size
      rw [HE.out, ← HKN.out] at *
      exact this
    have x0 := cell_of_one hx
    have lx := lt_of_block hx
    clear hx
    by_cases hk0 : k = 0
    · subst hk0
      rw [if_pos rfl] at HS
      have t1 := (HT.out wr HBR.out).one
      have c0 := t1 0 (.int .i64 13) rfl
      have c1 := t1 1 (.string ⟨#[]⟩) rfl
      have c2 := t1 2 (.string ⟨#[]⟩) rfl
      have c3 := t1 3 (.bool false) rfl
      have c4 := t1 4 (.slice none 0 0) rfl
      have c5 := t1 5 (.slice a2 m.length cap2) rfl
      have lg := lt_of_cell c0
      have hal := (Below.refl wr.heap.size wr).alloc (Nat.le_refl _) (.cells #[.int .i64 13, .string ⟨#[]⟩, .string ⟨#[]⟩, .bool false, .slice none 0 0, .slice a2 m.length cap2] 37)
      have CT := Lib.hid (HTA.out w0 _ F (HS.out.later hal) (HD2.out _ (HBR.out.trans (hal.mono HBR.out.size))))
      have HXA := Lib.hid ((hal.block _ (lt_of_block HX.out)).trans HX.out)
      have HRA := Lib.hid (row_grow HR.out hal)
      have HNX : Hid (flatN ((notesOf J names).take (0 + 1)) = flatN ((notesOf J names).take 0) ++ [.bool false, .bool false, .bool false, .bool false, .string ⟨#[]⟩, .string ⟨#[]⟩, .string ⟨#[]⟩, .int .i64 0, .slice none 0 0]) := Lib.hid rfl
      clear t1 hal
      unfold turnA note0 ptr at CT
      go_wp2_with fail
      refine CT.out.mono ?_
      rintro e w5 ⟨rfl, hs5, hk5⟩
      have HS5 := Lib.hid hs5
      have HX5 : Hid (w5.heap[w.heap.size + 1 + 1]? = some (.cells #[ptr F] 65 (0, 0))) := Lib.hid (hk5.cells _ _ _ _ HXA.out (by decide) (by decide))
      have HRW5 := Lib.hid (row_keepT HRA.out hk5)
      clear hs5 hk5 CT c0 c1 c2 c3 c4 c5 lg x0 lx
      have hrow := HRW5.out
      have hs0 := HS5.out.bel.size
      go_wp2_with (
        at_builtin
        refine wpList_append_lies _ (by rfl) _ _ _ (by rfl) w0.heap.size 32 i0 _ 9 88 Tryz.underlying47 hi0 hz0 hz1 hz2 rfl (by omega) (.slice oa 0 oc) 0 _ (by rfl) (hrow.alloc _)
          ⟨w5.heap.size, 0, none⟩ 1 1 [.bool false, .bool false, .bool false, .bool false, .string ⟨#[]⟩, .string ⟨#[]⟩, .string ⟨#[]⟩, .int .i64 0, .slice none 0 0] (by rfl) (by rfl) (World.news_of_block (cs := #[.bool false, .bool false, .bool false, .bool false, .string ⟨#[]⟩, .string ⟨#[]⟩, .string ⟨#[]⟩, .int .i64 0, .slice none 0 0]) (t := 32) (fr := (0, 0)) (heap_alloc_new w5 _)) (by simp [Value.oneCell'])
          (by omega) (by unfold maxLen; omega) (by omega) (by simp only [World.size_alloc]; exact Nat.le_succ_of_le hs0) (w5.heap.size + 1) (by simp only [World.size_alloc]) ?_
        intro gg cap5 w6 hown1 hgrow hat hlt5)
      have HG := Lib.hid (note_grown HS5.out HX5.out hrow hgrow)
      have HOW := Lib.hid hown1
      clear hown1 hgrow hat hlt5 hrow hs0
      go_roundw
      case rel => exact ⟨0 + 1, by omega, by go_num, by rw [if_neg (by omega)]; exact HG.out.1, HG.out.2, by rw [HNX.out]; exact HOW.out⟩
      case measure => simp [intOf]; omega
    · rw [if_neg hk0] at HS
      obtain ⟨i, rfl⟩ : ∃ i, k = i + 1 := ⟨k - 1, by omega⟩
      have hin : i < names.length := by have := HNL.out; omega
      have t1 := (HT.out wr HBR.out).more i hin
      obtain ⟨pl, hpl⟩ := HFI.out _ (List.getElem_mem hin)
      have HNT : Hid ((notesOf J names).take (i + 1 + 1) = (notesOf J names).take (i + 1) ++ [tellD (tellOf J names[i])]) := Lib.hid (by
        rw [List.take_succ_eq_append_getElem (by simp [notesOf]; omega)]
        simp [notesOf])
      have HTO : Hid (tellOf J names[i] = J[pl]!) := Lib.hid (by rw [tellOf, hpl]; rfl)
      generalize names[i] = nm at *
      have c0 := t1 0 (.int .i64 1) rfl
      rw [Nat.add_zero] at c0
      have c1 := t1 1 (.string nm) rfl
      have c2 := t1 2 (.string ⟨#[]⟩) rfl
      have c3 := t1 3 (.bool false) rfl
      have c4 := t1 4 (.slice none 0 0) rfl
      have c5 := t1 5 (.slice none 0 0) rfl
      have lg := lt_of_cell c0
      have hal := (Below.refl wr.heap.size wr).alloc (Nat.le_refl _) (.cells #[.int .i64 1, .string nm, .string ⟨#[]⟩, .bool false, .slice none 0 0, .slice none 0 0] 37)
      have HSA := Lib.hid (HS.out.later hal)
      have CT := Lib.hid (turnedLook_any HSA.out hpl)
      have HXA := Lib.hid ((hal.block _ (lt_of_block HX.out)).trans HX.out)
      have HRA := Lib.hid (row_grow HR.out hal)
      rw [HTO.out] at HNT
      clear t1 hal hpl HTO
      obtain ⟨nmx, shx, sx, hsx⟩ : ∃ a b c, tellD J[pl]! = noteA a b c := ⟨_, _, _, rfl⟩
      rw [hsx] at CT HNT
      have HNX : Hid (flatN ((notesOf J names).take (i + 1 + 1)) = flatN ((notesOf J names).take (i + 1)) ++ [.bool true, .bool false, .bool false, .bool false, .string nmx, .string shx, .string sx, .int .i64 0, .slice none 0 0]) := Lib.hid (by rw [HNT.out, flatN_snoc]; rfl)
      clear hsx HNT
      unfold turnL noteA ptr at CT
      go_wp2_with fail
      refine CT.out.mono ?_
      rintro e w5 ⟨rfl, hb5⟩
      have HS5 := Lib.hid (HSA.out.later hb5)
      have HX5 : Hid (w5.heap[w.heap.size + 1 + 1]? = some (.cells #[ptr F] 65 (0, 0))) := Lib.hid ((hb5.block _ (lt_of_block HXA.out)).trans HXA.out)
      have HRW5 := Lib.hid (row_grow HRA.out hb5)
      clear hb5 CT c0 c1 c2 c3 c4 c5 lg x0 lx
      have hrow := HRW5.out
      have hs0 := HS5.out.bel.size
      go_wp2_with (
        at_builtin
        refine wpList_append_lies _ (by rfl) _ _ _ (by rfl) w0.heap.size 32 i0 _ 9 88 Tryz.underlying47 hi0 hz0 hz1 hz2 rfl (by omega) (.slice oa (i + 1) oc) (i + 1) _ (by rfl) (hrow.alloc _)
          ⟨w5.heap.size, 0, none⟩ 1 1 [.bool true, .bool false, .bool false, .bool false, .string nmx, .string shx, .string sx, .int .i64 0, .slice none 0 0] (by rfl) (by rfl) (World.news_of_block (cs := #[.bool true, .bool false, .bool false, .bool false, .string nmx, .string shx, .string sx, .int .i64 0, .slice none 0 0]) (t := 32) (fr := (0, 0)) (heap_alloc_new w5 _)) (by simp [Value.oneCell'])
          (by omega) (by unfold maxLen; omega) (by omega) (by simp only [World.size_alloc]; exact Nat.le_succ_of_le hs0) (w5.heap.size + 1) (by simp only [World.size_alloc]) ?_
        intro gg cap5 w6 hown1 hgrow hat hlt5)
      have HG := Lib.hid (note_grown HS5.out HX5.out hrow hgrow)
      have HOW := Lib.hid hown1
      clear hown1 hgrow hat hlt5 hrow hs0
      go_roundw
      case rel => exact ⟨(i + 1) + 1, by omega, by go_num, by rw [if_neg (by omega)]; exact HG.out.1, HG.out.2, by rw [HNX.out]; exact HOW.out⟩
      case measure => simp [intOf]; omega
end Go.Proofs.YtmmkebdaijmpiaaGreat
