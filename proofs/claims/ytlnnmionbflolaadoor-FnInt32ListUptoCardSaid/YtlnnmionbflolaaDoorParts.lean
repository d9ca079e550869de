/- The walks of zzIndex, zzSplit at a comma and of the reference's Parts: a text cut at its commas. -/
import Derived.Test.YtlnnmionbflolaaDoorPartsP
import Derived.Test.YtlnnmionbflolaaDoorFresh
namespace Go.Proofs.YtlnnmionbflolaaDoor
open Go.RowKit
set_option linter.unusedVariables false
set_option linter.unusedSimpArgs false

theorem infoStr0 : (Tryd.prog.info? 9).map (fun i => (i.zero, i.size, i.bytes)) = some (some (.string ⟨#[]⟩), 1, 16) := by kernel_rfl
theorem one_toList (s : ByteArray) (k : Nat) (h : k < s.size) : (s.extract k (k + 1)).toList = [s[k]] := by
  have h1 : (s.extract k (k + 1)).toList = (s.extract k (k + 1)).data.toList := ByteArray.toList_eq _
  rw [h1, ByteArray.data_extract]
  apply List.ext_getElem?
  intro i
  rw [Array.getElem?_toList, Array.getElem?_extract]
  have e : s.data.size = s.size := rfl
  by_cases hi : i = 0
  · subst hi
    rw [if_pos (by omega)]
    simp only [Nat.add_zero]
    rw [Array.getElem?_eq_getElem (by omega)]
    rfl
  · rw [if_neg (by omega)]
    rw [List.getElem?_eq_none (by simp; omega)]

/-- Where the first comma is. -/
def CommaAt (s : ByteArray) (r : Int) : Prop := (∃ (j : Nat) (h : j < s.size), r = j ∧ s[j].toNat = 44 ∧ ∀ k (h : k < s.size), k < j → s[k].toNat ≠ 44) ∨ (r = -1 ∧ ∀ k (h : k < s.size), s[k].toNat ≠ 44)

set_option maxRecDepth 100000 in
theorem index_any (s : ByteArray) (hs : s.size ≤ 2147483647) (w : World) :
    Calls Tryd.prog 59 #[.string s, .string ⟨#[44]⟩] w fun e w' => ∃ r, e = .returned (.int .i64 r) ∧ w = w' ∧ CommaAt s r := by
  go_enter Tryd.func59, Tryd.ntmps59
  go_wp2_with fail
  go_loop [5] (fun i => ∃ k : Nat, k ≤ s.size ∧ i = .int .i64 k ∧ ∀ j (h : j < s.size), j < k → s[j].toNat ≠ 44) (fun i => s.size - (intOf i).toNat)
  case atStart => exact ⟨0, Nat.zero_le _, rfl, fun j _ h => by omega⟩
  case round =>
    obtain ⟨k, hk, rfl, hh⟩ := hrel
    have HH := Lib.hid hh
    clear hh
    by_cases hlt : k < s.size
    · have ht := one_toList s k hlt
      by_cases hc : s[k].toNat = 44
      · have e1 : ((s.extract k (k + 1)).toList == [44]) = true := by
          rw [ht]
          have : s[k] = 44 := UInt8.toNat_inj.1 hc
          rw [this]; rfl
        have HC := Lib.hid hc
        clear ht hc
        go_wp2_with fail
        go_ret
        exact ⟨_, rfl, rfl, .inl ⟨k, hlt, rfl, HC.out, HH.out⟩⟩
      · have e1 : ((s.extract k (k + 1)).toList == [44]) = false := by
          rw [ht]
          have : s[k] ≠ 44 := fun e => hc (by rw [e]; rfl)
          simp [this]
        have HN : Hid (∀ j (h : j < s.size), j < k + 1 → s[j].toNat ≠ 44) := Lib.hid (fun j h hj => by
          by_cases e : j = k
          · subst e; exact hc
          · exact HH.out j h (by omega))
        clear ht hc
        go_wp2_with fail
        go_round
        case rel => exact ⟨k + 1, by omega, by go_num, HN.out⟩
        case measure => simp [intOf]; omega
    · go_wp2_with fail
      go_ret
      exact ⟨_, rfl, rfl, .inr ⟨rfl, fun j h => HH.out j h (by omega)⟩⟩

set_option maxRecDepth 100000 in
/-- The reference's cut. -/
theorem parts_any (s : ByteArray) (hs : s.size ≤ 2147483647) (w : World) :
    Calls Tryd.prog 33 #[.string s] w fun e w' => ∃ v, e = .returned v ∧ w'.ownsRow w.heap.size 9 1 v (partsF s).length ((partsF s).map .string) ∧ Below w.heap.size w w' := by
  go_enter Tryd.func33, Tryd.ntmps33
  have H0 : Hid ((w.alloc (.cells #[] 9)).ownsRow w.heap.size 9 1 (.slice (some ⟨w.heap.size, 0, none⟩) 0 0) 0 [] ∧ Below w.heap.size w (w.alloc (.cells #[] 9))) := Lib.hid
    ⟨⟨rfl, .inr ⟨w.heap.size, 0, #[], rfl, Nat.le_refl _, heap_at _ _ _ rfl, Nat.le_refl _, Nat.zero_le _, rfl, rfl⟩⟩, (Below.refl _ _).alloc (Nat.le_refl _) _⟩
  have HL := Lib.hid (partsF_len s)
  go_wp2_with fail
  go_loopw [3, 4, 9] (fun vo vf vi wr => ∃ (k f : Nat) (out : List ByteArray), k ≤ s.size ∧ f ≤ k ∧ vi = .int .i64 k ∧ vf = .int .i64 f ∧ out.length ≤ k ∧ Hid (partsF s = out ++ partsAt s f k) ∧ wr.ownsRow w.heap.size 9 1 vo out.length (out.map .string) ∧ Below w.heap.size w wr) (fun _ _ vi _ => s.size - (intOf vi).toNat)
  case atStart => exact ⟨0, 0, [], Nat.zero_le _, Nat.le_refl _, rfl, rfl, Nat.le_refl _, Lib.hid rfl, H0.out⟩
  case round =>
    obtain ⟨k, f, out, hk, hf, rfl, rfl, hol, hp, hr⟩ := hrel
    obtain ⟨ra, rc, rfl⟩ := row_form hr.1
    have HR := Lib.hid hr
    clear hr
    obtain ⟨i0, hi0, hz0, hz1, hz2⟩ := info_parts infoStr0
    obtain ⟨NL, hNL⟩ : ∃ NL, NL = out.length := ⟨_, rfl⟩
    rw [← hNL] at hol HR ⊢
    have HNL := Lib.hid hNL
    clear hNL
    by_cases hlt : k < s.size
    case neg =>
      have ek : k = s.size := by omega
      have HE : Hid (partsF s = out ++ [s.extract f s.size]) := Lib.hid (by rw [hp.out, partsAt_end (by omega)])
      clear hp
      go_wp2_with (at_builtin; refine wpList_append_lies _ (by rfl) _ _ _ (by rfl) w.heap.size 9 i0 _ 1 16 Tryd.underlying51 hi0 hz0 hz1 hz2 rfl (by omega) (.slice ra NL rc) NL (out.map .string) (by rfl) (row_grow HR.out.1 (by (repeat (first | (with_reducible exact Below.refl _ _) | (with_reducible assumption) | ((with_reducible refine Below.alloc ?_ ?_ _); rotate_left; focus ((try simp only [World.size_alloc, size_setCell, World.heap_drewN]); (try omega); done)) | ((with_reducible refine Below.setCell ?_ ?_ _); rotate_left; focus ((try simp only [World.size_alloc, size_setCell, World.heap_drewN]); (try omega); done)) | (with_reducible refine Below.drewN' ?_) | (with_reducible refine Below.drew ?_))))) ⟨wr.heap.size, 0, none⟩ 1 1 [.string (s.extract f s.size)] (by rfl) (by rfl) (news_lies (heap_at _ _ _ rfl) (by rfl)) (by simp [Value.oneCell']) (by omega) (by unfold maxLen; omega) (by omega) (by have := HR.out.2.size; simp only [World.size_alloc]; omega) _ rfl ?_; intro g cap2 w2 hown hgrow hat hlt2)
      go_ret
      refine ⟨_, rfl, ?_, ?_⟩
      · rw [HE.out]
        simp only [List.length_append, List.length_singleton, List.map_append, List.map_cons, List.map_nil]
        rw [← HNL.out]
        exact hown
      · have hb1 : Below wr.heap.size wr (wr.alloc (.cells #[.string (s.extract f s.size)] 9)) := by (repeat (first | (with_reducible exact Below.refl _ _) | (with_reducible assumption) | ((with_reducible refine Below.alloc ?_ ?_ _); rotate_left; focus ((try simp only [World.size_alloc, size_setCell, World.heap_drewN]); (try omega); done)) | ((with_reducible refine Below.setCell ?_ ?_ _); rotate_left; focus ((try simp only [World.size_alloc, size_setCell, World.heap_drewN]); (try omega); done)) | (with_reducible refine Below.drewN' ?_) | (with_reducible refine Below.drew ?_)))
        exact grown_below (HR.out.2.trans (hb1.mono HR.out.2.size)) (Nat.le_trans HR.out.2.size hb1.size) (row_grow HR.out.1 hb1) hgrow
    by_cases hc : s[k].toNat = 44
    · have e1 : ((s[k].toNat : Int) == 44) = true := by simp [hc]
      have HE : Hid (partsF s = (out ++ [s.extract f k]) ++ partsAt s (k + 1) (k + 1)) := Lib.hid (by rw [hp.out, partsAt_comma hlt hc, List.append_assoc]; rfl)
      clear hp hc
      go_wp2_with (at_builtin; refine wpList_append_lies _ (by rfl) _ _ _ (by rfl) w.heap.size 9 i0 _ 1 16 Tryd.underlying51 hi0 hz0 hz1 hz2 rfl (by omega) (.slice ra NL rc) NL (out.map .string) (by rfl) (row_grow HR.out.1 (by (repeat (first | (with_reducible exact Below.refl _ _) | (with_reducible assumption) | ((with_reducible refine Below.alloc ?_ ?_ _); rotate_left; focus ((try simp only [World.size_alloc, size_setCell, World.heap_drewN]); (try omega); done)) | ((with_reducible refine Below.setCell ?_ ?_ _); rotate_left; focus ((try simp only [World.size_alloc, size_setCell, World.heap_drewN]); (try omega); done)) | (with_reducible refine Below.drewN' ?_) | (with_reducible refine Below.drew ?_))))) ⟨wr.heap.size, 0, none⟩ 1 1 [.string (s.extract f k)] (by rfl) (by rfl) (news_lies (heap_at _ _ _ rfl) (by rfl)) (by simp [Value.oneCell']) (by omega) (by unfold maxLen; omega) (by omega) (by have := HR.out.2.size; simp only [World.size_alloc]; omega) _ rfl ?_; intro g cap2 w2 hown hgrow hat hlt2)
      have HB : Hid (w2.ownsRow w.heap.size 9 1 (.slice (some ⟨g, 0, none⟩) (NL + 1) cap2) (out ++ [s.extract f k]).length ((out ++ [s.extract f k]).map .string) ∧ Below w.heap.size w w2) := Lib.hid (by
        refine ⟨?_, ?_⟩
        · simp only [List.length_append, List.length_singleton, List.map_append, List.map_cons, List.map_nil]
          rw [← HNL.out]
          exact hown
        · have hb1 : Below wr.heap.size wr (wr.alloc (.cells #[.string (s.extract f k)] 9)) := by (repeat (first | (with_reducible exact Below.refl _ _) | (with_reducible assumption) | ((with_reducible refine Below.alloc ?_ ?_ _); rotate_left; focus ((try simp only [World.size_alloc, size_setCell, World.heap_drewN]); (try omega); done)) | ((with_reducible refine Below.setCell ?_ ?_ _); rotate_left; focus ((try simp only [World.size_alloc, size_setCell, World.heap_drewN]); (try omega); done)) | (with_reducible refine Below.drewN' ?_) | (with_reducible refine Below.drew ?_)))
          exact grown_below (HR.out.2.trans (hb1.mono HR.out.2.size)) (Nat.le_trans HR.out.2.size hb1.size) (row_grow HR.out.1 hb1) hgrow)
      clear hown hgrow hat hlt2
      go_wp2_with fail
      go_roundw
      case rel => exact ⟨k + 1, k + 1, out ++ [s.extract f k], by omega, Nat.le_refl _, by go_num, by go_num, by have := HNL.out; (simp only [List.length_append, List.length_singleton]; omega), HE, HB.out⟩
      case measure => simp [intOf]; omega
    · have e1 : ((s[k].toNat : Int) == 44) = false := by rw [beq_eq_false_iff_ne]; omega
      have HE : Hid (partsF s = out ++ partsAt s f (k + 1)) := Lib.hid (by rw [hp.out, partsAt_other hlt hc])
      clear hp hc
      go_wp2_with fail
      go_roundw
      case rel => exact ⟨k + 1, f, out, by omega, by omega, by go_num, rfl, by have := HNL.out; omega, HE, by rw [← HNL.out]; exact HR.out⟩
      case measure => simp [intOf]; omega

set_option maxRecDepth 100000 in
/-- The program's cut. -/
theorem split_any (s : ByteArray) (hs : s.size ≤ 2147483647) (w : World) :
    Calls Tryd.prog 49 #[.string s, .string ⟨#[44]⟩] w fun e w' => ∃ v, e = .returned v ∧ w'.ownsRow w.heap.size 9 1 v (partsF s).length ((partsF s).map .string) ∧ Below w.heap.size w w' := by
  go_enter Tryd.func49, Tryd.ntmps49
  have H0 : Hid (w.ownsRow w.heap.size 9 1 (.slice none 0 0) 0 [] ∧ Below w.heap.size w w) := Lib.hid ⟨World.ownsRow_nil _ _ _ _, Below.refl _ _⟩
  have HL := Lib.hid (partsF_len s)
  have h00 : s.extract 0 s.size = s := by simp
  go_wp2_with fail
  go_loopw [0, 5, 8] (fun vs vo v8 wr => ∃ (f : Nat) (out : List ByteArray), f ≤ s.size ∧ vs = .string (s.extract f s.size) ∧ out.length ≤ f ∧ Hid (partsF s = out ++ partsAt s f f) ∧ wr.ownsRow w.heap.size 9 1 vo out.length (out.map .string) ∧ Below w.heap.size w wr) (fun vs _ _ _ => match vs with | .string t => t.size | _ => 0)
  case atStart => exact ⟨0, [], Nat.zero_le _, by rw [h00], Nat.le_refl _, Lib.hid rfl, H0.out⟩
  case round =>
    obtain ⟨f, out, hf, rfl, hol, hp, hr⟩ := hrel
    obtain ⟨ra, rc, rfl⟩ := row_form hr.1
    have HR := Lib.hid hr
    clear hr
    obtain ⟨i0, hi0, hz0, hz1, hz2⟩ := info_parts infoStr0
    obtain ⟨NL, hNL⟩ : ∃ NL, NL = out.length := ⟨_, rfl⟩
    rw [← hNL] at hol HR ⊢
    have HNL := Lib.hid hNL
    clear hNL
    obtain ⟨t, ht⟩ : ∃ t, t = s.extract f s.size := ⟨_, rfl⟩
    have htl : t.size = s.size - f := by rw [ht, ByteArray.size_extract]; omega
    have hg : ∀ k (h : k < t.size) (h2 : f + k < s.size), t[k] = s[f + k] := fun k h h2 => by subst ht; rw [ByteArray.getElem_extract]
    rw [← ht]
    have HT := Lib.hid ht
    have HG := Lib.hid hg
    clear ht hg
    have CI := Lib.hid (index_any t (by omega))
    go_wp2_with fail
    refine (CI.out _).mono ?_
    rintro e w' ⟨r, rfl, rfl, hw⟩
    rcases hw with ⟨j, hj, rfl, hc, hn⟩ | ⟨rfl, hn⟩
    · have hj2 : f + j < s.size := by omega
      have HX : Hid (t.extract 0 j = s.extract f (f + j)) := Lib.hid (by
        rw [HT.out, ByteArray.extract_extract]
        congr 1
        omega)
      have HY : Hid (t.extract (j + 1) t.size = s.extract (f + j + 1) s.size) := Lib.hid (by
        rw [htl, HT.out, ByteArray.extract_extract]
        congr 1 <;> omega)
      have HE : Hid (partsF s = (out ++ [t.extract 0 j]) ++ partsAt s (f + j + 1) (f + j + 1)) := Lib.hid (by
        rw [hp.out, partsAt_skip j f (by omega) (fun k h h1 h2 => by
          have := hn (k - f) (by omega) (by omega)
          rw [HG.out (k - f) (by omega) (by omega)] at this
          have e : f + (k - f) = k := by omega
          simpa only [e] using this), partsAt_comma hj2 (by rw [← HG.out j hj hj2]; exact hc), HX.out, List.append_assoc]
        rfl)
      have hYs : (t.extract (j + 1) t.size).size < t.size := by rw [ByteArray.size_extract]; omega
      clear hp hc hn HX
      go_wp2_with (at_builtin; refine wpList_append_lies _ (by rfl) _ _ _ (by rfl) w.heap.size 9 i0 _ 1 16 Tryd.underlying51 hi0 hz0 hz1 hz2 rfl (by omega) (.slice ra NL rc) NL (out.map .string) (by rfl) (row_grow HR.out.1 (by (repeat (first | (with_reducible exact Below.refl _ _) | (with_reducible assumption) | ((with_reducible refine Below.alloc ?_ ?_ _); rotate_left; focus ((try simp only [World.size_alloc, size_setCell, World.heap_drewN]); (try omega); done)) | ((with_reducible refine Below.setCell ?_ ?_ _); rotate_left; focus ((try simp only [World.size_alloc, size_setCell, World.heap_drewN]); (try omega); done)) | (with_reducible refine Below.drewN' ?_) | (with_reducible refine Below.drew ?_))))) ⟨wr.heap.size, 0, none⟩ 1 1 [.string (t.extract 0 j)] (by rfl) (by rfl) (news_lies (heap_at _ _ _ rfl) (by rfl)) (by simp [Value.oneCell']) (by omega) (by unfold maxLen; omega) (by omega) (by have := HR.out.2.size; simp only [World.size_alloc]; omega) _ rfl ?_; intro g cap2 w2 hown hgrow hat hlt2)
      have HB : Hid (w2.ownsRow w.heap.size 9 1 (.slice (some ⟨g, 0, none⟩) (NL + 1) cap2) (out ++ [t.extract 0 j]).length ((out ++ [t.extract 0 j]).map .string) ∧ Below w.heap.size w w2) := Lib.hid (by
        refine ⟨?_, ?_⟩
        · simp only [List.length_append, List.length_singleton, List.map_append, List.map_cons, List.map_nil]
          rw [← HNL.out]
          exact hown
        · have hb1 : Below wr.heap.size wr (wr.alloc (.cells #[.string (t.extract 0 j)] 9)) := by (repeat (first | (with_reducible exact Below.refl _ _) | (with_reducible assumption) | ((with_reducible refine Below.alloc ?_ ?_ _); rotate_left; focus ((try simp only [World.size_alloc, size_setCell, World.heap_drewN]); (try omega); done)) | ((with_reducible refine Below.setCell ?_ ?_ _); rotate_left; focus ((try simp only [World.size_alloc, size_setCell, World.heap_drewN]); (try omega); done)) | (with_reducible refine Below.drewN' ?_) | (with_reducible refine Below.drew ?_)))
          exact grown_below (HR.out.2.trans (hb1.mono HR.out.2.size)) (Nat.le_trans HR.out.2.size hb1.size) (row_grow HR.out.1 hb1) hgrow)
      clear hown hgrow hat hlt2
      go_wp2_with fail
      go_roundw
      case rel => exact ⟨f + j + 1, out ++ [t.extract 0 j], by omega, by rw [← HY.out, htl], by have := HNL.out; (simp only [List.length_append, List.length_singleton]; omega), HE, HB.out⟩
      case measure => simp; omega
    · have HE : Hid (partsF s = out ++ [t]) := Lib.hid (by
        rw [hp.out, partsAt_skip (s.size - f) f (by omega) (fun k h h1 h2 => by
          have := hn (k - f) (by omega)
          rw [HG.out (k - f) (by omega) (by omega)] at this
          have e : f + (k - f) = k := by omega
          simpa only [e] using this), partsAt_end (by omega), HT.out])
      clear hp hn
      go_wp2_with (at_builtin; refine wpList_append_lies _ (by rfl) _ _ _ (by rfl) w.heap.size 9 i0 _ 1 16 Tryd.underlying51 hi0 hz0 hz1 hz2 rfl (by omega) (.slice ra NL rc) NL (out.map .string) (by rfl) (row_grow HR.out.1 (by (repeat (first | (with_reducible exact Below.refl _ _) | (with_reducible assumption) | ((with_reducible refine Below.alloc ?_ ?_ _); rotate_left; focus ((try simp only [World.size_alloc, size_setCell, World.heap_drewN]); (try omega); done)) | ((with_reducible refine Below.setCell ?_ ?_ _); rotate_left; focus ((try simp only [World.size_alloc, size_setCell, World.heap_drewN]); (try omega); done)) | (with_reducible refine Below.drewN' ?_) | (with_reducible refine Below.drew ?_))))) ⟨wr.heap.size, 0, none⟩ 1 1 [.string t] (by rfl) (by rfl) (news_lies (heap_at _ _ _ rfl) (by rfl)) (by simp [Value.oneCell']) (by omega) (by unfold maxLen; omega) (by omega) (by have := HR.out.2.size; simp only [World.size_alloc]; omega) _ rfl ?_; intro g cap2 w2 hown hgrow hat hlt2)
      go_ret
      refine ⟨_, rfl, ?_, ?_⟩
      · rw [HE.out]
        simp only [List.length_append, List.length_singleton, List.map_append, List.map_cons, List.map_nil]
        rw [← HNL.out]
        exact hown
      · have hb1 : Below wr.heap.size wr (wr.alloc (.cells #[.string t] 9)) := by (repeat (first | (with_reducible exact Below.refl _ _) | (with_reducible assumption) | ((with_reducible refine Below.alloc ?_ ?_ _); rotate_left; focus ((try simp only [World.size_alloc, size_setCell, World.heap_drewN]); (try omega); done)) | ((with_reducible refine Below.setCell ?_ ?_ _); rotate_left; focus ((try simp only [World.size_alloc, size_setCell, World.heap_drewN]); (try omega); done)) | (with_reducible refine Below.drewN' ?_) | (with_reducible refine Below.drew ?_)))
        exact grown_below (HR.out.2.trans (hb1.mono HR.out.2.size)) (Nat.le_trans HR.out.2.size hb1.size) (row_grow HR.out.1 hb1) hgrow
end Go.Proofs.YtlnnmionbflolaaDoor
