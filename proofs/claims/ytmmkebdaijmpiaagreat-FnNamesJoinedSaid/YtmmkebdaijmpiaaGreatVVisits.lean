/- The reference's Visits; laws.nameSame of equal lists. -/
import Derived.Test.YtmmkebdaijmpiaaGreatVDo
import Derived.Test.YtmmkebdaijmpiaaGreatVNamesW
namespace Go.Proofs.YtmmkebdaijmpiaaGreat
open Go.RowKit Go.Sort
set_option linter.unusedVariables false
set_option linter.unusedSimpArgs false

theorem row_int {w : World} {B n : Nat} {a : Option Addr} {m c : Nat} {acts : List Nat} (h : w.ownsRow B 3 1 (.slice a m c) n (intsV acts)) (k : Nat) (hk : k < acts.length) (hn : n = acts.length) : ∃ g, a = some ⟨g, 0, none⟩ ∧ w.cell? ⟨g, k, none⟩ = some (.int .i64 (acts[k] : Int)) := by
  rcases h.2 with ⟨e, h0⟩ | ⟨b, cap, cur, e, hb, hh, hnc, hcm, hcs, ht⟩
  · exact absurd h0 (by omega)
  · cases e
    refine ⟨b, rfl, cell_of hh _ _ ?_⟩
    have : (intsV acts)[k]? = some (.int .i64 (acts[k] : Int)) := by simp [intsV, hk]
    rw [← ht, List.getElem?_take, if_pos (by omega), Array.getElem?_toList] at this
    exact this
def nmOf (ls : List DefD) (acts : List Nat) : List ByteArray := acts.map fun (i : Nat) => ls[i]!.nm
theorem visitedD_eq (so : Bool) (ls : List DefD) (acts : List Nat) : visitedD so ls acts = if so then srt (nmOf ls acts) else nmOf ls acts := rfl

set_option maxRecDepth 100000 in
set_option maxHeartbeats 1600000 in
theorem visitsR_any {w0 w : World} {N : Nat} {pl : Bool} {fv sv svN : Value} {l : List NFlag} {ls : List DefD} {acts : List Nat} (hn : NSet w0 N fv pl svN l w) (el : l.map (·.d) = ls) (hr : w.ownsRow w0.heap.size 3 1 sv acts.length (intsV acts)) (hlt : ∀ i ∈ acts, i < ls.length) (ha : acts.length ≤ 1048576) (hl : ls.length ≤ 1048576) (hz : ∀ x ∈ ls, x.nm.size ≤ 1048576) :
    Calls Tryz.prog 13 #[.pointer (some ⟨N, 0, none⟩), sv] w fun e w' => ∃ rv, e = .returned rv ∧ SLo w rv (visitedD (!pl) ls acts) w' := by
  obtain ⟨i0, hi0, hz0, hz1, hz2⟩ := info_parts infoStrT
  obtain ⟨a, c, rfl⟩ := hn.form
  obtain ⟨sa, sc, rfl⟩ := row_form hr
  have HN := Lib.hid (fun W (hb : Below w.heap.size w W) => hn.later hb)
  have HR := Lib.hid (fun W (hb : Below w.heap.size w W) => row_grow hr hb)
  have HLT := Lib.hid hlt
  have HEL := Lib.hid el
  have HNZ : Hid (∀ x ∈ nmOf ls acts, x.size ≤ 1048576) := Lib.hid (fun x hx => by
    obtain ⟨i, hi, rfl⟩ := List.mem_map.1 hx
    have := hlt i hi
    rw [getElem!_pos ls i this]
    exact hz _ (List.getElem_mem this))
  have HLL : Hid (l.length = ls.length) := Lib.hid (by rw [← el, List.length_map])
  have H0 := Lib.hid (show SLo w (.slice none 0 0) [] w from ⟨Below.refl _ _, World.ownsRow_nil _ _ _ _⟩)
  clear hn hr hlt el hz
  go_enter Tryz.func13, Tryz.ntmps13
  go_wp2_with fail
  go_loopw [5, 10] (fun v5 vi wr => ∃ k : Nat, k ≤ acts.length ∧ vi = .int .i64 k ∧ SLo w v5 (nmOf ls (acts.take k)) wr) (fun _ vi _ => acts.length - (intOf vi).toNat)
  case atStart => exact ⟨0, Nat.zero_le _, rfl, H0.out⟩
  case round =>
    obtain ⟨k, hk, rfl, hsl⟩ := hrel
    obtain ⟨out, hout⟩ : ∃ out, out = nmOf ls (acts.take k) := ⟨_, rfl⟩
    rw [← hout] at hsl
    have HOUT := Lib.hid hout
    have hole : out.length ≤ 1048576 := by rw [hout]; simp [nmOf]; omega
    clear hout
    have HSL := Lib.hid hsl
    obtain ⟨oa, oc, rfl⟩ := row_form hsl.row
    clear hsl
    have c1 := cell_of (HN.out wr HSL.out.bel).hN 1 (.bool pl) rfl
    by_cases hlt : k < acts.length
    case neg =>
      have HE : Hid (out = nmOf ls acts) := Lib.hid (by rw [HOUT.out, List.take_of_length_le (by omega)])
      have HSV := Lib.hid (strs_own HSL.out.row rfl)
      have CS := Lib.hid (sortNames_any _ out wr HSV.out hole (by rw [HE.out]; exact HNZ.out))
      cases pl with
      | true =>
        have HVV : Hid (visitedD (!true) ls acts = out) := Lib.hid (by rw [visitedD_eq, HE.out]; rfl)
        go_wp2_with fail
        go_ret
        exact ⟨_, rfl, by rw [HVV.out]; exact HSL.out⟩
      | false =>
        have HVV : Hid (visitedD (!false) ls acts = srt out) := Lib.hid (by rw [visitedD_eq, HE.out]; rfl)
        go_wp2_with fail
        refine CS.out.mono ?_
        rintro e w3 ⟨ov, rfl, hs3⟩
        have HS3 := Lib.hid hs3
        clear hs3 CS
        go_wp2_with fail
        go_ret
        exact ⟨_, rfl, by rw [HVV.out]; exact ⟨HSL.out.bel.trans (HS3.out.bel.mono HSL.out.bel.size), row_lower HS3.out.row HSL.out.bel.size⟩⟩
    obtain ⟨g1, rfl, k1⟩ := row_int (HR.out wr HSL.out.bel) k hlt rfl
    have hil := HLT.out _ (List.getElem_mem hlt)
    have HT : Hid (nmOf ls (acts.take (k + 1)) = out ++ [ls[acts[k]]!.nm]) := Lib.hid (by
      rw [HOUT.out, List.take_succ_eq_append_getElem hlt]; unfold nmOf; rw [List.map_append]; rfl)
    have c2 := cell_of (HN.out wr HSL.out.bel).hN 2 (.slice a l.length c) rfl
    generalize acts[k] = i at *
    have hil' : i < l.length := by rw [HLL.out]; exact hil
    obtain ⟨g2, rfl, hat⟩ := (HN.out wr HSL.out.bel).at i hil'
    have k6 := hat 6 (.string l[i].d.nm) (by omega) rfl
    have HNM : Hid (ls[i]!.nm = l[i].d.nm) := Lib.hid (by
      rw [getElem!_pos ls i hil]
      have := congrArg (fun m => m[i]?) HEL.out
      simp only [List.getElem?_map, List.getElem?_eq_getElem hil', List.getElem?_eq_getElem hil, Option.map_some, Option.some.injEq] at this
      rw [← this])
    rw [HNM.out] at HT
    clear hat HNM
    generalize l[i].d.nm = nm at *
    have hrow := HSL.out.row
    have hs0 := HSL.out.bel.size
    go_wp2_with (
      at_builtin
      refine wpList_append_lies _ (by rfl) _ _ _ (by rfl) w.heap.size 9 i0 _ 1 16 Tryz.underlying23 hi0 hz0 hz1 hz2 rfl (by omega) (.slice oa out.length oc) out.length (out.map Value.string) (by rfl) (hrow.alloc _)
        ⟨wr.heap.size, 0, none⟩ 1 1 [.string nm] (by rfl) (by rfl) (World.news_of_block (cs := #[.string nm]) (t := 9) (fr := (0, 0)) (heap_alloc_new wr _)) (by simp [Value.oneCell'])
        (by omega) (by unfold maxLen; omega) (by omega) (by simp only [World.size_alloc]; exact Nat.le_succ_of_le hs0) (wr.heap.size + 1) (by simp only [World.size_alloc]) ?_
      intro gg cap5 w5 hown1 hgrow hat hlt5
      have HSLn := Lib.hid (HSL.out.grow hgrow nm hown1))
    go_roundw
    case rel => exact ⟨k + 1, by omega, by go_num, by rw [HT.out]; exact HSLn.out⟩
    case measure => simp [intOf]; omega

theorem visits_any {w0 w : World} {N : Nat} {pl : Bool} {fv sv : Value} {l : List NFlag} {ls : List DefD} {acts : List Nat} (hn : NSet w0 N fv pl sv l w) (el : l.map (·.d) = ls) (hr : w.ownsRow w0.heap.size 3 1 sv acts.length (intsV acts)) (hlt : ∀ i ∈ acts, i < ls.length) (ha : acts.length ≤ 1048576) (hl : ls.length ≤ 1048576) (hz : ∀ x ∈ ls, x.nm.size ≤ 1048576) :
    Calls Tryz.prog 13 #[.pointer (some ⟨N, 0, none⟩), sv] w fun e w' => ∃ rv, e = .returned rv ∧ Below w.heap.size w w' ∧ Strs w' rv (visitedD (!pl) ls acts) :=
  (visitsR_any hn el hr hlt ha hl hz).mono fun _ _ ⟨rv, he, hs⟩ => ⟨rv, he, hs.bel, strs_own hs.row rfl⟩
set_option maxRecDepth 100000 in
theorem nameSame_any (v1 v2 : Value) (l : List ByteArray) (w : World) (h1 : Strs w v1 l) (h2 : Strs w v2 l) (hl : l.length ≤ 1048576) :
    Calls Tryz.prog 12 #[v1, v2] w fun e w' => e = .returned (.bool true) ∧ Drawn w w' := by
  obtain ⟨a1, c1, rfl⟩ := h1.len
  obtain ⟨a2, c2, rfl⟩ := h2.len
  have H1 := Lib.hid h1
  have H2 := Lib.hid h2
  clear h1 h2
  go_enter Tryz.func12, Tryz.ntmps12
  go_wp2_with fail
  go_loopw [13] (fun vi wr => ∃ k : Nat, k ≤ l.length ∧ vi = .int .i64 k ∧ ∃ q, wr = w.drewN q) (fun vi _ => l.length - (intOf vi).toNat)
  case atStart => exact ⟨0, Nat.zero_le _, rfl, 0, rfl⟩
  case round =>
    obtain ⟨k, hk, rfl, q, rfl⟩ := hrel
    by_cases hlt : k < l.length
    case neg =>
      go_wp2_with fail
      go_ret
      exact ⟨rfl, q, rfl⟩
    obtain ⟨b1, o1, rfl, k1⟩ := H1.out.cell (by omega)
    obtain ⟨b2, o2, rfl, k2⟩ := H2.out.cell (by omega)
    have d1 := k1 k hlt
    have d2 := k2 k hlt
    generalize l[k] = x at *
    clear k1 k2
    have qb : (x.toList == x.toList) = true := by simp
    have qn : (x.toList != x.toList) = false := by rw [bne, qb]; rfl
    go_wp2_with fail
    go_quiet (fail)
    go_wp2_with fail
    go_roundw
    case rel => exact ⟨k + 1, by omega, by go_num, _, rfl⟩
    case measure => simp [intOf]; omega
end Go.Proofs.YtmmkebdaijmpiaaGreat
