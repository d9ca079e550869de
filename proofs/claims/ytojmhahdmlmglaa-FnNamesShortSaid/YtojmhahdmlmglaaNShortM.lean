/- The law FnNamesShort. -/
import Derived.Test.YtojmhahdmlmglaaNShortL
import Derived.Test.YtojmhahdmlmglaaNDefinedL
namespace Go.Proofs.Ytojmhahdmlmglaa
open Go.RowKit
set_option linter.unusedVariables false
set_option linter.unusedSimpArgs false

set_option maxRecDepth 100000 in
theorem nameNew_any (v : Value) (l : List DefD) (w : World) (hv : Defs w v l) (hl : l.length ≤ 16) (hx : ∀ x ∈ l, (x.k = 0 ∨ x.k = 1) ∧ x.sh.size ≤ 60) :
    Calls Try.prog 10 #[.slice none 0 0, v] w fun e w' => ∃ (n N : Nat) (fv : Value), e = .returned (.tuple #[.pointer (some ⟨N, 0, none⟩), .bool (decide (n = l.length))]) ∧ Stops l n ∧ NSet w N fv false (.slice none 0 0) ((l.take n).map firstF) w' := by
  have HN4 : Hid (NSet w w.heap.size (.slice none 0 0) false (.slice none 0 0) [] (w.alloc (.cells #[.slice none 0 0, .bool false, .slice none 0 0, .slice none 0 0] 31))) := Lib.hid ⟨(Below.refl _ _).alloc (Nat.le_refl _) _, heap_at _ _ _ rfl, World.ownsRow_nil _ _ _ _, Nat.le_refl _⟩
  have C4 := Lib.hid (defineS_any HN4.out v l hv hl hx)
  obtain ⟨a, cap, rfl, hcap⟩ := hv.len
  clear hv hx hcap
  go_enter Try.func10, Try.ntmps10
  go_wp2_with fail
  refine C4.out.mono ?_
  rintro e w5 ⟨m, rfl, hst5, fv5, hn5⟩
  have HST := Lib.hid hst5
  have HN := Lib.hid hn5
  clear hst5 hn5 C4
  have hb : ((m : Int) == (l.length : Int)) = decide (m = l.length) := by
    by_cases h : m = l.length
    · simp [h]
    · have : ¬ (m : Int) = (l.length : Int) := by omega
      simp [h, this]
  obtain ⟨b, hbb⟩ : ∃ b, decide (m = l.length) = b := ⟨_, rfl⟩
  rw [hbb] at hb
  have HBB := Lib.hid hbb
  clear hbb
  go_wp2_with fail
  go_ret2
  exact ⟨m, _, fv5, by rw [HBB.out, ← hb]; rfl, HST.out, HN.out⟩

theorem short_same {l : List DefD} (h : AllOk l) {i j : Nat} (hi : i < l.length) (hj : j < l.length) (e : l[i].sh = l[j].sh) (h0 : l[i].sh.size ≠ 0) : l[i] = l[j] := by
  have key : ∀ {a b : Nat} (ha : a < l.length) (hb : b < l.length), l[a].sh = l[b].sh → l[a].sh.size ≠ 0 → ¬ a < b := by
    intro a b ha hb e h0 hlt
    rcases (h b hb).2 with h1 | ⟨_, h1⟩
    · rw [← e] at h1; exact h0 h1
    · exact h1 l[a] (by rw [← List.getElem_take (h := by rw [List.length_take]; omega) (j := b)]; exact List.getElem_mem _) e
  have h1 := key hi hj e h0
  have h2 := key hj hi e.symm (by rw [← e]; exact h0)
  have : i = j := by omega
  subst this
  rfl
/-- What the reference's place tells, and what ShortLookup tells. -/
theorem looked_agree {l : List DefD} (h : AllOk l) (nm : ByteArray) {e : Ending} (hL : Looked l nm e) (h1 : ¬ 1 < nm.size) :
    (idxI (fun x => x.d.sh = nm ∧ nm.size ≠ 0) (l.map firstF) = -1 ∧ e = .returned (.tuple #[.string ⟨#[]⟩, .bool false, .bool false])) ∨
    ∃ (k : Nat) (hk : k < l.length), idxI (fun x => x.d.sh = nm ∧ nm.size ≠ 0) (l.map firstF) = (k : Int) ∧ e = .returned (.tuple #[.string l[k].nm, .bool true, .bool false]) := by
  rcases hL.2 h1 with ⟨rfl, hn⟩ | ⟨x, hx, hs, h0, rfl⟩
  · left
    refine ⟨idx_none fun y hy => ?_, rfl⟩
    obtain ⟨z, hz, rfl⟩ := List.mem_map.1 hy
    exact hn z hz
  · right
    rcases idx_or (fun x => x.d.sh = nm ∧ nm.size ≠ 0) (l.map firstF) with ⟨_, hn⟩ | ⟨k, hk, e1, h2, h3⟩
    · exact absurd ⟨hs, h0⟩ (hn (firstF x) (List.mem_map.2 ⟨x, hx, rfl⟩))
    · have hk' : k < l.length := by simpa using hk
      refine ⟨k, hk', e1, ?_⟩
      obtain ⟨i, hi, rfl⟩ := List.getElem_of_mem hx
      rw [List.getElem_map] at h2
      have h2' : l[k].sh = nm := h2
      have : l[i] = l[k] := short_same h hi hk' (by rw [hs, h2']) (by rw [hs]; exact h0)
      rw [this]

set_option maxRecDepth 100000 in
set_option maxHeartbeats 1600000 in
theorem fnNamesShort_law (v : Value) (l : List DefD) (nm : ByteArray) (w : World) (hv : Defs w v l) (hl : l.length ≤ maxLen) (hnm : nm.size ≤ maxLen) :
    Calls Try.prog 4 #[v, .string nm] w fun e w' => e = .returned (.bool true) ∧ Below w.heap.size w w' := by
  have C1 := Lib.hid (fits15_any v l w hv hl)
  unfold maxLen at hnm
  have HV := Lib.hid hv
  obtain ⟨a, cap, rfl, hcap⟩ := hv.len
  clear hv hcap
  by_cases hbig : 2147483647 < nm.size
  · have q : (2147483647 : Int) < (nm.size : Int) := by omega
    go_enter Try.func4, Try.ntmps4
    go_wp2_with fail
    refine C1.out.mono ?_
    rintro e w1 ⟨b, rfl, hb1, hsz⟩
    have HB1 := Lib.hid hb1
    clear hb1 hsz
    cases b
    all_goals
      go_wp2_with fail
      go_ret
      exact ⟨rfl, HB1.out⟩
  have q : ¬ (2147483647 : Int) < (nm.size : Int) := by omega
  go_enter Try.func4, Try.ntmps4
  go_wp2_with fail
  refine C1.out.mono ?_
  rintro e w1 ⟨b, rfl, hb1, hsz⟩
  have HB1 := Lib.hid hb1
  cases b with
  | false =>
    go_wp2_with fail
    go_ret
    exact ⟨rfl, HB1.out⟩
  | true =>
    have hsz := hsz rfl
    have C2 := Lib.hid (nameDefs_any _ l w1 (HV.out.later hb1) hsz.1 hsz.2)
    have C2b := Lib.hid (fun W => nameCut_any nm W (by omega))
    clear hb1 hsz C1
    go_wp2_with fail
    refine C2.out.mono ?_
    rintro e w2 ⟨rv, rfl, hd2, hb2⟩
    have HB2 : Hid (Below w.heap.size w w2) := Lib.hid (HB1.out.trans (hb2.mono HB1.out.size))
    have HD2 := Lib.hid hd2
    obtain ⟨a2, cap2, rfl, -⟩ := hd2.len
    have HS2 : Hid ((defsN l).length ≤ 16 ∧ ∀ x ∈ defsN l, (x.k = 0 ∨ x.k = 1) ∧ x.sh.size ≤ 60) := Lib.hid ⟨defsN_length l, defsN_small l⟩
    clear hd2 hb2 C2
    generalize defsN l = l2 at *
    go_wp2_with fail
    refine (C2b.out _).mono ?_
    rintro e w2' ⟨rfl, rfl⟩
    have hcut := cutN_size nm
    clear q C2b
    generalize cutN nm = nm2 at *
    have C3 := Lib.hid (nameNew_any _ l2 w2' HD2.out HS2.out.1 HS2.out.2)
    go_wp2_with fail
    refine C3.out.mono ?_
    rintro e w3 ⟨n, N, fv, rfl, hst, hns⟩
    have HB3 : Hid (Below w.heap.size w w3) := Lib.hid (HB2.out.trans (hns.bel.mono HB2.out.size))
    have HD3 := Lib.hid (HD2.out.later hns.bel)
    by_cases hn : n = l2.length
    case neg =>
      rw [decide_eq_false hn]
      clear hns hst C3
      go_wp2_with fail
      go_ret
      exact ⟨rfl, HB3.out⟩
    have hall : AllOk l2 := by
      have := hst.2.1
      rw [hn, List.take_length] at this
      exact this
    rw [decide_eq_true hn]
    have HNS : Hid (NSet w2' N fv false (.slice none 0 0) (l2.map firstF) w3) := Lib.hid (by
      have := hns
      rw [hn, List.take_length] at this
      exact this)
    have HALL := Lib.hid hall
    have C4 := Lib.hid (shortLookup_any _ l2 w3 nm2 HD3.out hall HS2.out.1 HS2.out.2 hcut)
    clear hns hst C3 hn hall
    go_wp2_with fail
    refine C4.out.mono ?_
    rintro e w4 ⟨hlk, hb4⟩
    have HB4 : Hid (Below w.heap.size w w4) := Lib.hid (HB3.out.trans (hb4.mono HB3.out.size))
    by_cases h1 : 1 < nm2.size
    · have q1 : (1 : Int) < (nm2.size : Int) := by omega
      obtain rfl := hlk.1 h1
      clear hb4 hlk C4
      go_wp2_with fail
      go_ret
      exact ⟨rfl, HB4.out⟩
    have q1 : ¬ (1 : Int) < (nm2.size : Int) := by omega
    have HD4 := HD3.out.later hb4
    have C5 := Lib.hid (short_any (HNS.out.later hb4) nm2 (by rw [List.length_map]; have := HS2.out.1; omega))
    rcases looked_agree HALL.out nm2 hlk h1 with ⟨e5, rfl⟩ | ⟨k, hk, e5, rfl⟩
    · rw [e5] at C5
      clear hb4 hlk C4 e5 HD4
      go_wp2_with fail
      refine C5.out.mono ?_
      rintro e w5 ⟨rfl, rfl⟩
      go_wp2_with fail
      go_ret
      exact ⟨rfl, HB4.out⟩
    · rw [e5] at C5
      obtain ⟨b, of, rfl, hd⟩ := HD4.at k hk
      have d0 := hd.1
      have q5 : (0 : Int) ≤ (k : Int) := by omega
      generalize l2[k].nm = t at *
      have q6 : (t.toList == t.toList) = true := by simp
      clear hb4 hlk C4 e5 HD4 hd
      go_wp2_with fail
      refine C5.out.mono ?_
      rintro e w5 ⟨rfl, rfl⟩
      go_wp2_with fail
      go_ret
      exact ⟨rfl, HB4.out⟩
end Go.Proofs.Ytojmhahdmlmglaa
