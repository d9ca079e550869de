/- The law FnNamesDefined. -/
import Derived.Test.YtojmhahdmlmglaaNDefine
namespace Go.Proofs.Ytojmhahdmlmglaa
open Go.RowKit
set_option linter.unusedVariables false
set_option linter.unusedSimpArgs false

theorem defsN_length (l : List DefD) : (defsN l).length ≤ 16 := by
  unfold defsN
  rw [List.length_map, List.length_take]
  omega
theorem defsN_small (l : List DefD) : ∀ x ∈ defsN l, (x.k = 0 ∨ x.k = 1) ∧ x.sh.size ≤ 60 := by
  intro x hx
  obtain ⟨y, _, rfl⟩ := List.mem_map.1 hx
  exact ⟨kindN_or _, cutN_size _⟩

set_option maxRecDepth 100000 in
theorem fnNamesDefined_law (v : Value) (l : List DefD) (w : World) (hv : Defs w v l) (hl : l.length ≤ maxLen) :
    Calls Try.prog 3 #[v] w fun e w' => e = .returned (.bool true) ∧ Below w.heap.size w w' := by
  have C1 := Lib.hid (fits15_any v l w hv hl)
  have HV := Lib.hid hv
  obtain ⟨a, cap, rfl, hcap⟩ := hv.len
  clear hv hcap
  go_enter Try.func3, Try.ntmps3
  go_wp2_with fail
  refine C1.out.mono ?_
  rintro e w1 ⟨b, rfl, hb1, hsz⟩
  have HB1 := Lib.hid hb1
  cases b with
  | false =>
    go_wp2_with fail
    go_ret
    exact ⟨rfl, HB1.out⟩
  | true =>
    have hsz := hsz rfl
    have C2 := Lib.hid (nameDefs_any _ l w1 (HV.out.later hb1) hsz.1 hsz.2)
    clear hb1 hsz C1
    go_wp2_with fail
    refine C2.out.mono ?_
    rintro e w2 ⟨rv, rfl, hd2, hb2⟩
    have HB2 : Hid (Below w.heap.size w w2) := Lib.hid (HB1.out.trans (hb2.mono HB1.out.size))
    have HD2 := Lib.hid hd2
    obtain ⟨a2, cap2, rfl, -⟩ := hd2.len
    have C3 := Lib.hid (defined_any _ _ w2 hd2 (defsN_length l) (defsN_small l))
    have HS2 : Hid ((defsN l).length ≤ 16 ∧ ∀ x ∈ defsN l, (x.k = 0 ∨ x.k = 1) ∧ x.sh.size ≤ 60) := Lib.hid ⟨defsN_length l, defsN_small l⟩
    clear hd2 hb2 C2
    generalize defsN l = l2 at *
    go_wp2_with fail
    refine C3.out.mono ?_
    rintro e w3 ⟨n, rfl, hst, hb3⟩
    have HST := Lib.hid hst
    have HB3 := Lib.hid hb3
    have HN4 : Hid (NSet w3 w3.heap.size (.slice none 0 0) false (.slice none 0 0) [] (w3.alloc (.cells #[.slice none 0 0, .bool false, .slice none 0 0, .slice none 0 0] 31))) := Lib.hid ⟨(Below.refl _ _).alloc (Nat.le_refl _) _, heap_at _ _ _ rfl, World.ownsRow_nil _ _ _ _, Nat.le_refl _⟩
    have C4 := Lib.hid (defineS_any HN4.out (.slice a2 l2.length cap2) l2 (HD2.out.later hb3) HS2.out.1 HS2.out.2)
    clear hst hb3 C3
    go_wp2_with fail
    refine C4.out.mono ?_
    rintro e w5 ⟨m, rfl, hst5, fv5, hn5⟩
    obtain rfl := hst5.unique HST.out
    have HB5 : Hid (Below w.heap.size w w5) := Lib.hid ((HB2.out.trans (HB3.out.mono HB2.out.size)).trans (hn5.bel.mono (HB2.out.trans (HB3.out.mono HB2.out.size)).size))
    clear hst5 hn5 C4
    go_wp2_with fail
    go_ret
    exact ⟨by simp, HB5.out⟩
end Go.Proofs.Ytojmhahdmlmglaa
