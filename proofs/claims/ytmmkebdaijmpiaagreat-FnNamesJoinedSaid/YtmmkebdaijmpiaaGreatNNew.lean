/- laws.nameNew. -/
import Derived.Test.YtmmkebdaijmpiaaGreatNDefine
namespace Go.Proofs.YtmmkebdaijmpiaaGreat
open Go.RowKit
set_option linter.unusedVariables false
set_option linter.unusedSimpArgs false

theorem defsN_length (l : List DefD) : (defsN l).length ≤ 16 := by
  unfold defsN
  rw [List.length_map, List.length_take]
  omega
theorem defsN_small (l : List DefD) : ∀ x ∈ defsN l, (x.k = 0 ∨ x.k = 1) ∧ x.sh.size ≤ 60 := by
  intro x hx
  obtain ⟨y, _, rfl⟩ := List.mem_map.1 hx
  exact ⟨kindN_or _, cutN_size _⟩

set_option maxRecDepth 100000 in
theorem nameNew_any (v : Value) (l : List DefD) (w : World) (hv : Defs w v l) (hl : l.length ≤ 16) (hx : ∀ x ∈ l, (x.k = 0 ∨ x.k = 1) ∧ x.sh.size ≤ 60) :
    Calls Tryz.prog 8 #[.slice none 0 0, v] w fun e w' => ∃ (n N : Nat) (fv : Value), e = .returned (.tuple #[.pointer (some ⟨N, 0, none⟩), .bool (decide (n = l.length))]) ∧ Stops l n ∧ NSet w N fv false (.slice none 0 0) ((l.take n).map firstF) w' := by
  have HN4 : Hid (NSet w w.heap.size (.slice none 0 0) false (.slice none 0 0) [] (w.alloc (.cells #[.slice none 0 0, .bool false, .slice none 0 0, .slice none 0 0] 41))) := Lib.hid ⟨(Below.refl _ _).alloc (Nat.le_refl _) _, heap_at _ _ _ rfl, World.ownsRow_nil _ _ _ _, Nat.le_refl _⟩
  have C4 := Lib.hid (defineS_any HN4.out v l hv hl hx)
  obtain ⟨a, cap, rfl, hcap⟩ := hv.len
  clear hv hx hcap
  go_enter Tryz.func8, Tryz.ntmps8
  go_wp2_with fail
  refine C4.out.mono ?_
  rintro e w5 ⟨m, rfl, hst5, fv5, hn5⟩
  have HST := Lib.hid hst5
  have HN := Lib.hid hn5
  clear hst5 hn5 C4
  have hb : ((m : Int) == (l.length : Int)) = decide (m = l.length) := by
    by_cases h : m = l.length
    · simp [h]
    · have : ¬ (m : Int) = (l.length : Int) := by omega
      simp [h, this]
  obtain ⟨b, hbb⟩ : ∃ b, decide (m = l.length) = b := ⟨_, rfl⟩
  rw [hbb] at hb
  have HBB := Lib.hid hbb
  clear hbb
  go_wp2_with fail
  go_ret2
  exact ⟨m, _, fv5, by rw [HBB.out, ← hb]; rfl, HST.out, HN.out⟩

end Go.Proofs.YtmmkebdaijmpiaaGreat
