/- The reference's Natural and Whole of all texts, SignedNumeral. -/
import Derived.Test.YtlnnmionbflolaaDoorWo1j
import Derived.Test.YtlnnmionbflolaaDoorWo3
import Derived.Test.YtlnnmionbflolaaDoorSpecVj
namespace Go.Proofs.YtlnnmionbflolaaDoor
open Go.RowKit
set_option linter.unusedVariables false
set_option linter.unusedSimpArgs false

set_option maxRecDepth 100000 in
set_option maxHeartbeats 3200000 in
theorem naturalA_any (s : ByteArray) (hs : s.size ≤ 2147483647) (w : World) : Calls Tryd.prog 43 #[.string s, .int .i64 64, .bool true] w fun e w' => e = .returned (.tuple #[.int .u64 ((nAll 18446744073709551615 s.data.toList).1 : Nat), .int .i64 ((nAll 18446744073709551615 s.data.toList).2 : Nat)]) ∧ Below w.heap.size w w' := by
  have C1 := Lib.hid (without_any s hs w)
  obtain ⟨R, hR⟩ : ∃ R, R = nAll 18446744073709551615 s.data.toList := ⟨_, rfl⟩
  have HR := Lib.hid hR
  rw [← hR]
  clear hR
  go_enter Tryd.func43, Tryd.ntmps43
  go_wp2_with fail
  refine C1.out.mono ?_
  rintro e w2 ⟨hwo, hq⟩
  have HQ := Lib.hid hq
  clear hq C1
  rcases hwo with ⟨hok, t, rfl, ht⟩ | ⟨hok, rfl⟩
  · have HT := Lib.hid ht
    have htz : t.size ≤ 2147483647 := by
      have h1 : t.data.toList.length ≤ s.data.toList.length := by rw [ht]; exact List.length_filter_le _ _
      simp at h1
      have e1 : t.data.size = t.size := rfl
      have e2 : s.data.size = s.size := rfl
      omega
    have C2 := Lib.hid (fun W => prefixed_any t htz W)
    have HR2 : Hid (R = dres (pre29 t.data.toList).1 18446744073709551615 (pre29 t.data.toList).2) := Lib.hid (by rw [HR.out, nAll, if_pos hok, ht])
    clear ht HR hok
    go_wp2_with fail
    refine (C2.out _).mono ?_
    rintro e w' ⟨⟨u, B, rfl, hpre, hB, hts⟩, rfl⟩
    have HR3 : Hid (R = dres B 18446744073709551615 u.data.toList) := Lib.hid (by rw [HR2.out, hpre])
    have htb : u.size ≤ 2147483647 := by omega
    clear hpre C2 HR2
    rcases hB with rfl | rfl | rfl | ⟨rfl, g1, g2⟩
    · have C3 := Lib.hid (fun W => digits_2 u htb 18446744073709551615 (by decide) W)
      rw [← HR3.out] at C3
      go_wp2_with fail
      refine (C3.out _).mono ?_
      rintro e w' ⟨rfl, rfl⟩
      go_wp2_with fail
      go_ret2
      exact ⟨rfl, HQ.out⟩
    · have C3 := Lib.hid (fun W => digits_10 u htb 18446744073709551615 (by decide) W)
      rw [← HR3.out] at C3
      go_wp2_with fail
      refine (C3.out _).mono ?_
      rintro e w' ⟨rfl, rfl⟩
      go_wp2_with fail
      go_ret2
      exact ⟨rfl, HQ.out⟩
    · have C3 := Lib.hid (fun W => digits_16 u htb 18446744073709551615 (by decide) W)
      rw [← HR3.out] at C3
      go_wp2_with fail
      refine (C3.out _).mono ?_
      rintro e w' ⟨rfl, rfl⟩
      go_wp2_with fail
      go_ret2
      exact ⟨rfl, HQ.out⟩
    · have C3 := Lib.hid (fun W => digits_8 u htb 18446744073709551615 (by decide) W)
      rw [← HR3.out] at C3
      go_wp2_with fail
      refine (C3.out _).mono ?_
      rintro e w' ⟨rfl, rfl⟩
      go_wp2_with fail
      go_ret2
      exact ⟨rfl, HQ.out⟩
  · have HF : Hid (R = (0, 2)) := Lib.hid (by rw [HR.out, nAll, hok]; rfl)
    clear HR hok
    go_wp2_with fail
    go_ret2
    rw [HF.out]
    exact ⟨rfl, HQ.out⟩
end Go.Proofs.YtlnnmionbflolaaDoor
