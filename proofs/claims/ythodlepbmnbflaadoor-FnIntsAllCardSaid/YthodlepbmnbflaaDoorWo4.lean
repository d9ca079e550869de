/- The reference's Natural and Whole of all texts, SignedNumeral. -/
import Derived.Test.YthodlepbmnbflaaDoorWo1
import Derived.Test.YthodlepbmnbflaaDoorWo3
import Derived.Test.YthodlepbmnbflaaDoorSpecV
import Derived.Test.YthodlepbmnbflaaDoorPubI
namespace Go.Proofs.YthodlepbmnbflaaDoor
open Go.RowKit
set_option linter.unusedVariables false
set_option linter.unusedSimpArgs false

set_option maxRecDepth 100000 in
set_option maxHeartbeats 3200000 in
theorem naturalA_any (s : ByteArray) (hs : s.size ≤ 2147483647) (w : World) : Calls Tryd.prog 10 #[.string s, .int .i64 64, .bool true] w fun e w' => e = .returned (.tuple #[.int .u64 ((nAll 18446744073709551615 s.data.toList).1 : Nat), .int .i64 ((nAll 18446744073709551615 s.data.toList).2 : Nat)]) ∧ Below w.heap.size w w' := by
  have C1 := Lib.hid (without_any s hs w)
  obtain ⟨R, hR⟩ : ∃ R, R = nAll 18446744073709551615 s.data.toList := ⟨_, rfl⟩
  have HR := Lib.hid hR
  rw [← hR]
  clear hR
  go_enter Tryd.func10, Tryd.ntmps10
  go_wp2_with fail
  refine C1.out.mono ?_
  rintro e w2 ⟨hwo, hq⟩
  have HQ := Lib.hid hq
  clear hq C1
  rcases hwo with ⟨hok, t, rfl, ht⟩ | ⟨hok, rfl⟩
  · have HT := Lib.hid ht
    have htz : t.size ≤ 2147483647 := by
      have h1 : t.data.toList.length ≤ s.data.toList.length := by rw [ht]; exact List.length_filter_le _ _
      simp at h1
      have e1 : t.data.size = t.size := rfl
      have e2 : s.data.size = s.size := rfl
      omega
    have C2 := Lib.hid (fun W => prefixed_any t htz W)
    have HR2 : Hid (R = dres (pre29 t.data.toList).1 18446744073709551615 (pre29 t.data.toList).2) := Lib.hid (by rw [HR.out, nAll, if_pos hok, ht])
    clear ht HR hok
    go_wp2_with fail
    refine (C2.out _).mono ?_
    rintro e w' ⟨⟨u, B, rfl, hpre, hB, hts⟩, rfl⟩
    have HR3 : Hid (R = dres B 18446744073709551615 u.data.toList) := Lib.hid (by rw [HR2.out, hpre])
    have htb : u.size ≤ 2147483647 := by omega
    clear hpre C2 HR2
    rcases hB with rfl | rfl | rfl | ⟨rfl, g1, g2⟩
    · have C3 := Lib.hid (fun W => digits_2 u htb 18446744073709551615 (by decide) W)
      rw [← HR3.out] at C3
      go_wp2_with fail
      refine (C3.out _).mono ?_
      rintro e w' ⟨rfl, rfl⟩
      go_wp2_with fail
      go_ret2
      exact ⟨rfl, HQ.out⟩
    · have C3 := Lib.hid (fun W => digits_10 u htb 18446744073709551615 (by decide) W)
      rw [← HR3.out] at C3
      go_wp2_with fail
      refine (C3.out _).mono ?_
      rintro e w' ⟨rfl, rfl⟩
      go_wp2_with fail
      go_ret2
      exact ⟨rfl, HQ.out⟩
    · have C3 := Lib.hid (fun W => digits_16 u htb 18446744073709551615 (by decide) W)
      rw [← HR3.out] at C3
      go_wp2_with fail
      refine (C3.out _).mono ?_
      rintro e w' ⟨rfl, rfl⟩
      go_wp2_with fail
      go_ret2
      exact ⟨rfl, HQ.out⟩
    · have C3 := Lib.hid (fun W => digits_8 u htb 18446744073709551615 (by decide) W)
      rw [← HR3.out] at C3
      go_wp2_with fail
      refine (C3.out _).mono ?_
      rintro e w' ⟨rfl, rfl⟩
      go_wp2_with fail
      go_ret2
      exact ⟨rfl, HQ.out⟩
  · have HF : Hid (R = (0, 2)) := Lib.hid (by rw [HR.out, nAll, hok]; rfl)
    clear HR hok
    go_wp2_with fail
    go_ret2
    rw [HF.out]
    exact ⟨rfl, HQ.out⟩

set_option maxRecDepth 100000 in
theorem signed_any (n : Int) (h0 : -9223372036854775808 ≤ n) (h1 : n ≤ 9223372036854775807) (w : World) :
    Calls Tryd.prog 32 #[.int .i64 n] w fun e w' => e = .returned (.string (numI n)) ∧ Below w.heap.size w w' := by
  by_cases hn : n < 0
  · obtain ⟨m, hm⟩ : ∃ m : Nat, m = n.natAbs := ⟨_, rfl⟩
    have C := Lib.hid (numeral_any m (by omega) w)
    have HE : Hid (numI n = (⟨#[45]⟩ : ByteArray) ++ numS m) := Lib.hid (by
      rw [numI, Lib.itoa, if_pos hn, ← hm, numS]
      apply ByteArray.ext
      simp)
    have HL := Lib.hid (numS_len (u := m) (by omega))
    have hwr : IntKind.u64.wrap (-IntKind.u64.wrap n) = (m : Nat) := by
      rw [IntKind.wrap_u64, IntKind.wrap_u64]
      omega
    generalize numS m = tx at *
    obtain ⟨mi, hmi⟩ : ∃ mi : Int, mi = (m : Nat) := ⟨_, rfl⟩
    rw [← hmi] at hwr C
    have hsz : tx.size ≤ 20 := HL.out
    clear hm hmi HL
    go_enter Tryd.func32, Tryd.ntmps32
    go_wp2_with fail
    refine C.out.mono ?_
    rintro e w2 ⟨rfl, hb⟩
    have HB := Lib.hid hb
    clear hb
    go_wp2_with fail
    go_ret
    rw [HE.out]
    exact ⟨rfl, HB.out⟩
  · obtain ⟨m, hm⟩ : ∃ m : Nat, m = n.toNat := ⟨_, rfl⟩
    have C := Lib.hid (numeral_any m (by omega) w)
    have HE : Hid (numI n = numS m) := Lib.hid (by rw [numI, Lib.itoa, if_neg hn, ← hm, numS])
    have e : (m : Int) = n := by omega
    rw [e] at C
    have n0 : 0 ≤ n := by omega
    rw [HE.out]
    generalize numS m = tx at *
    clear hm e hn HE
    go_enter Tryd.func32, Tryd.ntmps32
    go_wp2_with fail
    refine C.out.mono ?_
    rintro e w2 ⟨rfl, hb⟩
    have HB := Lib.hid hb
    clear hb
    go_wp2_with fail
    go_ret
    exact ⟨rfl, HB.out⟩
end Go.Proofs.YthodlepbmnbflaaDoor
