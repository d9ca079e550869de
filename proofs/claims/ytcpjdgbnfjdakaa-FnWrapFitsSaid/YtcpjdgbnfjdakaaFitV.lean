/- The walk of wrap, and of impl.Wrap. -/
import Derived.Test.YtcpjdgbnfjdakaaFitW
namespace Go.Proofs.Ytcpjdgbnfjdakaa
open Go.RowKit
set_option linter.unusedVariables false
set_option linter.unusedSimpArgs false

theorem empty_yes {x : ByteArray} (h : x.size = 0) : (x.toList == []) = true := by
  have : x = ⟨#[]⟩ := by
    apply ByteArray.ext
    exact Array.eq_empty_of_size_eq_zero h
  subst this
  rw [ByteArray.toList_eq]
  rfl
theorem empty_no {x : ByteArray} (h : x.size ≠ 0) : (x.toList == []) = false := by
  rw [beq_eq_false_iff_ne]
  intro e
  have h1 : x.toList.length = x.size := by rw [ByteArray.toList_eq, Array.length_toList]; rfl
  rw [e] at h1
  exact h h1.symm
theorem feed_pad (i : Nat) : ((⟨#[10]⟩ : ByteArray) ++ spaces i).data.toList = pad i := by
  rw [data_append]
  show [10] ++ ((List.replicate i (32 : UInt8)).toArray).toList = _
  rw [List.toList_toArray]
  rfl
theorem feed_size (i : Nat) : ((⟨#[10]⟩ : ByteArray) ++ spaces i).size = i + 1 := by
  rw [ByteArray.size_append, spaces_size]
  show 1 + i = _
  omega
theorem belowAfter {a b c : World} (h : Below a.heap.size a b) (k : Below b.heap.size b c) : Below a.heap.size a c := h.trans (k.mono h.size)
/-- What wrap hands back. -/
def WrapIs (n i : Nat) (s : ByteArray) (e : Ending) : Prop := ∃ t : ByteArray, e = .returned (.string t) ∧ t.data.toList = wrapF n i s ∧ t.size ≤ 5000000
set_option maxRecDepth 100000 in
set_option maxHeartbeats 800000 in
theorem wrap_any (W : Int) (i n : Nat) (s : ByteArray) (hW : W = n + 5 + i) (hi : i ≤ 1024) (hn : 19 ≤ n) (hn2 : n ≤ 1048576) (hs : s.size ≤ 4096) (w : World) :
    Calls Try.prog 101 #[.int .i64 i, .int .i64 W, .string s] w fun e w' => WrapIs n i s e ∧ Below w.heap.size w w' := by
  have hsub : W - (i : Int) = (n : Int) + 5 := by omega
  have hW0 : ¬ W = 0 := by omega
  have hW1 : (W == 0) = false := by rw [beq_eq_false_iff_ne]; exact hW0
  have h24 : ¬ ((n : Int) + 5 < 24) := by omega
  have h24' : decide ((n : Int) + 5 < 24) = false := decide_eq_false h24
  have CN : Hid (∀ (x : ByteArray), x.size ≤ 4096 → ∀ W, Calls Try.prog 110 #[.int .i64 n, .int .i64 5, .string x] W fun e w' => e = .returned (.tuple #[.string (wrapNF n 5 x).1, .string (wrapNF n 5 x).2]) ∧ Drawn W w') := Lib.hid (fun x hx W => wrapN_any n 5 x W hn2 (by omega) (by omega))
  have CR := Lib.hid (fun W => repeat_any i hi W)
  have CX := Lib.hid (fun x (hx : x.size ≤ 4096) W => replace_any x (⟨#[10]⟩ ++ spaces i) hx (by rw [feed_size]; omega) W)
  have SZ := Lib.hid (wrapNF_sizes n)
  have HS := Lib.hid hs
  have hf1 : (⟨#[10]⟩ : ByteArray).size + (spaces i).size ≤ 9223372036854775807 := by rw [spaces_size]; show 1 + i ≤ _; omega
  have hz0 := SZ.out s
  have h1s : (wrapNF n 5 s).1.size ≤ 4096 := by omega
  have h2s : (wrapNF n 5 s).2.size ≤ 4096 := by omega
  obtain ⟨l1, hl1⟩ : ∃ l1, l1 = (wrapNF n 5 s).1 := ⟨_, rfl⟩
  obtain ⟨s1, hs1⟩ : ∃ s1, s1 = (wrapNF n 5 s).2 := ⟨_, rfl⟩
  rw [← hl1, ← hs1] at hz0
  rw [← hl1] at h1s
  rw [← hs1] at h2s
  have HL := Lib.hid (And.intro hl1 hs1)
  have H12 := Lib.hid (And.intro h1s (And.intro h2s hz0))
  have hW2 : -9223372036854775808 ≤ W ∧ W ≤ 9223372036854775807 := by omega
  clear hW hs hz0 h1s h2s hl1 hs1
  go_enter Try.func101, Try.ntmps101
  go_wp2_with fail
  refine (CN.out s HS.out _).mono ?_
  rintro e w1 ⟨rfl, n1, rfl⟩
  rw [← HL.out.1, ← HL.out.2]
  go_wp2_with fail
  refine (CR.out _).mono ?_
  rintro e w2 ⟨rfl, hb2⟩
  have HB2 := Lib.hid (belowAfter (Below.drewN' (n := n1) (Below.refl w.heap.size w)) hb2)
  clear hb2
  go_wp2_with fail
  refine (CX.out l1 H12.out.1 _).mono ?_
  rintro e w3 ⟨⟨t1, rfl, ht1, hz1⟩, rfl⟩
  have HT1 := Lib.hid (And.intro ht1 hz1)
  clear ht1 hz1
  have hr1 : (⟨#[]⟩ : ByteArray).size + t1.size ≤ 9223372036854775807 := by
    have q1 := HT1.out.2
    have q2 := H12.out.1
    show 0 + t1.size ≤ _
    omega
  obtain ⟨R, hR⟩ : ∃ R, R = wrapF n i s := ⟨_, rfl⟩
  have HT1R : Hid ((⟨#[]⟩ ++ t1 : ByteArray).data.toList ++ loopF n i s.size s1 = R) := Lib.hid (by rw [hR, wrapF, data_append, HT1.out.1, feed_pad, HL.out.1, HL.out.2]; rfl)
  have HRR := Lib.hid hR
  clear hR
  go_wp2_with fail
  go_loopw [2, 8, 11] (fun a b _ wr => Below w.heap.size w wr ∧ ∃ (x r : ByteArray) (k : Nat), a = .string x ∧ b = .string r ∧ x.size ≤ k ∧ x.size ≤ 4096 ∧ Hid (r.data.toList ++ loopF n i k x = R) ∧ (x.size = 0 → r.size ≤ 4300000) ∧ (x.size ≠ 0 → r.size + 1025 * x.size ≤ 4198400)) (fun a _ _ _ => szOf a)
  case atStart =>
    refine ⟨HB2.out, s1, _, s.size, rfl, rfl, ?_, H12.out.2.1, HT1R, ?_, ?_⟩
    · have q := H12.out.2.2; omega
    · intro _
      have q1 := HT1.out.2
      have q2 := H12.out.1
      rw [ByteArray.size_append]
      show 0 + t1.size ≤ _
      omega
    · intro _
      have q1 := HT1.out.2
      have q2 := H12.out.2.2
      have q3 := HS.out
      rw [ByteArray.size_append]
      show 0 + t1.size + _ ≤ _
      omega
  case round =>
    obtain ⟨hbr, x, r, k, rfl, rfl, hk, hx, HX, hr0, hr1x⟩ := hrel
    have HBR := Lib.hid hbr
    have HRS := Lib.hid (And.intro hr0 hr1x)
    clear hbr hr0 hr1x
    by_cases hx0 : x.size = 0
    · have he : (x.toList == []) = true := empty_yes hx0
      have HK0 := Lib.hid hx0
      clear hx0 hx
      go_wp2_with fail
      go_ret
      refine ⟨⟨_, rfl, ?_, ?_⟩, HBR.out⟩
      · rw [← HRR.out, ← HX.out]
        cases k with
        | zero => simp [loopF]
        | succ k => rw [loopF, if_pos HK0.out, List.append_nil]
      · have := HRS.out.1 HK0.out; omega
    · have he : (x.toList == []) = false := empty_no hx0
      have HK0 := Lib.hid hx0
      have HXS := Lib.hid hx
      have HKK := Lib.hid hk
      clear hx0 hx hk
      have hq0 := SZ.out x
      obtain ⟨l2, hl2⟩ : ∃ l2, l2 = (wrapNF n 5 x).1 := ⟨_, rfl⟩
      obtain ⟨s2, hs2⟩ : ∃ s2, s2 = (wrapNF n 5 x).2 := ⟨_, rfl⟩
      rw [← hl2, ← hs2] at hq0
      have HL2 := Lib.hid (And.intro hl2 hs2)
      have HQ := Lib.hid hq0
      clear hq0 hl2 hs2
      go_wp2_with fail
      refine (CN.out x HXS.out _).mono ?_
      rintro e w4 ⟨rfl, n4, rfl⟩
      rw [← HL2.out.1, ← HL2.out.2]
      have hp1 : r.size + (⟨#[10]⟩ : ByteArray).size ≤ 9223372036854775807 := by
        have q1 := HRS.out.2 HK0.out
        show r.size + 1 ≤ _
        omega
      go_wp2_with fail
      refine (CR.out _).mono ?_
      rintro e w5 ⟨rfl, hb5⟩
      have HB5 := Lib.hid (belowAfter (Below.drewN' (n := n4) HBR.out) (show Below _ _ w5 from hb5))
      clear hb5
      have hp2 : (r ++ ⟨#[10]⟩ : ByteArray).size + (spaces i).size ≤ 9223372036854775807 := by
        have q1 := HRS.out.2 HK0.out
        rw [ByteArray.size_append, spaces_size]
        show r.size + 1 + i ≤ _
        omega
      go_wp2_with fail
      refine (CR.out _).mono ?_
      rintro e w6 ⟨rfl, hb6⟩
      have HB6 := Lib.hid (belowAfter HB5.out hb6)
      clear hb6
      go_wp2_with fail
      have HL2S : Hid (l2.size ≤ 4096) := Lib.hid (by have q := HQ.out; have q2 := HXS.out; omega)
      refine (CX.out l2 HL2S.out _).mono ?_
      rintro e w7 ⟨⟨t2, rfl, ht2, hz2⟩, rfl⟩
      have HT2 := Lib.hid (And.intro ht2 hz2)
      clear ht2 hz2
      have HRZ : Hid ((r ++ ⟨#[10]⟩ ++ spaces i ++ t2 : ByteArray).size = r.size + 1 + i + t2.size) := Lib.hid (by
        rw [ByteArray.size_append, ByteArray.size_append, ByteArray.size_append, spaces_size]
        rfl)
      have hp3 : (r ++ ⟨#[10]⟩ ++ spaces i : ByteArray).size + t2.size ≤ 9223372036854775807 := by
        have q1 := HRS.out.2 HK0.out
        have q2 := HT2.out.2
        have q3 := HL2S.out
        rw [ByteArray.size_append, ByteArray.size_append, spaces_size]
        show r.size + 1 + i + t2.size ≤ _
        omega
      have HN : Hid ((r ++ ⟨#[10]⟩ ++ spaces i ++ t2 : ByteArray).data.toList ++ loopF n i (k - 1) s2 = R) := Lib.hid (by
        rw [← HX.out]
        obtain ⟨k', rfl⟩ : ∃ k', k = k' + 1 := ⟨k - 1, by have := HKK.out; have := HK0.out; omega⟩
        have q := feed_pad i
        rw [data_append] at q
        rw [loopF, if_neg HK0.out, data_append, data_append, data_append, HT2.out.1, feed_pad, HL2.out.1, HL2.out.2, ← q]
        simp only [List.append_assoc, Nat.add_sub_cancel])
      go_wp2_with fail
      go_roundw
      case rel =>
        refine ⟨HB6.out, s2, _, k - 1, rfl, rfl, ?_, ?_, HN, ?_, ?_⟩
        · have q1 := HQ.out; have q2 := HKK.out; have q3 := HK0.out; omega
        · have q1 := HQ.out; have q2 := HXS.out; omega
        · intro _
          have q1 := HRS.out.2 HK0.out
          have q2 := HT2.out.2
          have q3 := HQ.out
          rw [HRZ.out]
          omega
        · intro h0
          have q1 := HRS.out.2 HK0.out
          have q2 := HT2.out.2
          have q3 := HQ.out
          rw [HRZ.out]
          omega
      case measure =>
        have q1 := HQ.out
        have q2 := HK0.out
        simp only [szOf]
        omega

set_option maxRecDepth 100000 in
theorem zzWrap_any (W : Int) (i n : Nat) (s : ByteArray) (hW : W = n + 5 + i) (hi : i ≤ 1024) (hn : 19 ≤ n) (hn2 : n ≤ 1048576) (hs : s.size ≤ 4096) (w : World) :
    Calls Try.prog 74 #[.int .i64 i, .int .i64 W, .string s] w fun e w' => WrapIs n i s e ∧ Below w.heap.size w w' := by
  have C := Lib.hid (wrap_any W i n s hW hi hn hn2 hs w)
  clear hW hi hn hn2 hs
  go_enter Try.func74, Try.ntmps74
  go_wp2_with fail
  refine C.out.mono ?_
  rintro e w1 ⟨⟨t, rfl, ht⟩, hb⟩
  have H := Lib.hid (And.intro ht hb)
  clear ht hb
  go_wp2_with fail
  go_ret
  exact ⟨⟨_, rfl, H.out.1⟩, H.out.2⟩
set_option maxRecDepth 100000 in
theorem wrap_closure (W : Int) (i n : Nat) (s x : ByteArray) (w : World) (b0 b1 b2 b3 : Nat) (hW : W = n + 5 + i) (hi : i ≤ 1024) (hn : 19 ≤ n) (hn2 : n ≤ 1048576) (hs : s.size ≤ 4096)
    (h0 : w.heap[b0]? = some (.cells #[.int .i64 i] 3 (0, 0))) (h1 : w.heap[b1]? = some (.cells #[.int .i64 W] 3 (0, 0))) (h2 : w.heap[b2]? = some (.cells #[.string s] 9 (0, 0))) (h3 : w.heap[b3]? = some (.cells #[.string x] 9 (0, 0))) :
    Calls Try.prog 73 #[.pointer (some ⟨b0, 0, none⟩), .pointer (some ⟨b1, 0, none⟩), .pointer (some ⟨b2, 0, none⟩), .pointer (some ⟨b3, 0, none⟩)] w fun e w' => e = .returned (.tuple #[]) ∧
      ∃ t w1, Below w.heap.size w w1 ∧ (t.data.toList = wrapF n i s ∧ t.size ≤ 5000000) ∧ w' = w1.setCell ⟨b3, 0, none⟩ (.string t) := by
  have c0 := cell_of_one h0
  have c1 := cell_of_one h1
  have c2 := cell_of_one h2
  have C := Lib.hid (zzWrap_any W i n s hW hi hn hn2 hs w)
  have H3 := Lib.hid h3
  clear h0 h1 h2 h3 hW hi hn hn2 hs
  go_enter Try.func73, Try.ntmps73
  go_wp2_with fail
  refine C.out.mono ?_
  rintro e w1 ⟨⟨t, rfl, ht⟩, hb⟩
  have e3 := (hb.block _ (lt_of_block H3.out)).trans H3.out
  have q1 := cell_of_one e3
  have q2 := free_of_one e3
  have H := Lib.hid (And.intro ht hb)
  clear ht hb e3 c0 c1 c2
  go_wp2_with fail
  go_end0
  exact ⟨rfl, _, _, H.out.2, H.out.1, rfl⟩
end Go.Proofs.Ytcpjdgbnfjdakaa
