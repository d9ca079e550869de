/- The walks of zzIndex at a line feed, zzReplace of line feeds, wrap. -/
import Derived.Test.YtcpjdgbnfjdakaaFitA
import Derived.Test.YtcpjdgbnfjdakaaFitR
import Derived.Test.YtcpjdgbnfjdakaaFitP
namespace Go.Proofs.Ytcpjdgbnfjdakaa
open Go.RowKit
set_option linter.unusedVariables false
set_option linter.unusedSimpArgs false

theorem oneF_toList (s : ByteArray) (k : Nat) (h : k < s.size) : (s.extract k (k + 1)).toList = [s[k]] := by
  have h1 : (s.extract k (k + 1)).toList = (s.extract k (k + 1)).data.toList := ByteArray.toList_eq _
  rw [h1, ByteArray.data_extract]
  apply List.ext_getElem?
  intro i
  rw [Array.getElem?_toList, Array.getElem?_extract]
  have e : s.data.size = s.size := rfl
  by_cases hi : i = 0
  · subst hi
    rw [if_pos (by omega)]
    simp only [Nat.add_zero]
    rw [Array.getElem?_eq_getElem (by omega)]
    rfl
  · rw [if_neg (by omega)]
    rw [List.getElem?_eq_none (by simp; omega)]
/-- Where a text's first line feed is. -/
def FeedAt (s : ByteArray) (r : Int) : Prop := (r = -1 ∧ ∀ j (h : j < s.size), s[j] ≠ 10) ∨ ∃ (k : Nat) (h : k < s.size), r = k ∧ s[k] = 10 ∧ ∀ j (h : j < s.size), j < k → s[j] ≠ 10
set_option maxRecDepth 100000 in
theorem feedIndex_any (s : ByteArray) (hs : s.size ≤ 2147483647) (w : World) :
    Calls Try.prog 113 #[.string s, .string ⟨#[10]⟩] w fun e w' => (∃ r : Int, e = .returned (.int .i64 r) ∧ FeedAt s r) ∧ w' = w := by
  go_enter Try.func113, Try.ntmps113
  go_wp2_with fail
  go_loop [5] (fun i => ∃ k : Nat, k ≤ s.size ∧ i = .int .i64 k ∧ ∀ j (h : j < s.size), j < k → s[j] ≠ 10) (fun i => s.size - (intOf i).toNat)
  case atStart => exact ⟨0, Nat.zero_le _, rfl, fun j _ h => by omega⟩
  case round =>
    obtain ⟨k, hk, rfl, hh⟩ := hrel
    have HH := Lib.hid hh
    clear hh
    by_cases hlt : k < s.size
    · have ht := oneF_toList s k hlt
      by_cases hc : s[k] = 10
      · have e1 : ((s.extract k (k + 1)).toList == [10]) = true := by rw [ht, hc]; rfl
        have HC := Lib.hid hc
        clear ht hc
        go_wp2_with fail
        go_ret
        exact ⟨⟨_, rfl, .inr ⟨k, hlt, rfl, HC.out, HH.out⟩⟩, rfl⟩
      · have e1 : ((s.extract k (k + 1)).toList == [10]) = false := by
          rw [ht]
          simp [hc]
        have HN : Hid (∀ j (h : j < s.size), j < k + 1 → s[j] ≠ 10) := Lib.hid (fun j h hj => by
          by_cases e : j = k
          · subst e; exact hc
          · exact HH.out j h (by omega))
        clear ht hc
        go_wp2_with fail
        go_round
        case rel => exact ⟨k + 1, by omega, by go_num, HN.out⟩
        case measure => simp [intOf]; omega
    · go_wp2_with fail
      go_ret
      exact ⟨⟨_, rfl, .inl ⟨rfl, fun j h => HH.out j h (by omega)⟩⟩, rfl⟩

theorem data_split (s : ByteArray) (k : Nat) (h : k < s.size) : s.data.toList = (s.extract 0 k).data.toList ++ s[k] :: (s.extract (k + 1) s.size).data.toList := by
  have e : s.data.size = s.size := rfl
  rw [ByteArray.data_extract, ByteArray.data_extract, Array.toList_extract, Array.toList_extract]
  simp only [List.extract_eq_take_drop, List.drop_zero, Nat.sub_zero]
  have h1 : k < s.data.toList.length := by rw [Array.length_toList]; exact h
  have h2 : List.take (s.size - (k + 1)) (List.drop (k + 1) s.data.toList) = List.drop (k + 1) s.data.toList := List.take_of_length_le (by rw [List.length_drop, Array.length_toList]; omega)
  rw [h2]
  have h3 : s[k] = s.data.toList[k] := rfl
  rw [h3, ← List.drop_eq_getElem_cons h1, List.take_append_drop]
theorem noFeed_list {s : ByteArray} {k : Nat} (hk : k ≤ s.size) (h : ∀ j (h : j < s.size), j < k → s[j] ≠ 10) : ∀ b ∈ (s.extract 0 k).data.toList, b ≠ 10 := by
  intro b hb
  obtain ⟨j, hj, rfl⟩ := List.getElem_of_mem hb
  have hz : (s.extract 0 k).size = k := by rw [ByteArray.size_extract]; omega
  have hj' : j < (s.extract 0 k).size := by rw [Array.length_toList] at hj; exact hj
  have e : (s.extract 0 k).data.toList[j] = (s.extract 0 k)[j]'hj' := rfl
  rw [e, ByteArray.getElem_extract]
  simp only [Nat.zero_add]
  exact h j (by omega) (by omega)
theorem noFeed_all {s : ByteArray} (h : ∀ j (h : j < s.size), s[j] ≠ 10) : ∀ b ∈ s.data.toList, b ≠ 10 := by
  intro b hb
  obtain ⟨j, hj, rfl⟩ := List.getElem_of_mem hb
  have hj' : j < s.size := by rw [Array.length_toList] at hj; exact hj
  exact h j hj'
theorem data_append (a b : ByteArray) : (a ++ b).data.toList = a.data.toList ++ b.data.toList := by
  simp
/-- A string's size, of a value. -/
def szOf : Value → Nat
  | .string s => s.size
  | _ => 0
set_option maxRecDepth 100000 in
theorem replace_any (s rep : ByteArray) (hs : s.size ≤ 4096) (hr : rep.size ≤ 1025) (w : World) :
    Calls Try.prog 108 #[.string s, .string ⟨#[10]⟩, .string rep] w fun e w' => (∃ t : ByteArray, e = .returned (.string t) ∧ t.data.toList = repl rep.data.toList s.data.toList ∧ t.size ≤ 1025 * s.size) ∧ w' = w := by
  obtain ⟨R, hR⟩ : ∃ R, R = repl rep.data.toList s.data.toList := ⟨_, rfl⟩
  have C := Lib.hid (fun x (hx : x.size ≤ 2147483647) W => feedIndex_any x hx W)
  have HS := Lib.hid hs
  rw [← hR]
  go_enter Try.func108, Try.ntmps108
  go_wp2_with fail
  go_loop [0, 7] (fun a b => ∃ x o : ByteArray, a = .string x ∧ b = .string o ∧ Hid (o.data.toList ++ repl rep.data.toList x.data.toList = R) ∧ x.size ≤ 4096 ∧ o.size + 1025 * x.size ≤ 1025 * s.size) (fun a _ => szOf a)
  case atStart => exact ⟨s, ⟨#[]⟩, rfl, rfl, Lib.hid (by rw [hR]; rfl), HS.out, by show 0 + _ ≤ _; omega⟩
  case round =>
    obtain ⟨x, o, rfl, rfl, HX, hx, ho⟩ := hrel
    go_wp2_with fail
    refine (C.out x (by omega) _).mono ?_
    rintro e w1 ⟨⟨r, rfl, hf⟩, rfl⟩
    rcases hf with ⟨rfl, hn⟩ | ⟨k, hk, rfl, hk10, hb⟩
    · have hz : o.size + x.size ≤ 9223372036854775807 := by omega
      have HN := Lib.hid hn
      clear hn
      go_wp2_with fail
      go_ret
      refine ⟨⟨_, rfl, ?_, ?_⟩, rfl⟩
      · rw [data_append, ← HX.out, repl_none _ _ (noFeed_all HN.out)]
      · rw [ByteArray.size_append]; omega
    · have HK := Lib.hid (And.intro hk10 hb)
      have z1 : (x.extract 0 k).size = k := by rw [ByteArray.size_extract]; omega
      have z2 : (x.extract (k + 1) x.size).size = x.size - (k + 1) := by rw [ByteArray.size_extract]; omega
      have HL : Hid ((o ++ (x.extract 0 k ++ rep)).data.toList ++ repl rep.data.toList (x.extract (k + 1) x.size).data.toList = R) := Lib.hid (by
        rw [← HX.out, data_split x k hk, repl_append, repl_none _ _ (noFeed_list (by omega) HK.out.2), repl, if_pos HK.out.1, data_append, data_append]
        simp only [List.append_assoc])
      have hz1 : (x.extract 0 k).size + rep.size ≤ 9223372036854775807 := by omega
      have hz2 : o.size + ((x.extract 0 k).size + rep.size) ≤ 9223372036854775807 := by omega
      have hz3 : (o ++ (x.extract 0 k ++ rep)).size = o.size + (k + rep.size) := by rw [ByteArray.size_append, ByteArray.size_append, z1]
      have HZ := Lib.hid (And.intro z1 (And.intro z2 hz3))
      clear hk10 hb z1 z2 hz3
      go_wp2_with fail
      go_round
      case rel => exact ⟨_, _, rfl, rfl, HL, by have := HZ.out.2.1; omega, by rw [HZ.out.2.2, HZ.out.2.1]; omega⟩
      case measure =>
        have := HZ.out.2.1
        simp only [szOf]
        omega
end Go.Proofs.Ytcpjdgbnfjdakaa
