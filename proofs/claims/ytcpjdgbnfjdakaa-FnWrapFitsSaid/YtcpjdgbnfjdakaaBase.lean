/- Readings of slices of texts, and of slices of such; what holds of them in a later world. -/
import Derived.Test.YtcpjdgbnfjdakaaGuard
namespace Go.Proofs.Ytcpjdgbnfjdakaa
open Go.RowKit
set_option linter.unusedVariables false
set_option linter.unusedSimpArgs false

/-- A slice value reads as these texts. -/
def Strs (w : World) (v : Value) (l : List ByteArray) : Prop :=
  ∃ a cap, v = .slice a l.length cap ∧ (l = [] ∨ ∃ b off cs ty fz, a = some ⟨b, off, none⟩ ∧ w.heap[b]? = some (.cells cs ty fz) ∧ ∀ i (h : i < l.length), cs[off + i]? = some (.string l[i]))

theorem Strs.cell {w : World} {a : Option Addr} {n cap : Nat} {l : List ByteArray} (h : Strs w (.slice a n cap) l) (hl : 0 < l.length) :
    ∃ b off, a = some ⟨b, off, none⟩ ∧ ∀ i (h : i < l.length), w.cell? ⟨b, off + i, none⟩ = some (.string l[i]) := by
  obtain ⟨a', cap', e, h⟩ := h
  rcases h with h | ⟨b, off, cs, ty, fz, rfl, hb, hc⟩
  · subst h; simp at hl
  · cases e
    exact ⟨b, off, rfl, fun i hi => by simp [World.cell?, hb, hc i hi]⟩

theorem Strs.len {w : World} {v : Value} {l : List ByteArray} (h : Strs w v l) : ∃ a cap, v = .slice a l.length cap := by
  obtain ⟨a', cap', e, h⟩ := h
  exact ⟨a', cap', e⟩

theorem Strs.nil (w : World) (a : Option Addr) (cap : Nat) : Strs w (.slice a 0 cap) [] := ⟨a, cap, rfl, .inl rfl⟩

/-- It reads so in every world whose old blocks are what they were. -/
theorem Strs.later {w w' : World} {v : Value} {l : List ByteArray} (h : Strs w v l) (hk : ∀ b, b < w.heap.size → w'.heap[b]? = w.heap[b]?) : Strs w' v l := by
  obtain ⟨a, cap, e, h⟩ := h
  refine ⟨a, cap, e, ?_⟩
  rcases h with h | ⟨b, off, cs, ty, fz, ha, hb, hc⟩
  · exact .inl h
  · exact .inr ⟨b, off, cs, ty, fz, ha, (hk b (lt_of_block hb)).trans hb, hc⟩

theorem Strs.below {w w' : World} {v : Value} {l : List ByteArray} (h : Strs w v l) (hb : Below w.heap.size w w') : Strs w' v l := h.later hb.block
theorem Strs.drewN {w : World} {v : Value} {l : List ByteArray} (h : Strs w v l) (n : Nat) : Strs (w.drewN n) v l := h
theorem Strs.alloc {w : World} {v : Value} {l : List ByteArray} (h : Strs w v l) (o : Obj) : Strs (w.alloc o) v l := h.later fun b hb => heap_past w o b hb

/-- A slice value reads as rows of texts. -/
def StrRows (w : World) (v : Value) (ls : List (List ByteArray)) : Prop :=
  ∃ a cap, v = .slice a ls.length cap ∧ (ls = [] ∨ ∃ b off cs ty fz, a = some ⟨b, off, none⟩ ∧ w.heap[b]? = some (.cells cs ty fz) ∧ ∀ i (h : i < ls.length), ∃ r, cs[off + i]? = some r ∧ Strs w r ls[i])

theorem Strs.made {w : World} {b : Nat} {ty : TypeId} {fz : Nat × Nat} (l : List ByteArray) (cap : Nat) (h : w.heap[b]? = some (.cells (l.map Value.string).toArray ty fz)) : Strs w (.slice (some ⟨b, 0, none⟩) l.length cap) l :=
  ⟨_, _, rfl, .inr ⟨b, 0, _, ty, fz, rfl, h, fun i hi => by simp [hi]⟩⟩
theorem StrRows.made {w : World} {b : Nat} {ty : TypeId} {fz : Nat × Nat} (vs : List Value) (ls : List (List ByteArray)) (cap : Nat) (h : w.heap[b]? = some (.cells vs.toArray ty fz)) (hn : vs.length = ls.length)
    (hr : ∀ i (h1 : i < vs.length) (h2 : i < ls.length), Strs w vs[i] ls[i]) : StrRows w (.slice (some ⟨b, 0, none⟩) ls.length cap) ls :=
  ⟨_, _, rfl, .inr ⟨b, 0, _, ty, fz, rfl, h, fun i hi => ⟨vs[i], by simp [hn, hi], hr i (by omega) hi⟩⟩⟩
theorem StrRows.made1 {w : World} {b : Nat} {ty : TypeId} {fz : Nat × Nat} {v : Value} {l : List ByteArray} (cap : Nat) (h : w.heap[b]? = some (.cells #[v] ty fz)) (hr : Strs w v l) : StrRows w (.slice (some ⟨b, 0, none⟩) 1 cap) [l] :=
  StrRows.made [v] [l] cap h rfl fun i h1 h2 => by
    have : i = 0 := by simp at h1; exact h1
    subst this
    exact hr

/-- How many bytes texts have, one more for each. -/
def bytesOf (l : List ByteArray) : Nat := (l.map fun s => 1 + s.size).sum
def bytesOfAll (ls : List (List ByteArray)) : Nat := (ls.map bytesOf).sum

/-- Texts have at most 2^20 bytes, and are at most so many, together. -/
def fitsF (ls : List (List ByteArray)) : Bool := decide (bytesOfAll ls ≤ 1048576)

theorem sum_take_le (l : List Nat) (k : Nat) : (l.take k).sum ≤ l.sum := by
  induction l generalizing k with
  | nil => simp
  | cons x l ih => cases k with
    | zero => simp
    | succ k => simp only [List.take_succ_cons, List.sum_cons]; have := ih k; omega

theorem bytesOf_take_succ (l : List ByteArray) (k : Nat) (h : k < l.length) : bytesOf (l.take (k + 1)) = bytesOf (l.take k) + (1 + l[k].size) := by
  rw [bytesOf, List.take_succ_eq_append_getElem h, List.map_append, List.sum_append]
  simp [bytesOf]
theorem bytesOfAll_take_succ (ls : List (List ByteArray)) (k : Nat) (h : k < ls.length) : bytesOfAll (ls.take (k + 1)) = bytesOfAll (ls.take k) + bytesOf ls[k] := by
  rw [bytesOfAll, List.take_succ_eq_append_getElem h, List.map_append, List.sum_append]
  simp [bytesOfAll]
theorem bytesOf_take_le (l : List ByteArray) (k : Nat) : bytesOf (l.take k) ≤ bytesOf l := by
  rw [bytesOf, List.map_take]; exact sum_take_le _ _
theorem bytesOfAll_take_le (l : List (List ByteArray)) (k : Nat) : bytesOfAll (l.take k) ≤ bytesOfAll l := by
  rw [bytesOfAll, List.map_take]; exact sum_take_le _ _

set_option maxHeartbeats 1000000 in
theorem fits14_any (v : Value) (ls : List (List ByteArray)) (w : World) (hv : StrRows w v ls) (hl : ls.length ≤ 2147483647) (hs : ∀ l ∈ ls, l.length ≤ 2147483647 ∧ ∀ s ∈ l, s.size ≤ 2147483647) :
    Calls Try.prog 18 #[v] w fun e w' => e = .returned (.bool (fitsF ls)) ∧ w' = w := by
  obtain ⟨a, cap, rfl, hv⟩ := hv
  have hrow : ∀ i (h : i < ls.length), ∃ b off r, a = some ⟨b, off, none⟩ ∧ w.cell? ⟨b, off + i, none⟩ = some r ∧ Strs w r ls[i] := by
    intro i h
    rcases hv with hv | ⟨b, off, cs, ty, fz, ha, hb, hc⟩
    · subst hv; simp at h
    · obtain ⟨r, h1, h2⟩ := hc i h
      exact ⟨b, off, r, ha, by simp [World.cell?, hb, h1], h2⟩
  have HR := Lib.hid hrow
  have HS := Lib.hid hs
  clear hrow hv hs
  go_enter Try.func18, Try.ntmps18
  go_wp2_with fail
  go_loop [3, 10] (fun n i => ∃ k : Nat, k ≤ ls.length ∧ i = .int .i64 k ∧ n = .int .i64 (bytesOfAll (ls.take k)) ∧ bytesOfAll (ls.take k) ≤ 1048576) (fun _ i => ls.length - (intOf i).toNat)
  case atStart => exact ⟨0, Nat.zero_le _, rfl, rfl, by simp [bytesOfAll]⟩
  case round =>
    obtain ⟨k, hk, rfl, rfl, hle⟩ := hrel
    by_cases hlt : k < ls.length
    · obtain ⟨b, off, r, rfl, hc, hr⟩ := HR.out k hlt
      obtain ⟨ra, rcap, rfl⟩ := hr.len
      have hsz := HS.out ls[k] (List.getElem_mem hlt)
      have hb1 : bytesOfAll (ls.take (k + 1)) = bytesOfAll (ls.take k) + bytesOf ls[k] := bytesOfAll_take_succ ls k hlt
      have hb2 : bytesOfAll (ls.take (k + 1)) ≤ bytesOfAll ls := bytesOfAll_take_le ls (k + 1)
      have HB1 := Lib.hid hb1
      clear hb1
      have hcell : ∀ i (h : i < ls[k].length), ∃ rb ro, ra = some ⟨rb, ro, none⟩ ∧ w.cell? ⟨rb, ro + i, none⟩ = some (.string ls[k][i]) := by
        intro i h
        obtain ⟨rb, ro, e, f⟩ := hr.cell (by omega)
        exact ⟨rb, ro, e, f i h⟩
      have HC := Lib.hid hcell
      clear hcell hr
      obtain ⟨h1, h2⟩ := hsz
      have H2 := Lib.hid h2
      clear h2
      generalize ls[k] = row at *
      generalize bytesOfAll (ls.take k) = T at *
      go_wp2_with fail
      go_loop [3, 16] (fun n i => ∃ j : Nat, j ≤ row.length ∧ i = .int .i64 j ∧ n = .int .i64 ((T + bytesOf (row.take j) : Nat)) ∧ T + bytesOf (row.take j) ≤ 1048576) (fun _ i => row.length - (intOf i).toNat)
      case atStart => exact ⟨0, Nat.zero_le _, rfl, rfl, by simpa [bytesOf] using hle⟩
      case round =>
        obtain ⟨j, hj, rfl, rfl, hle2⟩ := hrel
        by_cases hlt2 : j < row.length
        · obtain ⟨rb, ro, rfl, hc2⟩ := HC.out j hlt2
          have hsz := H2.out row[j] (List.getElem_mem hlt2)
          have hs1 := bytesOf_take_succ row j hlt2
          have hs2 := bytesOf_take_le row (j + 1)
          have HS1 := Lib.hid hs1
          clear hs1
          generalize row[j] = s at *
          by_cases hbig : T + bytesOf (row.take j) + (1 + s.size) ≤ 1048576
          · go_wp2_with fail
            go_round
            case rel => exact ⟨j + 1, by omega, by go_num, by rw [HS1.out]; go_num, by rw [HS1.out]; omega⟩
            case measure => simp [intOf]; omega
          · have hno : fitsF ls = false := by
              rw [fitsF, decide_eq_false_iff_not]
              have e1 := HB1.out
              have e2 := HS1.out
              omega
            have HNO := Lib.hid hno
            clear hno
            go_wp2_with fail
            go_ret
            exact ⟨by rw [HNO.out]; rfl, rfl⟩
        · have e : row.take j = row := List.take_of_length_le (by omega)
          rw [e] at hle2 ⊢
          go_wp2_with fail
          go_round
          case rel => exact ⟨k + 1, by omega, by go_num, by rw [HB1.out], by rw [HB1.out]; exact hle2⟩
          case measure => simp [intOf]; omega
    · have e : ls.take k = ls := List.take_of_length_le (by omega)
      rw [e] at hle ⊢
      have hyes : fitsF ls = true := decide_eq_true hle
      have HY := Lib.hid hyes
      clear hyes
      go_wp2_with fail
      go_ret
      exact ⟨by rw [HY.out]; rfl, rfl⟩
end Go.Proofs.Ytcpjdgbnfjdakaa
