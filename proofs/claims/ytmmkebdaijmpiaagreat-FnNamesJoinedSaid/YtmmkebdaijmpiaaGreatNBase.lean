/- Definitions of flags (impl.Def), as they lie; how the laws cut them, and of what size they are. -/
import Derived.Test.YtmmkebdaijmpiaaGreatSayer
namespace Go.Proofs.YtmmkebdaijmpiaaGreat
open Go.RowKit
set_option linter.unusedVariables false
set_option linter.unusedSimpArgs false

structure DefD where
  nm : ByteArray
  sh : ByteArray
  k : Int
  on : Bool
  n : Int
  tx : ByteArray
  deriving Inhabited
def DefD.cells (x : DefD) : List Value := [.string x.nm, .string x.sh, .int .i64 x.k, .bool x.on, .int .i64 x.n, .string x.tx]
def DefAt (w : World) (b off : Nat) (x : DefD) : Prop :=
  w.cell? ⟨b, off, none⟩ = some (.string x.nm) ∧ w.cell? ⟨b, off + 1, none⟩ = some (.string x.sh) ∧ w.cell? ⟨b, off + 2, none⟩ = some (.int .i64 x.k) ∧
  w.cell? ⟨b, off + 3, none⟩ = some (.bool x.on) ∧ w.cell? ⟨b, off + 4, none⟩ = some (.int .i64 x.n) ∧ w.cell? ⟨b, off + 5, none⟩ = some (.string x.tx)
def Defs (w : World) (v : Value) (l : List DefD) : Prop :=
  ∃ a cap, v = .slice a l.length cap ∧ l.length ≤ cap ∧ ∀ i (h : i < l.length), ∃ b off, a = some ⟨b, off, none⟩ ∧ DefAt w b (off + i * 6) l[i]
theorem lt_of_cell {w : World} {b off : Nat} {v : Value} (h : w.cell? ⟨b, off, none⟩ = some v) : b < w.heap.size := by
  rcases Nat.lt_or_ge b w.heap.size with h' | h'
  · exact h'
  · simp [World.cell?, Array.getElem?_eq_none h'] at h
theorem cell_keep {w w' : World} {b off : Nat} {v : Value} (h : w.cell? ⟨b, off, none⟩ = some v) (hk : w'.heap[b]? = w.heap[b]?) : w'.cell? ⟨b, off, none⟩ = some v := by
  rw [← h]
  simp only [World.cell?, hk]
theorem DefAt.keep {w w' : World} {b off : Nat} {x : DefD} (h : DefAt w b off x) (hk : w'.heap[b]? = w.heap[b]?) : DefAt w' b off x := by
  obtain ⟨h0, h1, h2, h3, h4, h5⟩ := h
  exact ⟨cell_keep h0 hk, cell_keep h1 hk, cell_keep h2 hk, cell_keep h3 hk, cell_keep h4 hk, cell_keep h5 hk⟩
theorem DefAt.lt {w : World} {b off : Nat} {x : DefD} (h : DefAt w b off x) : b < w.heap.size := lt_of_cell h.1
theorem Defs.later {w w' : World} {v : Value} {l : List DefD} (h : Defs w v l) (hb : Below w.heap.size w w') : Defs w' v l := by
  obtain ⟨a, cap, e, hc, h⟩ := h
  exact ⟨a, cap, e, hc, fun i hi => by
    obtain ⟨b, off, e, k⟩ := h i hi
    exact ⟨b, off, e, k.keep (hb.block _ k.lt)⟩⟩
theorem Defs.len {w : World} {v : Value} {l : List DefD} (h : Defs w v l) : ∃ a cap, v = .slice a l.length cap ∧ l.length ≤ cap := by
  obtain ⟨a', cap', e, hc, h⟩ := h
  exact ⟨a', cap', e, hc⟩
theorem Defs.at {w : World} {a : Option Addr} {n cap : Nat} {l : List DefD} (h : Defs w (.slice a n cap) l) (i : Nat) (hi : i < l.length) : ∃ b off, a = some ⟨b, off, none⟩ ∧ DefAt w b (off + i * 6) l[i] := by
  obtain ⟨a', cap', e, hc, h⟩ := h
  cases e
  exact h i hi
/-- The first ones. -/
theorem Defs.take {w : World} {a : Option Addr} {n cap : Nat} {l : List DefD} (h : Defs w (.slice a n cap) l) (k : Nat) (hk : k ≤ l.length) : Defs w (.slice a k cap) (l.take k) := by
  obtain ⟨a', cap', e, hc, h⟩ := h
  cases e
  refine ⟨a, cap, by simp [Nat.min_eq_left hk], by simp; omega, fun i hi => ?_⟩
  have : i < l.length := by simp at hi; omega
  obtain ⟨b, off, e, k⟩ := h i this
  exact ⟨b, off, e, by rw [List.getElem_take]; exact k⟩

def cutN (s : ByteArray) : ByteArray := s.extract 0 (min s.size 60)
def kindN (k : Int) : Int := (k % 18446744073709551616) % 2
def cutD (x : DefD) : DefD := ⟨cutN x.nm, cutN x.sh, kindN x.k, x.on, 0, cutN x.tx⟩
theorem kindN_or (k : Int) : kindN k = 0 ∨ kindN k = 1 := by unfold kindN; omega
theorem cutN_size (s : ByteArray) : (cutN s).size ≤ 60 := by
  unfold cutN
  rw [ByteArray.size_extract]
  omega
def defsN (l : List DefD) : List DefD := (l.take 16).map cutD
def SizeD (x : DefD) : Prop := x.nm.size ≤ 2147483647 ∧ x.sh.size ≤ 2147483647 ∧ x.tx.size ≤ 2147483647

set_option maxRecDepth 100000 in
theorem nameCut_any (s : ByteArray) (w : World) (hs : s.size ≤ 2147483647) :
    Calls Tryz.prog 9 #[.string s] w fun e w' => e = .returned (.string (cutN s)) ∧ w' = w := by
  go_enter Tryz.func9, Tryz.ntmps9
  go_wp2_with fail
  · go_ret
    refine ⟨?_, rfl⟩
    rw [cutN, Nat.min_eq_right (by omega)]
    rfl
  · go_ret
    refine ⟨?_, rfl⟩
    rw [cutN, Nat.min_eq_left (by omega), ByteArray.extract_zero_size]
    rfl

set_option maxRecDepth 100000 in
theorem fits16_any (x : DefD) (w : World) :
    Calls Tryz.prog 16 #[.agg #[.string x.nm, .string x.sh, .int .i64 x.k, .bool x.on, .int .i64 x.n, .string x.tx]] w fun e w' => ∃ b, e = .returned (.bool b) ∧ Below w.heap.size w w' ∧ (b = true → SizeD x) := by
  obtain ⟨nm, sh, k, on, n, tx⟩ := x
  unfold SizeD
  simp only
  have HB := Lib.hid (show Below w.heap.size w (w.alloc (.cells #[.string nm, .string sh, .int .i64 k, .bool on, .int .i64 n, .string tx] 50)) from (Below.refl _ _).alloc (Nat.le_refl _) _)
  go_enter Tryz.func16, Tryz.ntmps16
  go_wp2_with fail
  all_goals
    go_ret
    refine ⟨_, rfl, HB.out, ?_⟩
    simp
    try omega

set_option maxRecDepth 100000 in
theorem fits15_any (v : Value) (l : List DefD) (w : World) (hv : Defs w v l) (hl : l.length ≤ maxLen) :
    Calls Tryz.prog 5 #[v] w fun e w' => ∃ b, e = .returned (.bool b) ∧ Below w.heap.size w w' ∧ (b = true → l.length ≤ 2147483647 ∧ ∀ x ∈ l, SizeD x) := by
  obtain ⟨a, cap, rfl, hcap⟩ := hv.len
  have HV := Lib.hid (fun W (h : Below w.heap.size w W) => hv.later h)
  unfold maxLen at hl
  clear hv hcap
  by_cases hbig : 2147483647 < l.length
  · have hb : (2147483647 : Int) < (l.length : Int) := by omega
    go_enter Tryz.func5, Tryz.ntmps5
    go_wp2_with fail
    go_ret
    exact ⟨false, rfl, Below.refl _ _, fun h => by cases h⟩
  have hb : ¬ (2147483647 : Int) < (l.length : Int) := by omega
  go_enter Tryz.func5, Tryz.ntmps5
  go_wp2_with fail
  go_loopw [10] (fun vi wr => ∃ k : Nat, k ≤ l.length ∧ vi = .int .i64 k ∧ Below w.heap.size w wr ∧ ∀ x ∈ l.take k, SizeD x) (fun vi _ => l.length - (intOf vi).toNat)
  case atStart => exact ⟨0, Nat.zero_le _, rfl, Below.refl _ _, by simp⟩
  case round =>
    obtain ⟨k, hk, rfl, hr, hx⟩ := hrel
    have HR := Lib.hid hr
    have HX := Lib.hid hx
    clear hr hx
    by_cases hlt : k < l.length
    case neg =>
      have HF : Hid (∀ x ∈ l, SizeD x) := Lib.hid (by
        have := HX.out
        rw [List.take_of_length_le (by omega)] at this
        exact this)
      go_wp2_with fail
      go_ret
      exact ⟨true, rfl, HR.out, fun _ => ⟨by omega, HF.out⟩⟩
    obtain ⟨b, of, rfl, hd⟩ := (HV.out wr HR.out).at k hlt
    have HT := Lib.hid (show l.take (k + 1) = l.take k ++ [l[k]] from List.take_succ_eq_append_getElem hlt)
    generalize l[k] = x at *
    obtain ⟨d0, d1, d2, d3, d4, d5⟩ := hd
    have blt := lt_of_cell d0
    have C := fun W => Lib.hid (fits16_any x W)
    go_wp2_with fail
    refine (C _).out.mono ?_
    rintro e w4 ⟨bb, rfl, hb4, h4⟩
    have HB4 : Hid (Below w.heap.size w w4) := Lib.hid (by
      refine HR.out.trans (Below.trans ?_ (hb4.mono ?_))
      · exact ((Below.refl _ _).alloc HR.out.size _)
      · have := HR.out.size
        simp only [World.size_alloc]
        omega)
    clear hb4
    cases bb with
    | false =>
      go_wp2_with fail
      go_ret
      exact ⟨false, rfl, HB4.out, fun h => by cases h⟩
    | true =>
      have H4 := Lib.hid (h4 rfl)
      clear h4
      go_wp2_with fail
      go_roundw
      case rel =>
        refine ⟨k + 1, by omega, by go_num, HB4.out, ?_⟩
        rw [HT.out]
        intro y hy
        rcases List.mem_append.1 hy with hy | hy
        · exact HX.out y hy
        · rw [List.mem_singleton.1 hy]; exact H4.out
      case measure => simp [intOf]; omega
end Go.Proofs.YtmmkebdaijmpiaaGreat
