/- The reference's set of flags by their names (spec.NameSet): Find, Short. -/
import Derived.Test.YtmmkebdaijmpiaaGreatNDefs
import Derived.Test.YtmmkebdaijmpiaaGreatMapsB
namespace Go.Proofs.YtmmkebdaijmpiaaGreat
open Go.RowKit
set_option linter.unusedVariables false
set_option linter.unusedSimpArgs false

theorem flatMap_get {α : Type} (f : α → List Value) (sz : Nat) (hf : ∀ x, (f x).length = sz) : ∀ (l : List α) (i : Nat) (h : i < l.length) (j : Nat), j < sz → (l.flatMap f)[i * sz + j]? = (f l[i])[j]?
  | x :: l, 0, h, j, hj => by
    rw [List.flatMap_cons, List.getElem?_append_left (by rw [hf]; omega)]
    simp
  | x :: l, i + 1, h, j, hj => by
    have := flatMap_get f sz hf l i (by simpa using h) j hj
    rw [List.flatMap_cons, show (i + 1) * sz + j = (f x).length + (i * sz + j) by rw [hf, Nat.add_mul]; omega, List.getElem?_append_right (by omega), Nat.add_sub_cancel_left]
    exact this

/-- A flag of the reference: its definition, what it is worth, whether it was set. -/
structure NFlag where
  d : DefD
  val : ByteArray
  chg : Bool
  deriving Inhabited
def NFlag.cells (x : NFlag) : List Value := x.d.cells ++ [.string x.d.nm, .string x.val, .bool x.chg, .bool false, .bool false]
def flatF (l : List NFlag) : List Value := l.flatMap NFlag.cells
theorem flatF_snoc (l : List NFlag) (x : NFlag) : flatF (l ++ [x]) = flatF l ++ x.cells := by simp [flatF]
theorem NFlag.length (x : NFlag) : x.cells.length = 11 := rfl
def setC (fv : Value) (pl : Bool) (sv : Value) : Array Value := #[.slice none 0 0, .bool pl, fv, sv]
structure NSet (w0 : World) (N : Nat) (fv : Value) (pl : Bool) (sv : Value) (l : List NFlag) (w : World) : Prop where
  bel : Below w0.heap.size w0 w
  hN : w.heap[N]? = some (.cells (setC fv pl sv) 41 (0, 0))
  row : w.ownsRow w0.heap.size 62 11 fv l.length (flatF l)
  lN : w0.heap.size ≤ N
theorem NSet.later {w0 w w' : World} {N : Nat} {fv sv : Value} {pl : Bool} {l : List NFlag} (h : NSet w0 N fv pl sv l w) (hb : Below w.heap.size w w') : NSet w0 N fv pl sv l w' :=
  ⟨h.bel.trans (hb.mono h.bel.size), (hb.block _ (lt_of_block h.hN)).trans h.hN, row_grow h.row hb, h.lN⟩
theorem NSet.form {w0 w : World} {N : Nat} {fv sv : Value} {pl : Bool} {l : List NFlag} (h : NSet w0 N fv pl sv l w) : ∃ a c, fv = .slice a l.length c := row_form h.row
theorem NSet.at {w0 w : World} {N : Nat} {sv : Value} {pl : Bool} {l : List NFlag} {a : Option Addr} {n c : Nat} (h : NSet w0 N (.slice a n c) pl sv l w) (i : Nat) (hi : i < l.length) :
    ∃ g, a = some ⟨g, 0, none⟩ ∧ ∀ j v, j < 11 → l[i].cells[j]? = some v → w.cell? ⟨g, i * 11 + j, none⟩ = some v := by
  rcases h.row.2 with ⟨e, hn⟩ | ⟨b, cap, cur, e, hb, hh, hnc, hcm, hcs, ht⟩
  · exact absurd hn (by omega)
  · cases e
    refine ⟨b, rfl, fun j v hj hv => ?_⟩
    have q := flatMap_get NFlag.cells 11 NFlag.length l i hi j hj
    rw [hv] at q
    have q' : (flatF l)[i * 11 + j]? = some v := q
    rw [← ht, List.getElem?_take, if_pos (by omega), Array.getElem?_toList] at q'
    simp [World.cell?, hh, q']

/-- The first place where p holds, or -1. -/
def idxI (p : NFlag → Prop) [DecidablePred p] (l : List NFlag) : Int := match l.findIdx? (fun x => decide (p x)) with
  | some i => (i : Int)
  | none => -1
theorem idx_none {p : NFlag → Prop} [DecidablePred p] {l : List NFlag} (h : ∀ x ∈ l, ¬ p x) : idxI p l = -1 := by
  have : l.findIdx? (fun x => decide (p x)) = none := by
    rw [List.findIdx?_eq_none_iff]
    intro x hx
    simp [h x hx]
  rw [idxI, this]
theorem idx_some {p : NFlag → Prop} [DecidablePred p] {l : List NFlag} (k : Nat) (hk : k < l.length) (h : ∀ i (hi : i < k), ¬ p l[i]) (hp : p l[k]) : idxI p l = k := by
  have : l.findIdx? (fun x => decide (p x)) = some k := by
    rw [List.findIdx?_eq_some_iff_getElem]
    exact ⟨hk, by simpa using hp, fun j hj => by simpa using h j hj⟩
  rw [idxI, this]

set_option maxRecDepth 100000 in
theorem normal_any (s : ByteArray) (w : World) :
    Calls Tryz.prog 35 #[.slice none 0 0, .string s] w fun e w' => e = .returned (.string s) ∧ w' = w := by
  go_enter Tryz.func35, Tryz.ntmps35
  go_wp2_with fail
  go_loopw [9] (fun vi wr => vi = .int .i64 0 ∧ wr = w) (fun _ _ => 0)
  case atStart => exact ⟨rfl, rfl⟩
  case round =>
    obtain ⟨rfl, rfl⟩ := hrel
    go_wp2_with fail
    go_ret
    exact ⟨rfl, rfl⟩

set_option maxRecDepth 100000 in
theorem find_any {w0 w : World} {N : Nat} {fv sv : Value} {pl : Bool} {l : List NFlag} (h : NSet w0 N fv pl sv l w) (s : ByteArray) (hl : l.length ≤ 2147483647) :
    Calls Tryz.prog 19 #[.pointer (some ⟨N, 0, none⟩), .string s] w fun e w' => e = .returned (.int .i64 (idxI (fun x => x.d.nm = s) l)) ∧ w' = w := by
  obtain ⟨a, c, rfl⟩ := h.form
  have CN := Lib.hid (normal_any s w)
  have c0 := cell_of h.hN 0 (.slice none 0 0) rfl
  have c2 := cell_of h.hN 2 (.slice a l.length c) rfl
  have HA := Lib.hid (fun i hi => h.at i hi)
  clear h
  go_enter Tryz.func19, Tryz.ntmps19
  go_wp2_with fail
  refine CN.out.mono ?_
  rintro e w1 ⟨rfl, rfl⟩
  clear CN
  go_wp2_with fail
  go_loopw [17] (fun vi wr => ∃ k : Nat, k ≤ l.length ∧ vi = .int .i64 k ∧ wr = w1 ∧ ∀ i (hi : i < l.length), i < k → l[i].d.nm ≠ s) (fun vi _ => l.length - (intOf vi).toNat)
  case atStart => exact ⟨0, Nat.zero_le _, rfl, rfl, fun i _ hi => absurd hi (Nat.not_lt_zero _)⟩
  case round =>
    obtain ⟨k, hk, rfl, rfl, hx⟩ := hrel
    have HX := Lib.hid hx
    clear hx
    by_cases hlt : k < l.length
    case neg =>
      have HF : Hid (idxI (fun x => x.d.nm = s) l = -1) := Lib.hid (idx_none fun x hx => by
        obtain ⟨i, hi, rfl⟩ := List.getElem_of_mem hx
        exact HX.out i hi (by omega))
      go_wp2_with fail
      go_ret
      exact ⟨by rw [HF.out]; rfl, rfl⟩
    obtain ⟨g, rfl, hc⟩ := HA.out k hlt
    have c6 := hc 6 (.string l[k].d.nm) (by omega) rfl
    have HS := Lib.hid (fun (h : l[k].d.nm = s) => idx_some (p := fun x => x.d.nm = s) k hlt (fun i hi => HX.out i (by omega) hi) h)
    have HN := Lib.hid (fun (h : l[k].d.nm ≠ s) i (hi : i < l.length) (hi' : i < k + 1) => if e : i = k then (by subst e; exact h : l[i].d.nm ≠ s) else HX.out i hi (by omega))
    clear hc
    obtain ⟨t, ht⟩ : ∃ t, l[k].d.nm = t := ⟨_, rfl⟩
    rw [ht] at c6 HS HN
    clear ht
    by_cases e : t = s
    · have q : (t.toList == s.toList) = true := by rw [toList_beq, decide_eq_true e]
      have HF := Lib.hid (HS.out e)
      clear HS HN e
      go_wp2_with fail
      go_ret
      exact ⟨by rw [HF.out]; rfl, rfl⟩
    · have q : (t.toList == s.toList) = false := by rw [toList_beq, decide_eq_false e]
      have HF := Lib.hid (HN.out e)
      clear HS HN e
      go_wp2_with fail
      go_roundw
      case rel => exact ⟨k + 1, by omega, by go_num, trivial, HF.out⟩
      case measure => simp [intOf]; omega

theorem emptyQ (s : ByteArray) : (s.toList == ([] : List UInt8)) = decide (s.size = 0) := by
  rw [show ([] : List UInt8) = (⟨#[]⟩ : ByteArray).toList from by rw [ByteArray.toList_eq], toList_beq]
  by_cases h : s.size = 0
  · rw [decide_eq_true h, decide_eq_true_iff]
    exact ByteArray.ext (Array.size_eq_zero_iff.1 h)
  · rw [decide_eq_false h, decide_eq_false_iff_not]
    rintro rfl
    exact h rfl
set_option maxRecDepth 100000 in
theorem short_any {w0 w : World} {N : Nat} {fv sv : Value} {pl : Bool} {l : List NFlag} (h : NSet w0 N fv pl sv l w) (s : ByteArray) (hl : l.length ≤ 2147483647) :
    Calls Tryz.prog 20 #[.pointer (some ⟨N, 0, none⟩), .string s] w fun e w' => e = .returned (.int .i64 (idxI (fun x => x.d.sh = s ∧ s.size ≠ 0) l)) ∧ w' = w := by
  obtain ⟨a, c, rfl⟩ := h.form
  have c2 := cell_of h.hN 2 (.slice a l.length c) rfl
  have HA := Lib.hid (fun i hi => h.at i hi)
  clear h
  go_enter Tryz.func20, Tryz.ntmps20
  go_wp2_with fail
  go_loopw [11] (fun vi wr => ∃ k : Nat, k ≤ l.length ∧ vi = .int .i64 k ∧ wr = w ∧ ∀ i (hi : i < l.length), i < k → ¬ (l[i].d.sh = s ∧ s.size ≠ 0)) (fun vi _ => l.length - (intOf vi).toNat)
  case atStart => exact ⟨0, Nat.zero_le _, rfl, rfl, fun i _ hi => absurd hi (Nat.not_lt_zero _)⟩
  case round =>
    obtain ⟨k, hk, rfl, rfl, hx⟩ := hrel
    have HX := Lib.hid hx
    clear hx
    by_cases hlt : k < l.length
    case neg =>
      have HF : Hid (idxI (fun x => x.d.sh = s ∧ s.size ≠ 0) l = -1) := Lib.hid (idx_none fun x hx => by
        obtain ⟨i, hi, rfl⟩ := List.getElem_of_mem hx
        exact HX.out i hi (by omega))
      go_wp2_with fail
      go_ret
      exact ⟨by rw [HF.out]; rfl, rfl⟩
    obtain ⟨g, rfl, hc⟩ := HA.out k hlt
    have c6 := hc 1 (.string l[k].d.sh) (by omega) rfl
    have HS := Lib.hid (fun (h : l[k].d.sh = s ∧ s.size ≠ 0) => idx_some (p := fun x => x.d.sh = s ∧ s.size ≠ 0) k hlt (fun i hi => HX.out i (by omega) hi) h)
    have HN := Lib.hid (fun (h : ¬ (l[k].d.sh = s ∧ s.size ≠ 0)) i (hi : i < l.length) (hi' : i < k + 1) => if e : i = k then (by subst e; exact h : ¬ (l[i].d.sh = s ∧ s.size ≠ 0)) else HX.out i hi (by omega))
    clear hc
    obtain ⟨t, ht⟩ : ∃ t, l[k].d.sh = t := ⟨_, rfl⟩
    rw [ht] at c6 HS HN
    clear ht
    by_cases e : t = s
    · have q : (t.toList == s.toList) = true := by rw [toList_beq, decide_eq_true e]
      by_cases e0 : s.size = 0
      · have q2 : (s.toList == ([] : List UInt8)) = true := by rw [emptyQ, decide_eq_true e0]
        have q3 : (s.toList != ([] : List UInt8)) = false := by rw [bne, q2]; rfl
        have HF := Lib.hid (HN.out (fun h => h.2 e0))
        clear HS HN e e0
        go_wp2_with fail
        go_roundw
        case rel => exact ⟨k + 1, by omega, by go_num, trivial, HF.out⟩
        case measure => simp [intOf]; omega
      · have q2 : (s.toList == ([] : List UInt8)) = false := by rw [emptyQ, decide_eq_false e0]
        have q3 : (s.toList != ([] : List UInt8)) = true := by rw [bne, q2]; rfl
        have HF := Lib.hid (HS.out ⟨e, e0⟩)
        clear HS HN e e0
        go_wp2_with fail
        go_ret
        exact ⟨by rw [HF.out]; rfl, rfl⟩
    · have q : (t.toList == s.toList) = false := by rw [toList_beq, decide_eq_false e]
      have HF := Lib.hid (HN.out (fun h => e h.1))
      clear HS HN e
      go_wp2_with fail
      go_roundw
      case rel => exact ⟨k + 1, by omega, by go_num, trivial, HF.out⟩
      case measure => simp [intOf]; omega
end Go.Proofs.YtmmkebdaijmpiaaGreat
