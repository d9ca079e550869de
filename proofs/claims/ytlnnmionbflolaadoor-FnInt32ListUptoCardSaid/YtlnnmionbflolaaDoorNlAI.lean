/- The methods of a list of numbers (pub-ensign/pub/pflag.int32SliceValue). (Printed by gen_nl.py.) -/
import Derived.Test.YtlnnmionbflolaaDoorParts
import Derived.Test.YtlnnmionbflolaaDoorSteps
import Derived.Test.YtlnnmionbflolaaDoorPubJ
namespace Go.Proofs.YtlnnmionbflolaaDoor
open Go.RowKit
set_option linter.unusedVariables false
set_option linter.unusedSimpArgs false

abbrev AV := LV 108 82 21
theorem infoE : (Tryd.prog.info? 21).map (fun i => (i.zero, i.size, i.bytes)) = some (some (.int .i32 0), 1, 4) := by kernel_rfl

theorem newArr_any (va : Option Addr) (vn vc : Nat) (P : Nat) (w : World) {c : Value} (hP : w.heap[P]? = some (.cells #[c] 82 (0, 0))) :
    Calls Tryd.prog 53 #[.slice va vn vc, .pointer (some ⟨P, 0, none⟩)] w fun e w' => e = .returned (.pointer (some ⟨w.heap.size, 0, none⟩)) ∧ w'.heap[w.heap.size]? = some (.cells #[.pointer (some ⟨P, 0, none⟩), .bool false] 108 (0, 0)) ∧ w'.heap[P]? = some (.cells #[.slice va vn vc] 82 (0, 0)) ∧ w.grownBy w' (some P) := by
  have hlt := lt_of_block hP
  have h1 := cell_of_one hP
  have h2 := free_of_one hP
  have HP := Lib.hid hP
  clear hP
  go_enter Tryd.func53, Tryd.ntmps53
  go_wp2_with fail
  go_ret
  refine ⟨rfl, ?_, ?_, ?_⟩
  · exact heap_at _ _ _ (by simp [size_setCell])
  · exact heap_past' (by simpa [size_setCell] using hlt) (heap_set HP.out 0 _)
  · refine grown_trans (b := w.setCell ⟨P, 0, none⟩ (.slice va vn vc)) ⟨rfl, rfl, rfl, by simp [size_setCell], fun k _ hne => heap_ne _ _ _ _ (fun q => hne (by rw [q]))⟩ (grown_of ((Below.refl _ _).alloc (Nat.le_refl _) _) _)
theorem zzArr_any (va : Option Addr) (vn vc : Nat) (P : Nat) (w : World) {c : Value} (hP : w.heap[P]? = some (.cells #[c] 82 (0, 0))) :
    Calls Tryd.prog 35 #[.slice va vn vc, .pointer (some ⟨P, 0, none⟩)] w fun e w' => e = .returned (.pointer (some ⟨w.heap.size, 0, none⟩)) ∧ w'.heap[w.heap.size]? = some (.cells #[.pointer (some ⟨P, 0, none⟩), .bool false] 108 (0, 0)) ∧ w'.heap[P]? = some (.cells #[.slice va vn vc] 82 (0, 0)) ∧ w.grownBy w' (some P) := by
  have C := Lib.hid (newArr_any va vn vc P w hP)
  clear hP
  go_enter Tryd.func35, Tryd.ntmps35
  go_wp2_with fail
  refine C.out.mono ?_
  rintro e w2 ⟨rfl, h⟩
  have HH := Lib.hid h
  clear h C
  go_wp2_with fail
  go_ret
  exact ⟨rfl, HH.out⟩

theorem run_nilCheck {ρ : Operand → Value} {d : Option Tmp} {ty : TypeId} {pos : String} {af : Array Edge} {g : Option (Nat × Bool)} {x : Tmp} {w : World} {a : Addr} (h : ρ (.tmp x) = .pointer (some a)) :
    (execOp ρ ⟨d, .nilCheck (.tmp x), ty, pos, af, g⟩).run Tryd.prog w = .ok (.value (.pointer (some a))) w := by
  go_simp
theorem run_field0 {ρ : Operand → Value} {d : Option Tmp} {ty : TypeId} {pos : String} {af : Array Edge} {g : Option (Nat × Bool)} {x : Tmp} {w : World} {B : Nat} (h : ρ (.tmp x) = .pointer (some ⟨B, 0, none⟩)) :
    (execOp ρ ⟨d, .fieldAddr 108 (.tmp x) 0, ty, pos, af, g⟩).run Tryd.prog w = .ok (.value (.pointer (some ⟨B, 0, none⟩))) w := by
  go_simp
theorem run_loadP {ρ : Operand → Value} {d : Option Tmp} {ty : TypeId} {pos : String} {af : Array Edge} {g : Option (Nat × Bool)} {x : Tmp} {w : World} {B C : Nat} (h : ρ (.tmp x) = .pointer (some ⟨B, 0, none⟩)) (hc : w.cell? ⟨B, 0, none⟩ = some (.pointer (some ⟨C, 0, none⟩))) :
    (execOp ρ ⟨d, .load 81 (.tmp x), ty, pos, af, g⟩).run Tryd.prog w = .ok (.value (.pointer (some ⟨C, 0, none⟩))) w := by
  go_simp
theorem run_loadL {ρ : Operand → Value} {d : Option Tmp} {ty : TypeId} {pos : String} {af : Array Edge} {g : Option (Nat × Bool)} {x : Tmp} {w : World} {B : Nat} {a : Option Addr} {n c : Nat} (h : ρ (.tmp x) = .pointer (some ⟨B, 0, none⟩)) (hc : w.cell? ⟨B, 0, none⟩ = some (.slice a n c)) :
    (execOp ρ ⟨d, .load 82 (.tmp x), ty, pos, af, g⟩).run Tryd.prog w = .ok (.value (.slice a n c)) w := by
  go_simp
theorem run_build1 {ρ : Operand → Value} {d : Option Tmp} {ty : TypeId} {pos : String} {af : Array Edge} {g : Option (Nat × Bool)} {x : Tmp} {w : World} {s : Int} (h : ρ (.tmp x) = .int .i32 s) :
    (execOp ρ ⟨d, .buildSlice 82 1 #[(0, .tmp x)], ty, pos, af, g⟩).run Tryd.prog w = .ok (.value (.slice (some ⟨w.heap.size, 0, none⟩) 1 1)) (w.alloc (.cells [Value.int .i32 s].toArray 21)) := by
  go_simp
theorem run_storeL {ρ : Operand → Value} {d : Option Tmp} {ty : TypeId} {pos : String} {af : Array Edge} {g : Option (Nat × Bool)} {x y : Tmp} {w : World} {B : Nat} {a : Option Addr} {n c : Nat} {v : Value} (h : ρ (.tmp x) = .pointer (some ⟨B, 0, none⟩)) (h' : ρ (.tmp y) = .slice a n c) (hc : w.cell? ⟨B, 0, none⟩ = some v) (hf : w.frozen? ⟨B, 0, none⟩ = false) :
    (execOp ρ ⟨d, .store 82 (.tmp x) (.tmp y), ty, pos, af, g⟩).run Tryd.prog w = .ok .skip (w.setCell ⟨B, 0, none⟩ (.slice a n c)) := by
  go_simp

theorem infoL : (Tryd.prog.info? 2).map (fun i => (i.zero, i.size, i.bytes)) = some (some (.int .i64 0), 1, 8) := by kernel_rfl
/-- What a text is to the list. -/
def oneN (t : ByteArray) : Option Int := numI t
def cutN (t : ByteArray) : Option (List Int) := eachG oneN (partsF t)
def Rg (n : Int) : Prop := -2147483648 ≤ n ∧ n ≤ 2147483647
theorem oneN_rg {t : ByteArray} {n : Int} (h : oneN t = some n) : Rg n := numI_le h
def gN (t : ByteArray) : Int := (oneN t).getD 0
theorem gN_rg (t : ByteArray) : Rg (gN t) := by
  unfold gN
  cases h : oneN t with
  | none => exact ⟨by decide, by decide⟩
  | some n => exact oneN_rg h
theorem each_yes : ∀ l : List ByteArray, (∀ i (h : i < l.length), oneN l[i] ≠ none) → eachG oneN l = some (l.map gN)
  | [], _ => rfl
  | t :: l, h => by
    have h0 := h 0 (by simp)
    simp only [List.getElem_cons_zero] at h0
    rw [eachG, each_yes l (fun i hi => h (i + 1) (by simpa using hi))]
    cases e : oneN t with
    | none => exact absurd e h0
    | some n => simp [gN, e]
theorem each_no : ∀ l : List ByteArray, ∀ i (h : i < l.length), oneN l[i] = none → eachG oneN l = none
  | t :: l, 0, h, hn => by
    simp only [List.getElem_cons_zero] at hn
    rw [eachG, hn]
  | t :: l, i + 1, h, hn => by
    rw [eachG, each_no l i (by simpa using h) (by simpa using hn)]
    cases oneN t <;> rfl
theorem each_len {l : List ByteArray} {xs : List Int} (h : eachG oneN l = some xs) : xs.length = l.length := by
  induction l generalizing xs with
  | nil => cases h; rfl
  | cons t l ih =>
    rw [eachG] at h
    cases e : oneN t with
    | none => rw [e] at h; cases h
    | some n =>
      rw [e] at h
      cases e2 : eachG oneN l with
      | none => simp [e2] at h
      | some ys =>
        simp [e2] at h
        subst h
        simp [ih e2]
theorem each_rg {l : List ByteArray} {xs : List Int} (h : eachG oneN l = some xs) : ∀ n ∈ xs, Rg n := by
  induction l generalizing xs with
  | nil => cases h; simp
  | cons t l ih =>
    rw [eachG] at h
    cases e : oneN t with
    | none => rw [e] at h; cases h
    | some n =>
      rw [e] at h
      cases e2 : eachG oneN l with
      | none => simp [e2] at h
      | some ys =>
        simp [e2] at h
        subst h
        intro m hm
        rcases List.mem_cons.1 hm with rfl | hm
        · exact oneN_rg e
        · exact ih e2 m hm

theorem inF_any (n : Int) (h : Rg n) (w : World) : Calls Tryd.prog 37 #[.int .i64 n] w fun e w' => e = .returned (.int .i32 n) ∧ w = w' := by
  obtain ⟨h1, h2⟩ := h
  have hwr : IntKind.i32.wrap n = n := by rw [IntKind.wrap_i32]; omega
  go_enter Tryd.func37, Tryd.ntmps37
  go_wp2_with fail
  go_ret
  exact ⟨rfl, rfl⟩
theorem outF_any (n : Int) (h : Rg n) (w : World) : Calls Tryd.prog 42 #[.int .i32 n] w fun e w' => e = .returned (.int .i64 n) ∧ w = w' := by
  obtain ⟨h1, h2⟩ := h
  have hwr : IntKind.i64.wrap n = n := by rw [IntKind.wrap_i64]; omega
  go_enter Tryd.func42, Tryd.ntmps42
  go_wp2_with fail
  go_ret
  exact ⟨rfl, rfl⟩

set_option maxRecDepth 100000 in
theorem inA_any (v : Value) (l : List Int) (w : World) (hv : Vals w v (l.map (Value.int .i64))) (hr : ∀ n ∈ l, Rg n) (hl : l.length ≤ 8796093022208) :
    Calls Tryd.prog 36 #[v, .func (.func 37) #[] #[]] w fun e w' => ∃ rv, e = .returned rv ∧ w'.ownsRow w.heap.size 21 1 rv l.length (l.map (Value.int .i32)) ∧ Below w.heap.size w w' := by
  obtain ⟨a, cap, rfl⟩ := hv.len
  have HV := Lib.hid (fun W (h : Below w.heap.size w W) => hv.later h.block)
  have HRG := Lib.hid hr
  clear hv hr
  rw [List.length_map]
  go_enter Tryd.func36, Tryd.ntmps36
  have H0 : Hid ((w.alloc (.cells #[] 21)).ownsRow w.heap.size 21 1 (.slice (some ⟨w.heap.size, 0, none⟩) 0 0) 0 [] ∧ Below w.heap.size w (w.alloc (.cells #[] 21))) := Lib.hid
    ⟨⟨rfl, .inr ⟨w.heap.size, 0, #[], rfl, Nat.le_refl _, heap_at _ _ _ rfl, Nat.le_refl _, Nat.zero_le _, rfl, rfl⟩⟩, (Below.refl _ _).alloc (Nat.le_refl _) _⟩
  go_wp2_with fail
  go_loopw [5, 11] (fun vo vi wr => ∃ k : Nat, k ≤ l.length ∧ vi = .int .i64 k ∧ wr.ownsRow w.heap.size 21 1 vo k ((l.take k).map (Value.int .i32)) ∧ Below w.heap.size w wr) (fun _ vi _ => l.length - (intOf vi).toNat)
  case atStart => exact ⟨0, Nat.zero_le _, rfl, H0.out⟩
  case round =>
    obtain ⟨k, hk, rfl, hr⟩ := hrel
    obtain ⟨ra, rc, rfl⟩ := row_form hr.1
    have HR := Lib.hid hr
    clear hr
    by_cases hlt : k < l.length
    case neg =>
      have ek : k = l.length := by omega
      have HF : Hid (wr.ownsRow w.heap.size 21 1 (.slice ra k rc) l.length (l.map (Value.int .i32)) ∧ Below w.heap.size w wr) := Lib.hid (by
        subst ek
        have := HR.out
        rw [List.take_length] at this
        exact this)
      clear ek
      go_wp2_with fail
      go_ret
      exact ⟨_, rfl, HF.out⟩
    obtain ⟨tb, tof, rfl, hc⟩ := Vals.cell (n := l.length) (by simpa using HV.out wr HR.out.2) (by simpa using Nat.lt_of_le_of_lt (Nat.zero_le _) hlt)
    have hck := hc k (by simpa using hlt)
    rw [List.getElem_map] at hck
    clear hc
    have HT : Hid ((l.take (k + 1)).map (Value.int .i32) = (l.take k).map (Value.int .i32) ++ [.int .i32 l[k]]) := Lib.hid (by rw [List.take_succ_eq_append_getElem hlt, List.map_append]; rfl)
    have hrg := HRG.out l[k] (List.getElem_mem hlt)
    generalize l[k] = t at *
    obtain ⟨i0, hi0, hz0, hz1, hz2⟩ := info_parts infoE
    go_wp2_with (first | (go_at_call 37; refine (inF_any t hrg _).mono ?_; rintro e w' ⟨rfl, rfl⟩) | (at_builtin; refine wpList_append_lies _ (by rfl) _ _ _ (by rfl) w.heap.size 21 i0 _ 1 4 Tryd.underlying82 hi0 hz0 hz1 hz2 rfl (by omega) (.slice ra k rc) k ((l.take k).map (Value.int .i32)) (by rfl) (row_grow HR.out.1 (by (repeat (first | (with_reducible exact Below.refl _ _) | (with_reducible assumption) | ((with_reducible refine Below.alloc ?_ ?_ _); rotate_left; focus ((try simp only [World.size_alloc, size_setCell, World.heap_drewN]); (try omega); done)) | ((with_reducible refine Below.setCell ?_ ?_ _); rotate_left; focus ((try simp only [World.size_alloc, size_setCell, World.heap_drewN]); (try omega); done)) | (with_reducible refine Below.drewN' ?_) | (with_reducible refine Below.drew ?_))))) ⟨wr.heap.size, 0, none⟩ 1 1 [.int .i32 t] (by rfl) (by rfl) (news_lies (heap_at _ _ _ rfl) (by rfl)) (by simp [Value.oneCell']) (by omega) (by unfold maxLen; omega) (by omega) (by have := HR.out.2.size; simp only [World.size_alloc]; omega) _ rfl ?_; intro g cap2 w2 hown hgrow hat hlt2))
    have HB : Hid (w2.ownsRow w.heap.size 21 1 (.slice (some ⟨g, 0, none⟩) (k + 1) cap2) (k + 1) ((l.take (k + 1)).map (Value.int .i32)) ∧ Below w.heap.size w w2) := Lib.hid (by
      rw [HT.out]
      refine ⟨hown, ?_⟩
      have hb1 : Below wr.heap.size wr (wr.alloc (.cells #[.int .i32 t] 21)) := by (repeat (first | (with_reducible exact Below.refl _ _) | (with_reducible assumption) | ((with_reducible refine Below.alloc ?_ ?_ _); rotate_left; focus ((try simp only [World.size_alloc, size_setCell, World.heap_drewN]); (try omega); done)) | ((with_reducible refine Below.setCell ?_ ?_ _); rotate_left; focus ((try simp only [World.size_alloc, size_setCell, World.heap_drewN]); (try omega); done)) | (with_reducible refine Below.drewN' ?_) | (with_reducible refine Below.drew ?_)))
      exact grown_below (HR.out.2.trans (hb1.mono HR.out.2.size)) (Nat.le_trans HR.out.2.size hb1.size) (row_grow HR.out.1 hb1) hgrow)
    clear hown hgrow hat hlt2
    go_wp2_with fail
    go_roundw
    case rel => exact ⟨k + 1, by omega, by go_num, HB.out⟩
    case measure => simp [intOf]; omega

set_option maxRecDepth 100000 in
theorem outA_any (v : Value) (l : List Int) (w : World) (hv : Vals w v (l.map (Value.int .i32))) (hr : ∀ n ∈ l, Rg n) (hl : l.length ≤ 8796093022208) :
    Calls Tryd.prog 41 #[v, .func (.func 42) #[] #[]] w fun e w' => ∃ rv, e = .returned rv ∧ w'.ownsRow w.heap.size 2 1 rv l.length (l.map (Value.int .i64)) ∧ Below w.heap.size w w' := by
  obtain ⟨a, cap, rfl⟩ := hv.len
  have HV := Lib.hid (fun W (h : Below w.heap.size w W) => hv.later h.block)
  have HRG := Lib.hid hr
  clear hv hr
  rw [List.length_map]
  go_enter Tryd.func41, Tryd.ntmps41
  have H0 : Hid ((w.alloc (.cells #[] 2)).ownsRow w.heap.size 2 1 (.slice (some ⟨w.heap.size, 0, none⟩) 0 0) 0 [] ∧ Below w.heap.size w (w.alloc (.cells #[] 2))) := Lib.hid
    ⟨⟨rfl, .inr ⟨w.heap.size, 0, #[], rfl, Nat.le_refl _, heap_at _ _ _ rfl, Nat.le_refl _, Nat.zero_le _, rfl, rfl⟩⟩, (Below.refl _ _).alloc (Nat.le_refl _) _⟩
  go_wp2_with fail
  go_loopw [5, 11] (fun vo vi wr => ∃ k : Nat, k ≤ l.length ∧ vi = .int .i64 k ∧ wr.ownsRow w.heap.size 2 1 vo k ((l.take k).map (Value.int .i64)) ∧ Below w.heap.size w wr) (fun _ vi _ => l.length - (intOf vi).toNat)
  case atStart => exact ⟨0, Nat.zero_le _, rfl, H0.out⟩
  case round =>
    obtain ⟨k, hk, rfl, hr⟩ := hrel
    obtain ⟨ra, rc, rfl⟩ := row_form hr.1
    have HR := Lib.hid hr
    clear hr
    by_cases hlt : k < l.length
    case neg =>
      have ek : k = l.length := by omega
      have HF : Hid (wr.ownsRow w.heap.size 2 1 (.slice ra k rc) l.length (l.map (Value.int .i64)) ∧ Below w.heap.size w wr) := Lib.hid (by
        subst ek
        have := HR.out
        rw [List.take_length] at this
        exact this)
      clear ek
      go_wp2_with fail
      go_ret
      exact ⟨_, rfl, HF.out⟩
    obtain ⟨tb, tof, rfl, hc⟩ := Vals.cell (n := l.length) (by simpa using HV.out wr HR.out.2) (by simpa using Nat.lt_of_le_of_lt (Nat.zero_le _) hlt)
    have hck := hc k (by simpa using hlt)
    rw [List.getElem_map] at hck
    clear hc
    have HT : Hid ((l.take (k + 1)).map (Value.int .i64) = (l.take k).map (Value.int .i64) ++ [.int .i64 l[k]]) := Lib.hid (by rw [List.take_succ_eq_append_getElem hlt, List.map_append]; rfl)
    have hrg := HRG.out l[k] (List.getElem_mem hlt)
    generalize l[k] = t at *
    obtain ⟨i0, hi0, hz0, hz1, hz2⟩ := info_parts infoL
    go_wp2_with (first | (go_at_call 42; refine (outF_any t hrg _).mono ?_; rintro e w' ⟨rfl, rfl⟩) | (at_builtin; refine wpList_append_lies _ (by rfl) _ _ _ (by rfl) w.heap.size 2 i0 _ 1 8 Tryd.underlying39 hi0 hz0 hz1 hz2 rfl (by omega) (.slice ra k rc) k ((l.take k).map (Value.int .i64)) (by rfl) (row_grow HR.out.1 (by (repeat (first | (with_reducible exact Below.refl _ _) | (with_reducible assumption) | ((with_reducible refine Below.alloc ?_ ?_ _); rotate_left; focus ((try simp only [World.size_alloc, size_setCell, World.heap_drewN]); (try omega); done)) | ((with_reducible refine Below.setCell ?_ ?_ _); rotate_left; focus ((try simp only [World.size_alloc, size_setCell, World.heap_drewN]); (try omega); done)) | (with_reducible refine Below.drewN' ?_) | (with_reducible refine Below.drew ?_))))) ⟨wr.heap.size, 0, none⟩ 1 1 [.int .i64 t] (by rfl) (by rfl) (news_lies (heap_at _ _ _ rfl) (by rfl)) (by simp [Value.oneCell']) (by omega) (by unfold maxLen; omega) (by omega) (by have := HR.out.2.size; simp only [World.size_alloc]; omega) _ rfl ?_; intro g cap2 w2 hown hgrow hat hlt2))
    have HB : Hid (w2.ownsRow w.heap.size 2 1 (.slice (some ⟨g, 0, none⟩) (k + 1) cap2) (k + 1) ((l.take (k + 1)).map (Value.int .i64)) ∧ Below w.heap.size w w2) := Lib.hid (by
      rw [HT.out]
      refine ⟨hown, ?_⟩
      have hb1 : Below wr.heap.size wr (wr.alloc (.cells #[.int .i64 t] 2)) := by (repeat (first | (with_reducible exact Below.refl _ _) | (with_reducible assumption) | ((with_reducible refine Below.alloc ?_ ?_ _); rotate_left; focus ((try simp only [World.size_alloc, size_setCell, World.heap_drewN]); (try omega); done)) | ((with_reducible refine Below.setCell ?_ ?_ _); rotate_left; focus ((try simp only [World.size_alloc, size_setCell, World.heap_drewN]); (try omega); done)) | (with_reducible refine Below.drewN' ?_) | (with_reducible refine Below.drew ?_)))
      exact grown_below (HR.out.2.trans (hb1.mono HR.out.2.size)) (Nat.le_trans HR.out.2.size hb1.size) (row_grow HR.out.1 hb1) hgrow)
    clear hown hgrow hat hlt2
    go_wp2_with fail
    go_roundw
    case rel => exact ⟨k + 1, by omega, by go_num, HB.out⟩
    case measure => simp [intOf]; omega

/-- An error, or none. -/
def ErOf (bad : Bool) (er : Value) : Prop := if bad then ∃ t p, er = .iface t p else er = .nilIface
set_option maxRecDepth 100000 in
theorem from_any (vb : Nat) (s : ByteArray) (hs : s.size ≤ 2147483647) (w : World) (hE : ErrsAt w) :
    Calls Tryd.prog 55 #[.pointer (some ⟨vb, 0, none⟩), .string s] w fun e w' => ∃ er, e = .returned (.tuple #[.int .i32 (gN s), er]) ∧ ErOf (oneN s).isNone er ∧ Below w.heap.size w w' := by
  obtain ⟨v, hv, hC⟩ := parse0_any s hs w hE
  have C := Lib.hid hC
  have hv' : ∀ n, oneN s = some n → v = n := hv
  clear hE hC hv
  unfold gN ErOf
  have ho : (numI s).isNone = (oneN s).isNone := rfl
  rw [ho] at C
  cases h : oneN s with
  | none =>
    rw [h] at C
    clear hv'
    go_enter Tryd.func55, Tryd.ntmps55
    go_wp2_with fail
    refine C.out.mono ?_
    rintro e w2 ⟨er, rfl, her, hb⟩
    obtain ⟨t, p, rfl⟩ := her
    have HB := Lib.hid hb
    clear hb
    go_wp2_with fail
    go_ret2
    exact ⟨_, rfl, ⟨_, _, rfl⟩, HB.out⟩
  | some n =>
    rw [h] at C
    obtain rfl := hv' n h
    obtain ⟨h1, h2⟩ := oneN_rg h
    have hwr : IntKind.i32.wrap v = v := by rw [IntKind.wrap_i32]; omega
    clear hv' h
    go_enter Tryd.func55, Tryd.ntmps55
    go_wp2_with fail
    refine C.out.mono ?_
    rintro e w2 ⟨er, rfl, her, hb⟩
    have her2 : er = .nilIface := her
    subst her2
    have HB := Lib.hid hb
    clear hb her
    go_wp2_with fail
    go_ret2
    exact ⟨_, rfl, rfl, HB.out⟩

/-- The slots' values of the append of one text behind the list. -/
def apV (vb pb : Nat) (ra : Option Addr) (n rc : Nat) (s : Int) : List Value := [.pointer (some ⟨vb, 0, none⟩), .pointer (some ⟨vb, 0, none⟩), .pointer (some ⟨vb, 0, none⟩), .pointer (some ⟨pb, 0, none⟩), .pointer (some ⟨vb, 0, none⟩), .pointer (some ⟨vb, 0, none⟩), .pointer (some ⟨vb, 0, none⟩), .pointer (some ⟨pb, 0, none⟩), .pointer (some ⟨pb, 0, none⟩), .slice ra n rc, .int .i32 s, undef, undef, .pointer (some ⟨pb, 0, none⟩)]
def apS (k : Nat) : SayN := ⟨[(0, k), (1, k + 1), (2, k + 2), (3, k + 3), (4, k + 4), (5, k + 5), (6, k + 6), (7, k + 7), (8, k + 8), (9, k + 9), (10, k + 10), (13, k + 13)], 11, k + 11, 12, k + 12, 99, 999, 9⟩
def apJ (w : World) (base vb pb k : Nat) (ra : Option Addr) (rc : Nat) (l : List Int) (s : Int) (L : Nat → Bool) (f : Nat → Value) (wz : World) : Prop :=
  SJ w base 21 1 (.slice ra l.length rc) l.length (l.map (Value.int .i32)) (apS k) (fun i v _ => v = (apV vb pb ra l.length rc s).getD i undef) (fun c _ => c = [Value.int .i32 s]) L f wz
def apI (w : World) (base vb pb k : Nat) (ch : Bool) (ra : Option Addr) (rc : Nat) (l : List Int) (s : Int) (L : Nat → Bool) (f : Nat → Value) (wz : World) : Prop :=
  (L 14 = false → apJ w base vb pb k ra rc l s L f wz) ∧ (∀ i, i < 14 → L 14 = true → L i = true) ∧ (L 14 = true → AV base vb pb ch (f (k + 12)) ((l ++ [s]).map (Value.int .i32)) wz ∧ Moved vb pb (.slice ra l.length rc) (f (k + 12)) w wz)
theorem apI.step {w : World} {base vb pb k : Nat} {ch : Bool} {ra : Option Addr} {rc : Nat} {l : List Int} {s : Int} {L : Nat → Bool} {f' : Nat → Value} {w' : World} (j : Nat) (hj : j < 14) (h14 : L 14 = false) (h : apJ w base vb pb k ra rc l s (fun i => i == j || L i) f' w') : apI w base vb pb k ch ra rc l s (fun i => i == j || L i) f' w' := by
  have hn : (fun i => i == j || L i) 14 = false := by
    show (14 == j || L 14) = false
    rw [or_ne (by omega)]; exact h14
  exact ⟨fun _ => h, fun _ _ q => (by rw [hn] at q; cases q), fun q => (by rw [hn] at q; cases q)⟩
theorem ap_last {w : World} {base vb pb k : Nat} {ch : Bool} {ra : Option Addr} {rc : Nat} {l : List Int} {s : Int} {L : Nat → Bool} {f : Nat → Value} {wz : World} (h : AV base vb pb ch (.slice ra l.length rc) (l.map (Value.int .i32)) w) (hJ : apJ w base vb pb k ra rc l s L f wz) (hA : L 12 = true) (hall : ∀ i, i < 14 → L i = true) :
    apI w base vb pb k ch ra rc l s (fun i => i == 14 || L i) f (wz.setCell ⟨pb, 0, none⟩ (f (k + 12))) := by
  refine ⟨fun q => absurd q (by simp), fun i hi _ => by
    show (i == 14 || L i) = true
    rw [or_ne (by omega)]; exact hall i hi, fun _ => ?_⟩
  obtain ⟨cs, hcs, hown⟩ := hJ.r1 hA
  subst hcs
  have hV := (hJ.bel.block _ (lt_of_block h.v) (fun q => row_ne h.v h.row (by decide) q.symm)).trans h.v
  have hP := (hJ.bel.block _ (lt_of_block h.p) (fun q => row_ne h.p h.row (by decide) q.symm)).trans h.p
  have hne : pb ≠ vb := cells_ne h.p h.v (by decide)
  refine ⟨⟨heap_ne' (Ne.symm hne) hV, heap_set hP 0 _, ?_⟩, ⟨hJ.bel.os, hJ.bel.tape, hJ.bel.output, by rw [size_setCell]; exact hJ.bel.size, fun b hb h1 h2 h3 => (heap_ne _ _ _ _ h2).trans (hJ.bel.block b hb h3), ?_⟩⟩
  · have := ownsRow_at (w' := wz.setCell ⟨pb, 0, none⟩ (f (k + 12))) hown (fun g hg => heap_ne _ _ _ _ (by
      obtain ⟨_, c, hc⟩ := ownsRow_cells hown hg
      exact cells_ne hc hP (by decide)))
    simpa [apS] using this
  · cases hg : (f (k + 12)).ownBlock with
    | none =>
      right; intro b hb; cases hb
    | some g =>
      rcases hJ.r3 hA g hg with q | q
      · left; exact q.symm
      · right; intro b hb; cases hb; exact q

theorem Fill.later {e : TypeId} {z : Value} {w0 : World} {g : Nat} {l : List Value} {k : Nat} {wr w' : World} (h : Fill e z w0 g l k wr) (hb : Below wr.heap.size wr w') : Fill e z w0 g l k w' :=
  ⟨h.bel.trans (hb.mono h.bel.size), (hb.block _ (lt_of_block h.row)).trans h.row, h.lo⟩
theorem Moved.after {vb pb : Nat} {pv pv' : Value} {w wr w' : World} (hb : Below w.heap.size w wr) (h : Moved vb pb pv pv' wr w') : Moved vb pb pv pv' w w' :=
  ⟨h.os.trans hb.os, h.tape.trans hb.tape, h.output.trans hb.output, Nat.le_trans hb.size h.size, fun b h0 h1 h2 h3 => (h.block b (Nat.lt_of_lt_of_le h0 hb.size) h1 h2 h3).trans (hb.block b h0), h.own.imp id fun q b e => Nat.le_trans hb.size (q b e)⟩
theorem AV.flag {base vb pb : Nat} {ch c : Bool} {pv : Value} {l : List Value} {w : World} (h : AV base vb pb ch pv l w) : AV base vb pb c pv l (w.setCell ⟨vb, 1, none⟩ (.bool c)) := by
  have hne : pb ≠ vb := cells_ne h.p h.v (by decide)
  refine ⟨heap_set h.v 1 _, heap_ne' hne h.p, ?_⟩
  exact ownsRow_at h.row fun g hg => by
    obtain ⟨_, c, hc⟩ := ownsRow_cells h.row hg
    exact heap_ne _ _ _ _ (cells_ne hc h.v (by decide))
theorem Moved.flag {vb pb : Nat} {pv pv' : Value} {w w' : World} {v : Value} (h : Moved vb pb pv pv' w w') : Moved vb pb pv pv' w (w'.setCell ⟨vb, 1, none⟩ v) :=
  ⟨h.os, h.tape, h.output, by rw [size_setCell]; exact h.size, fun b h0 h1 h2 h3 => (heap_ne _ _ _ _ h1).trans (h.block b h0 h1 h2 h3), h.own⟩
/-- The list is put. -/
theorem put_list {w w0 wr : World} {base vb pb G N : Nat} {ch : Bool} {pv : Value} {l xs : List Int} (hn : xs.length = N) (hb : base ≤ w.heap.size) (hbw : Below w.heap.size w w0) (h : AV base vb pb ch pv (l.map (Value.int .i32)) w) (hf : Fill 21 (.int .i32 0) w0 G (xs.map (Value.int .i32)) (xs.map (Value.int .i32)).length wr) (hl : xs.length ≤ 8796093022208) :
    AV base vb pb ch (.slice (some ⟨G, 0, none⟩) N N) (xs.map (Value.int .i32)) (wr.setCell ⟨pb, 0, none⟩ (.slice (some ⟨G, 0, none⟩) N N)) ∧ Moved vb pb pv (.slice (some ⟨G, 0, none⟩) N N) w (wr.setCell ⟨pb, 0, none⟩ (.slice (some ⟨G, 0, none⟩) N N)) := by
  subst hn
  have hV := h.later (hbw.trans (hf.bel.mono hbw.size))
  have hne : pb ≠ vb := cells_ne hV.p hV.v (by decide)
  have hown := hf.owned (by unfold maxLen; simp; omega) (Nat.le_trans hb hbw.size)
  have hB := hbw.trans (hf.bel.mono hbw.size)
  refine ⟨⟨heap_ne' (Ne.symm hne) hV.v, heap_set hV.p 0 _, ?_⟩, ⟨hB.os, hB.tape, hB.output, by rw [size_setCell]; exact hB.size, fun b hb0 h1 h2 _ => (heap_ne _ _ _ _ h2).trans (hB.block b hb0), .inr (by intro b hb; cases hb; exact Nat.le_trans hbw.size hf.lo)⟩⟩
  have := ownsRow_at (w' := wr.setCell ⟨pb, 0, none⟩ (.slice (some ⟨G, 0, none⟩) xs.length xs.length)) hown (fun g hg => heap_ne _ _ _ _ (by
    obtain ⟨_, c, hc⟩ := ownsRow_cells hown hg
    exact cells_ne hc hV.p (by decide)))
  simpa using this

/-- The slots' values of the append of one list behind the list. -/
def skV (vb pb : Nat) (ra : Option Addr) (n rc : Nat) (out : Value) : List Value := [.pointer (some ⟨vb, 0, none⟩), .pointer (some ⟨vb, 0, none⟩), .pointer (some ⟨vb, 0, none⟩), .pointer (some ⟨pb, 0, none⟩), .pointer (some ⟨vb, 0, none⟩), .pointer (some ⟨vb, 0, none⟩), .pointer (some ⟨vb, 0, none⟩), .pointer (some ⟨pb, 0, none⟩), .pointer (some ⟨pb, 0, none⟩), .slice ra n rc, out, undef, .pointer (some ⟨pb, 0, none⟩)]
structure SK (w0 : World) (base : Nat) (row : Value) (n : Nat) (xs news : List Value) (k : Nat) (V : List Value) (L : Nat → Bool) (f : Nat → Value) (w : World) : Prop where
  bel : w0.grownBy w row.ownBlock
  v : ∀ i, i < 13 → i ≠ 11 → L i = true → f (k + i) = V.getD i undef
  r0 : L 11 = false → w.ownsRow base 21 1 row n xs
  r1 : L 11 = true → w.ownsRow base 21 1 (f (k + 11)) (n + news.length) (xs ++ news)
  r3 : L 11 = true → ∀ g, (f (k + 11)).ownBlock = some g → row.ownBlock = some g ∨ w0.heap.size ≤ g
theorem SK.pure {w0 : World} {base : Nat} {row : Value} {n : Nat} {xs news : List Value} {k : Nat} {V : List Value} {L : Nat → Bool} {f : Nat → Value} {w : World} (h : SK w0 base row n xs news k V L f w) (i : Nat) (hi : i < 13) (h11 : i ≠ 11) : SK w0 base row n xs news k V (fun j => j == i || L j) (upd f (k + i) (V.getD i undef)) w := by
  refine ⟨h.bel, fun j hj hj2 hl => ?_, fun hl => ?_, fun hl => ?_, fun hl => ?_⟩
  · by_cases q : j = i
    · subst q; rw [upd_same]
    · rw [or_ne q] at hl
      rw [upd_ne _ _ (by omega)]
      exact h.v j hj hj2 hl
  · rw [or_ne (Ne.symm h11)] at hl
    exact h.r0 hl
  · rw [or_ne (Ne.symm h11)] at hl
    rw [upd_ne _ _ (by omega)]
    exact h.r1 hl
  · rw [or_ne (Ne.symm h11)] at hl
    rw [upd_ne _ _ (by omega)]
    exact h.r3 hl
theorem SK.appended {w0 : World} {base : Nat} {row : Value} {n : Nat} {xs news : List Value} {k : Nat} {V : List Value} {L : Nat → Bool} {f : Nat → Value} {w w' : World} {v' : Value} (h : SK w0 base row n xs news k V L f w) (hr : w'.ownsRow base 21 1 v' (n + news.length) (xs ++ news)) (hg : w.grownBy w' row.ownBlock) (ho : v'.ownBlock = row.ownBlock ∨ v'.ownBlock = some w.heap.size) : SK w0 base row n xs news k V (fun j => j == 11 || L j) (upd f (k + 11) v') w' := by
  refine ⟨grown_trans h.bel hg, fun j hj hj2 hl => ?_, fun hl => ?_, fun _ => ?_, fun _ g hg' => ?_⟩
  · rw [or_ne hj2] at hl
    rw [upd_ne _ _ (by omega)]
    exact h.v j hj hj2 hl
  · rw [or_same] at hl; cases hl
  · rw [upd_same]; exact hr
  · rw [upd_same] at hg'
    rcases ho with q | q
    · left; rw [← q]; exact hg'
    · right
      rw [q] at hg'
      cases hg'
      exact h.bel.size
def skI (w : World) (base vb pb k : Nat) (ch : Bool) (ra : Option Addr) (rc : Nat) (l xs : List Int) (out : Value) (L : Nat → Bool) (f : Nat → Value) (wz : World) : Prop :=
  (L 13 = false → SK w base (.slice ra l.length rc) l.length (l.map (Value.int .i32)) (xs.map (Value.int .i32)) k (skV vb pb ra l.length rc out) L f wz) ∧ (∀ i, i < 13 → L 13 = true → L i = true) ∧ (L 13 = true → AV base vb pb ch (f (k + 11)) ((l ++ xs).map (Value.int .i32)) wz ∧ Moved vb pb (.slice ra l.length rc) (f (k + 11)) w wz)
theorem skI.step {w : World} {base vb pb k : Nat} {ch : Bool} {ra : Option Addr} {rc : Nat} {l xs : List Int} {out : Value} {L : Nat → Bool} {f' : Nat → Value} {w' : World} (j : Nat) (hj : j < 13) (h13 : L 13 = false) (h : SK w base (.slice ra l.length rc) l.length (l.map (Value.int .i32)) (xs.map (Value.int .i32)) k (skV vb pb ra l.length rc out) (fun i => i == j || L i) f' w') : skI w base vb pb k ch ra rc l xs out (fun i => i == j || L i) f' w' := by
  have hn : (fun i => i == j || L i) 13 = false := by
    show (13 == j || L 13) = false
    rw [or_ne (by omega)]; exact h13
  exact ⟨fun _ => h, fun _ _ q => (by rw [hn] at q; cases q), fun q => (by rw [hn] at q; cases q)⟩
theorem sk_last {w : World} {base vb pb k : Nat} {ch : Bool} {ra : Option Addr} {rc : Nat} {l xs : List Int} {out : Value} {L : Nat → Bool} {f : Nat → Value} {wz : World} (h : AV base vb pb ch (.slice ra l.length rc) (l.map (Value.int .i32)) w) (hJ : SK w base (.slice ra l.length rc) l.length (l.map (Value.int .i32)) (xs.map (Value.int .i32)) k (skV vb pb ra l.length rc out) L f wz) (hA : L 11 = true) (hall : ∀ i, i < 13 → L i = true) :
    skI w base vb pb k ch ra rc l xs out (fun i => i == 13 || L i) f (wz.setCell ⟨pb, 0, none⟩ (f (k + 11))) := by
  refine ⟨fun q => absurd q (by simp), fun i hi _ => by
    show (i == 13 || L i) = true
    simp [hall i hi], fun _ => ?_⟩
  have hV : wz.heap[vb]? = some (.cells #[.pointer (some ⟨pb, 0, none⟩), .bool ch] 108 (0, 0)) := (hJ.bel.block _ (lt_of_block h.v) (fun q => row_ne h.v h.row (by decide) q.symm)).trans h.v
  have hP : wz.heap[pb]? = some (.cells #[.slice ra l.length rc] 82 (0, 0)) := (hJ.bel.block _ (lt_of_block h.p) (fun q => row_ne h.p h.row (by decide) q.symm)).trans h.p
  have hne : pb ≠ vb := cells_ne hP hV (by decide)
  have hown := hJ.r1 hA
  refine ⟨⟨heap_ne' (Ne.symm hne) hV, heap_set hP 0 _, ?_⟩, ⟨hJ.bel.os, hJ.bel.tape, hJ.bel.output, by rw [size_setCell]; exact hJ.bel.size, fun b hb h1 h2 h3 => (heap_ne _ _ _ _ h2).trans (hJ.bel.block b hb h3), ?_⟩⟩
  · have := ownsRow_at (w' := wz.setCell ⟨pb, 0, none⟩ (f (k + 11))) hown (fun g hg => heap_ne _ _ _ _ (by
      obtain ⟨_, c, hc⟩ := ownsRow_cells hown hg
      exact cells_ne hc hP (by decide)))
    simpa using this
  · cases hg : (f (k + 11)).ownBlock with
    | none =>
      right; intro b hb; cases hb
    | some g =>
      rcases hJ.r3 hA g hg with q | q
      · left; exact q.symm
      · right; intro b hb; cases hb; exact q

set_option maxRecDepth 100000 in
set_option maxHeartbeats 3200000 in
theorem setN_any (vb pb base : Nat) (ch : Bool) (pv : Value) (l : List Int) (s : ByteArray) (tl : List ByteArray) (w : World) (h : AV base vb pb ch pv (l.map (Value.int .i32)) w) (hl : l.length ≤ 4398046511104) (hs : s.size ≤ 1073741824) (hb : base ≤ w.heap.size) (hE : ErrsAt w) :
    Calls Tryd.prog 38 #[.pointer (some ⟨vb, 0, none⟩), .string s] w (Did 108 82 21 base vb pb pv (stepG cutN oneN (ch, l) ⟨0, s, tl⟩).1 (stepG cutN oneN (ch, l) ⟨0, s, tl⟩).2.1 ((stepG cutN oneN (ch, l) ⟨0, s, tl⟩).2.2.map (Value.int .i32)) w) := by
  have HV := Lib.hid (fun W (hb : Below w.heap.size w W) => h.later hb)
  have HE := Lib.hid (fun W (hb : Below w.heap.size w W) => hE.later hb.block)
  have HB := Lib.hid hb
  have C := Lib.hid (split_any s (by omega) w)
  have hpl := partsF_len s
  have HPS := Lib.hid (partsF_size s)
  have HST : Hid (stepG cutN oneN (ch, l) ⟨0, s, tl⟩ = match eachG oneN (partsF s) with | none => (true, (ch, l)) | some xs => (false, (true, if ch then l ++ xs else xs))) := Lib.hid (by unfold stepG cutN; rw [if_pos rfl]; cases eachG oneN (partsF s) <;> rfl)
  generalize stepG cutN oneN (ch, l) ⟨0, s, tl⟩ = sg at *
  clear h hE hb
  go_enter Tryd.func38, Tryd.ntmps38
  go_wp2_with fail
  refine C.out.mono ?_
  rintro e w1 ⟨v1, rfl, hrow, hb1⟩
  generalize partsF s = ps at *
  obtain ⟨NP, hNP⟩ : ∃ NP, NP = ps.length := ⟨_, rfl⟩
  rw [← hNP] at hpl hrow
  have HNP := Lib.hid hNP
  clear hNP
  obtain ⟨ra, rc, rfl⟩ := row_form hrow
  have HB1 := Lib.hid hb1
  have HROW := Lib.hid hrow
  clear hrow hb1 C
  obtain ⟨w2, hw2⟩ : ∃ w2, w2 = w1.alloc (.cells (Array.replicate NP (.int .i32 0)) 21) := ⟨_, rfl⟩
  obtain ⟨G, hG⟩ : ∃ G, G = w1.heap.size := ⟨_, rfl⟩
  have HM := make_full (P := Tryd.prog) w1 Tryd.underlying82 infoE rfl NP (by omega) (by omega)
  rw [← hw2, ← hG] at HM
  have F0 : Fill 21 (.int .i32 0) w1 G ((ps.map gN).map (Value.int .i32)) 0 w2 := by
    rw [hG]
    exact Fill.start (Below.refl _ _) (by rw [hw2, HNP.out]; simp)
  have F := Lib.hid F0
  clear F0 hG hw2
  go_wp2_with fail
  go_loopw [7, 8, 9, 10, 18] (fun _ _ _ _ vi wr => ∃ k : Nat, k ≤ NP ∧ vi = .int .i64 k ∧ Hid (∀ i (h : i < ps.length), i < k → oneN ps[i] ≠ none) ∧ Fill 21 (.int .i32 0) w1 G ((ps.map gN).map (Value.int .i32)) k wr) (fun _ _ _ _ vi _ => NP - (intOf vi).toNat)
  case atStart => exact ⟨0, Nat.zero_le _, rfl, Lib.hid (fun i _ hi => by omega), F.out⟩
  case round =>
    obtain ⟨k, hk, rfl, hno, hr⟩ := hrel
    have HR := Lib.hid hr
    have HBW := Lib.hid (Below.after HB1.out hr.bel)
    by_cases hltN : k < NP
    case neg =>
      have ek : k = NP := by omega
      have HEA : Hid (eachG oneN ps = some (ps.map gN)) := Lib.hid (each_yes ps (fun i hi => hno.out i hi (by have := HNP.out; omega)))
      have HF : Hid (Fill 21 (.int .i32 0) w1 G ((ps.map gN).map (Value.int .i32)) ((ps.map gN).map (Value.int .i32)).length wr) := Lib.hid (by
        rw [ek] at hr; simpa [← HNP.out] using hr)
      rw [HEA.out] at HST
      have hSG := HST.out
      clear HST
      subst hSG
      obtain ⟨xs, hxs⟩ : ∃ xs, ps.map gN = xs := ⟨_, rfl⟩
      have hxl : xs.length = NP := by rw [← hxs, HNP.out]; simp
      rw [hxs] at HF ⊢
      have HXS := Lib.hid hxs
      clear HEA hno hr hxs HROW HM F HR HPS
      have hv := HV.out wr HBW.out
      cases ch with
      | false =>
        have c1 := cell_of hv.v 0 _ rfl
        have c2 := cell_of hv.v 1 _ rfl
        have f2 := frozen_of hv.v 1
        have c3 := cell_of_one hv.p
        have f3 := free_of_one hv.p
        clear hv
        go_wp2_with fail
        go_ret
        obtain ⟨p1, p2⟩ := put_list (ch := false) hxl HB.out HB1.out (HV.out w (Below.refl _ _)) HF.out (by omega)
        exact ⟨_, .slice (some ⟨G, 0, none⟩) NP NP, rfl, rfl, by have hx := HXS.out; subst hx; simpa using p1.flag, p2.flag⟩
      | true =>
        obtain ⟨la, lc, rfl⟩ := row_form hv.row
        have H : Hid (AV base vb pb true (.slice la l.length lc) (l.map (Value.int .i32)) wr) := Lib.hid (by simpa using hv)
        have HFL := HF
        have HV2 : Hid (∀ W, Below w.heap.size w W → AV base vb pb true (.slice la l.length lc) (l.map (Value.int .i32)) W) := Lib.hid (fun W h => by simpa using HV.out W h)
        simp only [List.length_map] at hv ⊢
        have c2 := cell_of hv.v 1 _ rfl
        have hb : base ≤ wr.heap.size := Nat.le_trans HB.out HBW.out.size
        clear hv
        go_upto_region 15 with fail
        have HX : Hid (∀ W, wr.grownBy W (Value.slice la l.length lc).ownBlock → Vals W (.slice (some ⟨G, 0, none⟩) NP NP) (xs.map (Value.int .i32))) := Lib.hid (fun W hg => (by
          have hq := (HFL.out).snap (A := fun b => b < w1.heap.size) (fun b hb => hb)
          simp only [List.length_map] at hq
          rw [hxl] at hq
          refine (hq.later (A' := fun _ => False) fun b cs fz hbk hx => ⟨hg.block b (lt_of_block hbk) (fun q => hx ?_), fun q => q⟩).vals
          exact Nat.lt_of_lt_of_le (row_lt (HV2.out w (Below.refl _ _)).row q) HB1.out.size))
        refine wp_region_og [48, 49, 50, 51, 52, 53, 54, 55, 56, 57, 58, 59, 60] (skI wr base vb pb 48 true la lc l xs (.slice (some ⟨G, 0, none⟩) NP NP)) (by kernel_rfl) (by kernel_rfl) ⟨fun _ => ⟨grown_of ((Below.refl _ _).drew) _, fun _ _ _ h => Bool.noConfusion h, fun _ => by simpa using row_grow H.out.row ((Below.refl _ _).drew), fun h => Bool.noConfusion h, fun h => Bool.noConfusion h⟩, fun _ _ h => Bool.noConfusion h, fun h => Bool.noConfusion h⟩ ?_ ?_
        · intro i o ho L f wz hl hp hJ
          have hi : i < 14 := (Array.getElem?_eq_some_iff.1 ho).1
          have h13 : L 13 = false := by
            cases hc : L 13 with
            | false => rfl
            | true =>
              by_cases e : i = 13
              · subst e; rw [hc] at hl; cases hl
              · rw [hJ.2.1 i (by omega) hc] at hl; cases hl
          have hI := hJ.1 h13
          have HV : wz.heap[vb]? = some (.cells #[.pointer (some ⟨pb, 0, none⟩), .bool true] 108 (0, 0)) := (hI.bel.block _ (lt_of_block H.out.v) (fun q => row_ne H.out.v H.out.row (by decide) q.symm)).trans H.out.v
          have HPz : wz.heap[pb]? = some (.cells #[.slice la l.length lc] 82 (0, 0)) := (hI.bel.block _ (lt_of_block H.out.p) (fun q => row_ne H.out.p H.out.row (by decide) q.symm)).trans H.out.p
          obtain rfl | rfl | rfl | rfl | rfl | rfl | rfl | rfl | rfl | rfl | rfl | rfl | rfl | rfl : i = 0 ∨ i = 1 ∨ i = 2 ∨ i = 3 ∨ i = 4 ∨ i = 5 ∨ i = 6 ∨ i = 7 ∨ i = 8 ∨ i = 9 ∨ i = 10 ∨ i = 11 ∨ i = 12 ∨ i = 13 := by omega
          all_goals obtain rfl := Option.some.inj ho
          · exact og_op rfl rfl (og_value (run_move ((over_eval_out _ _ _ (by decide)).trans rfl)) ⟨_, over_put _ _ _ (by decide) _, skI.step 0 (by omega) h13 (hI.pure 0 (by omega) (by omega))⟩)
          · have e0 := hI.v 0 (by omega) (by omega) (hp ⟨0, .data⟩ (by simp) rfl)
            exact og_op rfl rfl (og_value (run_nilCheck ((over_eval _ _ _ (by decide) (by show 48 < 64; omega)).trans e0)) ⟨_, over_put _ _ _ (by decide) _, skI.step 1 (by omega) h13 (hI.pure 1 (by omega) (by omega))⟩)
          · have e1 := hI.v 1 (by omega) (by omega) (hp ⟨1, .data⟩ (by simp) rfl)
            exact og_op rfl rfl (og_value (run_field0 ((over_eval _ _ _ (by decide) (by show 49 < 64; omega)).trans e1)) ⟨_, over_put _ _ _ (by decide) _, skI.step 2 (by omega) h13 (hI.pure 2 (by omega) (by omega))⟩)
          · have e2 := hI.v 2 (by omega) (by omega) (hp ⟨2, .data⟩ (by simp) rfl)
            exact og_op rfl rfl (og_value (run_loadP ((over_eval _ _ _ (by decide) (by show 50 < 64; omega)).trans e2) (cell_of HV 0 _ rfl)) ⟨_, over_put _ _ _ (by decide) _, skI.step 3 (by omega) h13 (hI.pure 3 (by omega) (by omega))⟩)
          · exact og_op rfl rfl (og_value (run_move ((over_eval_out _ _ _ (by decide)).trans rfl)) ⟨_, over_put _ _ _ (by decide) _, skI.step 4 (by omega) h13 (hI.pure 4 (by omega) (by omega))⟩)
          · have e4 := hI.v 4 (by omega) (by omega) (hp ⟨4, .data⟩ (by simp) rfl)
            exact og_op rfl rfl (og_value (run_nilCheck ((over_eval _ _ _ (by decide) (by show 52 < 64; omega)).trans e4)) ⟨_, over_put _ _ _ (by decide) _, skI.step 5 (by omega) h13 (hI.pure 5 (by omega) (by omega))⟩)
          · have e5 := hI.v 5 (by omega) (by omega) (hp ⟨5, .data⟩ (by simp) rfl)
            exact og_op rfl rfl (og_value (run_field0 ((over_eval _ _ _ (by decide) (by show 53 < 64; omega)).trans e5)) ⟨_, over_put _ _ _ (by decide) _, skI.step 6 (by omega) h13 (hI.pure 6 (by omega) (by omega))⟩)
          · have e6 := hI.v 6 (by omega) (by omega) (hp ⟨6, .data⟩ (by simp) rfl)
            exact og_op rfl rfl (og_value (run_loadP ((over_eval _ _ _ (by decide) (by show 54 < 64; omega)).trans e6) (cell_of HV 0 _ rfl)) ⟨_, over_put _ _ _ (by decide) _, skI.step 7 (by omega) h13 (hI.pure 7 (by omega) (by omega))⟩)
          · have e7 := hI.v 7 (by omega) (by omega) (hp ⟨7, .data⟩ (by simp) rfl)
            exact og_op rfl rfl (og_value (run_nilCheck ((over_eval _ _ _ (by decide) (by show 55 < 64; omega)).trans e7)) ⟨_, over_put _ _ _ (by decide) _, skI.step 8 (by omega) h13 (hI.pure 8 (by omega) (by omega))⟩)
          · have e8 := hI.v 8 (by omega) (by omega) (hp ⟨8, .data⟩ (by simp) rfl)
            exact og_op rfl rfl (og_value (run_loadL ((over_eval _ _ _ (by decide) (by show 56 < 64; omega)).trans e8) (cell_of_one HPz)) ⟨_, over_put _ _ _ (by decide) _, skI.step 9 (by omega) h13 (hI.pure 9 (by omega) (by omega))⟩)
          · exact og_op rfl rfl (og_value (run_move ((over_eval_out _ _ _ (by decide)).trans rfl)) ⟨_, over_put _ _ _ (by decide) _, skI.step 10 (by omega) h13 (hI.pure 10 (by omega) (by omega))⟩)
          · have e9 := hI.v 9 (by omega) (by omega) (hp ⟨9, .data⟩ (by simp) rfl)
            have e10 := hI.v 10 (by omega) (by omega) (hp ⟨10, .data⟩ (by simp) rfl)
            refine og_op rfl rfl (wp_append_vals (.tmp 57) (.tmp 58) 82 21 rfl Tryd.underlying82 infoE rfl base _ l.length (l.map (Value.int .i32)) ((over_eval _ _ _ (by decide) (by show 57 < 64; omega)).trans e9) (hI.r0 hl) (Nat.le_trans hb hI.bel.size) (.slice (some ⟨G, 0, none⟩) NP NP) ((over_eval _ _ _ (by decide) (by show 58 < 64; omega)).trans e10) (xs.map (Value.int .i32)) (HX.out wz (hI.bel)) (by simp [Value.oneCell']) (by unfold maxLen; rw [List.length_map]; omega) (by rw [List.length_map]; omega) ?_)
            intro v' w' a1 a2 a3
            exact ⟨_, over_put _ _ _ (by decide) _, skI.step 11 (by omega) h13 (hI.appended a1 a2 a3)⟩
          · have e3 := hI.v 3 (by omega) (by omega) (hp ⟨3, .data⟩ (by simp) rfl)
            exact og_op rfl rfl (og_value (run_nilCheck ((over_eval _ _ _ (by decide) (by show 51 < 64; omega)).trans e3)) ⟨_, over_put _ _ _ (by decide) _, skI.step 12 (by omega) h13 (hI.pure 12 (by omega) (by omega))⟩)
          · have e12 := hI.v 12 (by omega) (by omega) (hp ⟨12, .data⟩ (by simp) rfl)
            have hA := hp ⟨11, .data⟩ (by simp) rfl
            have hall : ∀ i, i < 13 → L i = true := by
              intro i hi
              obtain rfl | rfl | rfl | rfl | rfl | rfl | rfl | rfl | rfl | rfl | rfl | rfl | rfl : i = 0 ∨ i = 1 ∨ i = 2 ∨ i = 3 ∨ i = 4 ∨ i = 5 ∨ i = 6 ∨ i = 7 ∨ i = 8 ∨ i = 9 ∨ i = 10 ∨ i = 11 ∨ i = 12 := by omega
              · exact hp ⟨0, .phase⟩ (by simp) rfl
              · exact hp ⟨1, .phase⟩ (by simp) rfl
              · exact hp ⟨2, .phase⟩ (by simp) rfl
              · exact hp ⟨3, .phase⟩ (by simp) rfl
              · exact hp ⟨4, .phase⟩ (by simp) rfl
              · exact hp ⟨5, .phase⟩ (by simp) rfl
              · exact hp ⟨6, .phase⟩ (by simp) rfl
              · exact hp ⟨7, .phase⟩ (by simp) rfl
              · exact hp ⟨8, .phase⟩ (by simp) rfl
              · exact hp ⟨9, .phase⟩ (by simp) rfl
              · exact hp ⟨10, .phase⟩ (by simp) rfl
              · exact hp ⟨11, .data⟩ (by simp) rfl
              · exact hp ⟨12, .data⟩ (by simp) rfl
            have hown := hI.r1 hA
            obtain ⟨g2, c2, hform⟩ := row_form hown
            refine og_op rfl rfl (og_skip (run_storeL ((over_eval _ _ _ (by decide) (by show 60 < 64; omega)).trans e12) ((over_eval _ _ _ (by decide) (by show 59 < 64; omega)).trans (show f 59 = _ from hform)) (cell_of_one HPz) (free_of_one HPz)) ⟨f, rfl, ?_⟩)
            rw [← show f 59 = _ from hform]
            exact sk_last H.out hI hA hall
        · intro L f wz hl hJ
          have hF := hJ.2.2 (hl 13 (by show 13 < 14; omega))
          have HF := Lib.hid hF
          have q2 := cell_of hF.1.v 1 _ rfl
          have q3 := frozen_of hF.1.v 1
          clear hJ hF hl
          simp only [over, ovl, List.contains, List.elem, Nat.reduceBEq, Bool.false_eq_true, if_false, if_true, Nat.reduceAdd] at HF ⊢
          generalize f 59 = v7 at *
          go_wp2_with fail
          go_ret
          exact ⟨_, _, rfl, rfl, by have hx := HXS.out; subst hx; simpa using AV.flag (c := true) HF.out.1, by simpa using (Moved.after HBW.out HF.out.2).flag⟩
    have hlt : k < ps.length := by rw [← HNP.out]; exact hltN
    have hrowr := row_grow HROW.out hr.bel
    obtain ⟨tb, tof, rfl, hc⟩ := Vals.cell (l := ps.map .string) (Vals.owned hrowr) (by simpa using Nat.lt_of_le_of_lt (Nat.zero_le _) hlt)
    have hck := hc k (by simpa using hlt)
    rw [List.getElem_map] at hck
    have hsz := HPS.out ps[k] (List.getElem_mem hlt)
    obtain ⟨v, hv, hC⟩ := parse0_any ps[k] (by omega) wr (HE.out wr HBW.out)
    have C := Lib.hid hC
    have hv' : ∀ n, oneN ps[k] = some n → v = n := hv
    have ho : (numI ps[k]).isNone = (oneN ps[k]).isNone := rfl
    rw [ho] at C
    have HNK : Hid (oneN ps[k] = none → eachG oneN ps = none) := Lib.hid (each_no ps k hlt)
    have HYK : Hid (oneN ps[k] ≠ none → ∀ i (h : i < ps.length), i < k + 1 → oneN ps[i] ≠ none) := Lib.hid (fun hx i h hi => by
      by_cases e : i = k
      · subst e; exact hx
      · exact hno.out i h (by omega))
    have HGK : Hid (((ps.map gN).map (Value.int .i32))[k]'(by simpa using hlt) = .int .i32 (gN ps[k])) := Lib.hid (by simp)
    clear hr hc hrowr hC hv hno
    have HGN : Hid (gN ps[k] = (oneN ps[k]).getD 0) := Lib.hid rfl
    generalize ps[k] = t at *
    cases hnum : oneN t with
    | none =>
      rw [hnum] at C
      rw [HNK.out hnum] at HST
      have hSG := HST.out
      subst hSG
      clear hv' HYK HNK HST
      go_wp2_with fail
      refine C.out.mono ?_
      rintro e w4 ⟨er, rfl, her, hb4⟩
      obtain ⟨t2, p2, rfl⟩ := her
      have HB4 := Lib.hid (Below.after HBW.out hb4)
      clear hb4
      go_wp2_with fail
      go_ret
      exact ⟨_, pv, rfl, ⟨_, _, rfl⟩, HV.out _ HB4.out, Moved.same HB4.out⟩
    | some n =>
      rw [hnum] at C
      obtain rfl := hv' n hnum
      obtain ⟨h1, h2⟩ := oneN_rg hnum
      have hwr : IntKind.i32.wrap v = v := by rw [IntKind.wrap_i32]; omega
      have HY := Lib.hid (HYK.out (by rw [hnum]; simp))
      have HGV : Hid (v = gN t) := Lib.hid (by rw [HGN.out, hnum]; rfl)
      clear hv' HYK HNK HGN hnum
      go_wp2_with fail
      refine C.out.mono ?_
      rintro e w4 ⟨er, rfl, her, hb4⟩
      have her2 : er = .nilIface := her
      subst her2
      have HR4 := Lib.hid (HR.out.later hb4)
      have g1 := HR4.out.cell (by simpa using hlt)
      have g2 := frozen_of HR4.out.row k
      clear hb4 her HR
      go_wp2_with fail
      go_roundw
      case rel => exact ⟨k + 1, by omega, by go_num, HY, HR4.out.next (by simpa using hlt) (by rw [HGK.out, ← HGV.out])⟩
      case measure => simp [intOf]; omega

set_option maxRecDepth 100000 in
theorem appendN_any (vb pb base : Nat) (ch : Bool) (pv : Value) (l : List Int) (t : ByteArray) (tl : List ByteArray) (w : World) (h : AV base vb pb ch pv (l.map (Value.int .i32)) w) (hl : l.length ≤ 4398046511104) (hs : t.size ≤ 1073741824) (hb : base ≤ w.heap.size) (hE : ErrsAt w) :
    Calls Tryd.prog 39 #[.pointer (some ⟨vb, 0, none⟩), .string t] w (Did 108 82 21 base vb pb pv (stepG cutN oneN (ch, l) ⟨1, t, tl⟩).1 (stepG cutN oneN (ch, l) ⟨1, t, tl⟩).2.1 ((stepG cutN oneN (ch, l) ⟨1, t, tl⟩).2.2.map (Value.int .i32)) w) := by
  have HV := Lib.hid (fun W (hb : Below w.heap.size w W) => h.later hb)
  have HBW0 := Lib.hid hb
  have C := Lib.hid (from_any vb t (by omega) w hE)
  have HST : Hid (stepG cutN oneN (ch, l) ⟨1, t, tl⟩ = match oneN t with | none => (true, (ch, l)) | some v => (false, (ch, l ++ [v]))) := Lib.hid (by unfold stepG; rw [if_neg (show ¬ (1 : Int) = 0 by decide), if_pos rfl]; cases oneN t <;> rfl)
  have HGN : Hid (gN t = (oneN t).getD 0) := Lib.hid rfl
  generalize stepG cutN oneN (ch, l) ⟨1, t, tl⟩ = sg at *
  clear h hE hb
  unfold ErOf at C
  cases hnum : oneN t with
  | none =>
    rw [hnum] at C HST
    have hSG := HST.out
    subst hSG
    go_enter Tryd.func39, Tryd.ntmps39
    go_wp2_with fail
    refine C.out.mono ?_
    rintro e w4 ⟨er, rfl, her, hb4⟩
    obtain ⟨t2, p2, rfl⟩ := her
    have HB4 := Lib.hid hb4
    clear hb4
    go_wp2_with fail
    go_ret
    exact ⟨_, pv, rfl, ⟨_, _, rfl⟩, HV.out _ HB4.out, Moved.same HB4.out⟩
  | some s =>
    have hgs : gN t = s := by rw [HGN.out, hnum]; rfl
    rw [hnum] at C HST
    rw [hgs] at C
    have hSG := HST.out
    subst hSG
    clear hgs HGN HST hnum
    go_enter Tryd.func39, Tryd.ntmps39
    go_wp2_with fail
    refine C.out.mono ?_
    rintro e w4 ⟨er, rfl, her, hb4⟩
    have her2 : er = .nilIface := her
    subst her2
    have HB4 := Lib.hid hb4
    have hb : base ≤ w4.heap.size := Nat.le_trans HBW0.out hb4.size
    have h := HV.out w4 hb4
    have H := Lib.hid h
    have l1 := lt_of_block h.v
    have l2 := lt_of_block h.p
    clear h her hb4 C
    obtain ⟨ra, rc, rfl⟩ := row_form H.out.row
    simp only [List.length_map] at *
    go_upto_region 4 with fail
    have WF : (apS 16).Wf := ⟨by decide, by decide⟩
    have mV : ∀ (i : Nat) (v : Value) (w w' : World), w.grownBy w' (Value.slice ra l.length rc).ownBlock → v = (apV vb pb ra l.length rc s).getD i undef → v = (apV vb pb ra l.length rc s).getD i undef := fun _ _ _ _ _ h => h
    have mC : ∀ (c : List Value) (w w' : World), w.grownBy w' (Value.slice ra l.length rc).ownBlock → c = [Value.int .i32 s] → c = [Value.int .i32 s] := fun _ _ _ _ h => h
    refine wp_region_og [16, 17, 18, 19, 20, 21, 22, 23, 24, 25, 26, 27, 28, 29] (apI w4 base vb pb 16 ch ra rc l s) (by kernel_rfl) (by kernel_rfl) ⟨fun _ => SJ.start rfl (by simpa using H.out.row) _ (fun h => absurd h (by decide)), fun _ _ h => Bool.noConfusion h, fun h => Bool.noConfusion h⟩ ?_ ?_
    · intro i o ho L f wz hl hp hJ
      have hi : i < 15 := (Array.getElem?_eq_some_iff.1 ho).1
      have h14 : L 14 = false := by
        cases hc : L 14 with
        | false => rfl
        | true =>
          by_cases e : i = 14
          · subst e; rw [hc] at hl; cases hl
          · rw [hJ.2.1 i (by omega) hc] at hl; cases hl
      have hI := hJ.1 h14
      have HV : wz.heap[vb]? = some (.cells #[.pointer (some ⟨pb, 0, none⟩), .bool ch] 108 (0, 0)) := (hI.bel.block _ (lt_of_block H.out.v) (fun q => row_ne H.out.v H.out.row (by decide) (by simpa using q.symm))).trans H.out.v
      have HPz : wz.heap[pb]? = some (.cells #[.slice ra l.length rc] 82 (0, 0)) := (hI.bel.block _ (lt_of_block H.out.p) (fun q => row_ne H.out.p H.out.row (by decide) (by simpa using q.symm))).trans (by simpa using H.out.p)
      obtain rfl | rfl | rfl | rfl | rfl | rfl | rfl | rfl | rfl | rfl | rfl | rfl | rfl | rfl | rfl : i = 0 ∨ i = 1 ∨ i = 2 ∨ i = 3 ∨ i = 4 ∨ i = 5 ∨ i = 6 ∨ i = 7 ∨ i = 8 ∨ i = 9 ∨ i = 10 ∨ i = 11 ∨ i = 12 ∨ i = 13 ∨ i = 14 := by omega
      all_goals obtain rfl := Option.some.inj ho
      · exact og_op rfl rfl (og_value (run_move ((over_eval_out _ _ _ (by decide)).trans rfl)) ⟨_, over_put _ _ _ (by decide) _, apI.step 0 (by omega) h14 (hI.pure mV mC WF (i := 0) (by decide) (Below.refl _ _) rfl)⟩)
      · have e0 := hI.v 0 16 (by decide) (hp ⟨0, .data⟩ (by simp) rfl)
        exact og_op rfl rfl (og_value (run_nilCheck ((over_eval _ _ _ (by decide) (by show 16 < 30; omega)).trans e0)) ⟨_, over_put _ _ _ (by decide) _, apI.step 1 (by omega) h14 (hI.pure mV mC WF (i := 1) (by decide) (Below.refl _ _) rfl)⟩)
      · have e1 := hI.v 1 17 (by decide) (hp ⟨1, .data⟩ (by simp) rfl)
        exact og_op rfl rfl (og_value (run_field0 ((over_eval _ _ _ (by decide) (by show 17 < 30; omega)).trans e1)) ⟨_, over_put _ _ _ (by decide) _, apI.step 2 (by omega) h14 (hI.pure mV mC WF (i := 2) (by decide) (Below.refl _ _) rfl)⟩)
      · have e2 := hI.v 2 18 (by decide) (hp ⟨2, .data⟩ (by simp) rfl)
        exact og_op rfl rfl (og_value (run_loadP ((over_eval _ _ _ (by decide) (by show 18 < 30; omega)).trans e2) (cell_of HV 0 _ rfl)) ⟨_, over_put _ _ _ (by decide) _, apI.step 3 (by omega) h14 (hI.pure mV mC WF (i := 3) (by decide) (Below.refl _ _) rfl)⟩)
      · exact og_op rfl rfl (og_value (run_move ((over_eval_out _ _ _ (by decide)).trans rfl)) ⟨_, over_put _ _ _ (by decide) _, apI.step 4 (by omega) h14 (hI.pure mV mC WF (i := 4) (by decide) (Below.refl _ _) rfl)⟩)
      · have e4 := hI.v 4 20 (by decide) (hp ⟨4, .data⟩ (by simp) rfl)
        exact og_op rfl rfl (og_value (run_nilCheck ((over_eval _ _ _ (by decide) (by show 20 < 30; omega)).trans e4)) ⟨_, over_put _ _ _ (by decide) _, apI.step 5 (by omega) h14 (hI.pure mV mC WF (i := 5) (by decide) (Below.refl _ _) rfl)⟩)
      · have e5 := hI.v 5 21 (by decide) (hp ⟨5, .data⟩ (by simp) rfl)
        exact og_op rfl rfl (og_value (run_field0 ((over_eval _ _ _ (by decide) (by show 21 < 30; omega)).trans e5)) ⟨_, over_put _ _ _ (by decide) _, apI.step 6 (by omega) h14 (hI.pure mV mC WF (i := 6) (by decide) (Below.refl _ _) rfl)⟩)
      · have e6 := hI.v 6 22 (by decide) (hp ⟨6, .data⟩ (by simp) rfl)
        exact og_op rfl rfl (og_value (run_loadP ((over_eval _ _ _ (by decide) (by show 22 < 30; omega)).trans e6) (cell_of HV 0 _ rfl)) ⟨_, over_put _ _ _ (by decide) _, apI.step 7 (by omega) h14 (hI.pure mV mC WF (i := 7) (by decide) (Below.refl _ _) rfl)⟩)
      · have e7 := hI.v 7 23 (by decide) (hp ⟨7, .data⟩ (by simp) rfl)
        exact og_op rfl rfl (og_value (run_nilCheck ((over_eval _ _ _ (by decide) (by show 23 < 30; omega)).trans e7)) ⟨_, over_put _ _ _ (by decide) _, apI.step 8 (by omega) h14 (hI.pure mV mC WF (i := 8) (by decide) (Below.refl _ _) rfl)⟩)
      · have e8 := hI.v 8 24 (by decide) (hp ⟨8, .data⟩ (by simp) rfl)
        exact og_op rfl rfl (og_value (run_loadL ((over_eval _ _ _ (by decide) (by show 24 < 30; omega)).trans e8) (cell_of_one HPz)) ⟨_, over_put _ _ _ (by decide) _, apI.step 9 (by omega) h14 (hI.pure mV mC WF (i := 9) (by decide) (Below.refl _ _) rfl)⟩)
      · exact og_op rfl rfl (og_value (run_move ((over_eval_out _ _ _ (by decide)).trans rfl)) ⟨_, over_put _ _ _ (by decide) _, apI.step 10 (by omega) h14 (hI.pure mV mC WF (i := 10) (by decide) (Below.refl _ _) rfl)⟩)
      · have e10 := hI.v 10 26 (by decide) (hp ⟨10, .data⟩ (by simp) rfl)
        exact og_op rfl rfl (og_value (run_build1 ((over_eval _ _ _ (by decide) (by show 26 < 30; omega)).trans e10)) ⟨_, over_put _ _ _ (by decide) _, apI.step 11 (by omega) h14 (hI.built mV mC WF hl [Value.int .i32 s] rfl)⟩)
      · have e9 := hI.v 9 25 (by decide) (hp ⟨9, .data⟩ (by simp) rfl)
        have hB := hp ⟨11, .data⟩ (by simp) rfl
        have hZ := hp ⟨9, .data⟩ (by simp) rfl
        refine og_op rfl rfl (Oper.wp_mono ?_ (hI.append (Q := _) mV mC WF hl hB hZ (.tmp 25) (.tmp 27) rfl rfl (by decide) Tryd.underlying82 infoE rfl (by omega) ((over_eval _ _ _ (by decide) (by show 25 < 30; omega)).trans e9) (over_eval _ _ _ (by decide) (by show 27 < 30; omega)) (fun cs _ h => by subst h; exact ⟨rfl, by simp [Value.oneCell']⟩) (by unfold maxLen; omega) (by omega) (Nat.le_trans hb hI.bel.size)))
        rintro a' w' ⟨f', e1, e2⟩
        exact ⟨f', e1, apI.step 12 (by omega) h14 e2⟩
      · have e3 := hI.v 3 19 (by decide) (hp ⟨3, .data⟩ (by simp) rfl)
        exact og_op rfl rfl (og_value (run_nilCheck ((over_eval _ _ _ (by decide) (by show 19 < 30; omega)).trans e3)) ⟨_, over_put _ _ _ (by decide) _, apI.step 13 (by omega) h14 (hI.pure mV mC WF (i := 13) (by decide) (Below.refl _ _) rfl)⟩)
      · have e13 := hI.v 13 29 (by decide) (hp ⟨13, .data⟩ (by simp) rfl)
        have hA := hp ⟨12, .data⟩ (by simp) rfl
        have hall : ∀ i, i < 14 → L i = true := by
          intro i hi
          obtain rfl | rfl | rfl | rfl | rfl | rfl | rfl | rfl | rfl | rfl | rfl | rfl | rfl | rfl : i = 0 ∨ i = 1 ∨ i = 2 ∨ i = 3 ∨ i = 4 ∨ i = 5 ∨ i = 6 ∨ i = 7 ∨ i = 8 ∨ i = 9 ∨ i = 10 ∨ i = 11 ∨ i = 12 ∨ i = 13 := by omega
          · exact hp ⟨0, .phase⟩ (by simp) rfl
          · exact hp ⟨1, .phase⟩ (by simp) rfl
          · exact hp ⟨2, .phase⟩ (by simp) rfl
          · exact hp ⟨3, .phase⟩ (by simp) rfl
          · exact hp ⟨4, .phase⟩ (by simp) rfl
          · exact hp ⟨5, .phase⟩ (by simp) rfl
          · exact hp ⟨6, .phase⟩ (by simp) rfl
          · exact hp ⟨7, .phase⟩ (by simp) rfl
          · exact hp ⟨8, .phase⟩ (by simp) rfl
          · exact hp ⟨9, .phase⟩ (by simp) rfl
          · exact hp ⟨10, .phase⟩ (by simp) rfl
          · exact hp ⟨11, .phase⟩ (by simp) rfl
          · exact hp ⟨12, .phase⟩ (by simp) rfl
          · exact hp ⟨13, .data⟩ (by simp) rfl
        obtain ⟨cs, -, hown⟩ := hI.r1 hA
        obtain ⟨g2, c2, hform⟩ := row_form hown
        refine og_op rfl rfl (og_skip (run_storeL ((over_eval _ _ _ (by decide) (by show 29 < 30; omega)).trans e13) ((over_eval _ _ _ (by decide) (by show 28 < 30; omega)).trans (show f 28 = _ from hform)) (cell_of_one HPz) (free_of_one HPz)) ⟨f, rfl, ?_⟩)
        rw [← show f 28 = _ from hform]
        exact ap_last (by simpa using H.out) hI hA hall
    · intro L f wz hl hJ
      have hF := hJ.2.2 (hl 14 (by show 14 < 15; omega))
      have HF := Lib.hid hF
      clear hJ hF hl
      simp only [over, ovl, List.contains, List.elem, Nat.reduceBEq, Bool.false_eq_true, if_false, if_true, Nat.reduceAdd] at HF ⊢
      generalize f 28 = v7 at *
      go_wp2_with fail
      go_ret
      exact ⟨_, _, rfl, rfl, by simpa using HF.out.1, Moved.after HB4.out HF.out.2⟩


set_option maxRecDepth 100000 in
set_option maxHeartbeats 3200000 in
theorem replaceN_any (vb pb base : Nat) (ch : Bool) (pv : Value) (l : List Int) (sv : Value) (s : ByteArray) (ps : List ByteArray) (w : World) (h : AV base vb pb ch pv (l.map (Value.int .i32)) w) (ht : Strs w sv ps) (hpl : ps.length ≤ 1073741824) (hs : ∀ t ∈ ps, t.size ≤ 1073741824) (hb : base ≤ w.heap.size) (hE : ErrsAt w) :
    Calls Tryd.prog 40 #[.pointer (some ⟨vb, 0, none⟩), sv] w (Did 108 82 21 base vb pb pv (stepG cutN oneN (ch, l) ⟨2, s, ps⟩).1 (stepG cutN oneN (ch, l) ⟨2, s, ps⟩).2.1 ((stepG cutN oneN (ch, l) ⟨2, s, ps⟩).2.2.map (Value.int .i32)) w) := by
  have HV := Lib.hid (fun W (hb : Below w.heap.size w W) => h.later hb)
  have HE := Lib.hid (fun W (hb : Below w.heap.size w W) => hE.later hb.block)
  obtain ⟨ta, tc, rfl⟩ := ht.len
  obtain ⟨NP, hNP⟩ : ∃ NP, NP = ps.length := ⟨_, rfl⟩
  rw [← hNP] at hpl ⊢
  have HNP := Lib.hid hNP
  clear hNP
  have HT : Hid (∀ W, Below w.heap.size w W → Strs W (.slice ta NP tc) ps) := Lib.hid (fun W (hb : Below w.heap.size w W) => by rw [HNP.out]; exact ht.later hb.block)
  have HB := Lib.hid hb
  have HPS := Lib.hid hs
  have HST : Hid (stepG cutN oneN (ch, l) ⟨2, s, ps⟩ = match eachG oneN ps with | none => (true, (ch, l)) | some xs => (false, (ch, xs))) := Lib.hid (by unfold stepG; rw [if_neg (show ¬ (2 : Int) = 0 by decide), if_neg (show ¬ (2 : Int) = 1 by decide)]; cases eachG oneN ps <;> rfl)
  generalize stepG cutN oneN (ch, l) ⟨2, s, ps⟩ = sg at *
  clear h hE hb ht hs
  obtain ⟨w2, hw2⟩ : ∃ w2, w2 = w.alloc (.cells (Array.replicate NP (.int .i32 0)) 21) := ⟨_, rfl⟩
  obtain ⟨G, hG⟩ : ∃ G, G = w.heap.size := ⟨_, rfl⟩
  have HM := make_full (P := Tryd.prog) w Tryd.underlying82 infoE rfl NP (by omega) (by omega)
  rw [← hw2, ← hG] at HM
  have F0 : Fill 21 (.int .i32 0) w G ((ps.map gN).map (Value.int .i32)) 0 w2 := by
    rw [hG]
    exact Fill.start (Below.refl _ _) (by rw [hw2, HNP.out]; simp)
  have F := Lib.hid F0
  clear F0 hG hw2
  go_enter Tryd.func40, Tryd.ntmps40
  go_wp2_with fail
  go_loopw [6, 7, 8, 14] (fun _ _ _ vi wr => ∃ k : Nat, k ≤ NP ∧ vi = .int .i64 k ∧ Hid (∀ i (h : i < ps.length), i < k → oneN ps[i] ≠ none) ∧ Fill 21 (.int .i32 0) w G ((ps.map gN).map (Value.int .i32)) k wr) (fun _ _ _ vi _ => NP - (intOf vi).toNat)
  case atStart => exact ⟨0, Nat.zero_le _, rfl, Lib.hid (fun i _ hi => by omega), F.out⟩
  case round =>
    obtain ⟨k, hk, rfl, hno, hr⟩ := hrel
    have HR := Lib.hid hr
    by_cases hltN : k < NP
    case neg =>
      have ek : k = NP := by omega
      have HEA : Hid (eachG oneN ps = some (ps.map gN)) := Lib.hid (each_yes ps (fun i hi => hno.out i hi (by have := HNP.out; omega)))
      have HF : Hid (Fill 21 (.int .i32 0) w G ((ps.map gN).map (Value.int .i32)) ((ps.map gN).map (Value.int .i32)).length wr) := Lib.hid (by
        rw [ek] at hr; simpa [← HNP.out] using hr)
      rw [HEA.out] at HST
      have hSG := HST.out
      clear HST
      subst hSG
      obtain ⟨xs, hxs⟩ : ∃ xs, ps.map gN = xs := ⟨_, rfl⟩
      have hxl : xs.length = NP := by rw [← hxs, HNP.out]; simp
      rw [hxs] at HF ⊢
      have hv := HV.out wr hr.bel
      have c1 := cell_of hv.v 0 _ rfl
      have c3 := cell_of_one hv.p
      have f3 := free_of_one hv.p
      have HXS := Lib.hid hxs
      clear HEA hno hr hxs HM F HR HPS hv
      go_wp2_with fail
      go_ret
      obtain ⟨p1, p2⟩ := put_list hxl HB.out (Below.refl _ _) (HV.out w (Below.refl _ _)) HF.out (by omega)
      exact ⟨_, .slice (some ⟨G, 0, none⟩) NP NP, rfl, rfl, by have hx := HXS.out; subst hx; simpa using p1, p2⟩
    have hlt : k < ps.length := by rw [← HNP.out]; exact hltN
    obtain ⟨tb, tof, rfl, hc⟩ := (HT.out wr hr.bel).cell (by omega)
    have hck := hc k hlt
    have hsz := HPS.out ps[k] (List.getElem_mem hlt)
    have C := Lib.hid (from_any vb ps[k] (by omega) wr (HE.out wr hr.bel))
    unfold ErOf at C
    have HNK : Hid (oneN ps[k] = none → eachG oneN ps = none) := Lib.hid (each_no ps k hlt)
    have HYK : Hid (oneN ps[k] ≠ none → ∀ i (h : i < ps.length), i < k + 1 → oneN ps[i] ≠ none) := Lib.hid (fun hx i h hi => by
      by_cases e : i = k
      · subst e; exact hx
      · exact hno.out i h (by omega))
    have HGK : Hid (((ps.map gN).map (Value.int .i32))[k]'(by simpa using hlt) = .int .i32 (gN ps[k])) := Lib.hid (by simp)
    clear hr hc hno
    generalize ps[k] = t at *
    go_wp2_with fail
    refine C.out.mono ?_
    rintro e w4 ⟨er, rfl, her, hb4⟩
    have HB4 := Lib.hid (Below.after HR.out.bel hb4)
    have HR4 := Lib.hid (HR.out.later hb4)
    have g1 := HR4.out.cell (by simpa using hlt)
    have g2 := frozen_of HR4.out.row k
    have HNX := Lib.hid (HR4.out.next (by simpa using hlt) (show Value.int .i32 (gN t) = _ from HGK.out.symm))
    clear hb4 HR
    cases hnum : oneN t with
    | none =>
      rw [hnum] at her
      obtain ⟨t2, p2, rfl⟩ := her
      rw [HNK.out hnum] at HST
      have hSG := HST.out
      subst hSG
      clear HYK HNK HST
      go_wp2_with fail
      go_ret
      exact ⟨_, pv, rfl, ⟨_, _, rfl⟩, HV.out _ HNX.out.bel, Moved.same HNX.out.bel⟩
    | some n =>
      rw [hnum] at her
      have her2 : er = .nilIface := her
      subst her2
      have HY := Lib.hid (HYK.out (by rw [hnum]; simp))
      clear HYK HNK her hnum
      go_wp2_with fail
      go_roundw
      case rel => exact ⟨k + 1, by omega, by go_num, HY, HNX.out⟩
      case measure => simp [intOf]; omega
end Go.Proofs.YtlnnmionbflolaaDoor
