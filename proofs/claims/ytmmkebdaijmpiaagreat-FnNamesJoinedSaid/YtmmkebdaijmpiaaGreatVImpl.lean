/- impl.Visit: the flags that were set, as they are visited. -/
import Derived.Test.YtmmkebdaijmpiaaGreatVVisit
import Derived.Test.YtmmkebdaijmpiaaGreatNGuard
namespace Go.Proofs.YtmmkebdaijmpiaaGreat
open Go.RowKit
set_option linter.unusedVariables false
set_option linter.unusedSimpArgs false

/-- The place of a name among definitions. -/
def placeD (l : List DefD) (nm : ByteArray) : Option Nat := l.findIdx? fun x => decide (x.nm = nm)
def stepD (l : List DefD) (nm : ByteArray) (acts : List Nat) : List Nat := match placeD l nm with
  | none => acts
  | some i => if i ∈ acts then acts else acts ++ [i]
/-- The places that are set behind these names. -/
def actsD (l : List DefD) (ss : List ByteArray) : List Nat := ss.foldl (fun a nm => stepD l nm a) []
theorem placeE_eq (es : List (DefD × Nat)) (nm : ByteArray) : placeE es nm = placeD (es.map (·.1)) nm := by
  rw [placeE, placeD, List.findIdx?_map]; rfl
theorem stepA_eq (es : List (DefD × Nat)) (nm : ByteArray) (acts : List Nat) : stepA es nm acts = stepD (es.map (·.1)) nm acts := by
  rw [stepA, stepD, placeE_eq]
  cases placeD (es.map (·.1)) nm <;> rfl
theorem actsD_snoc (l : List DefD) (ss : List ByteArray) (nm : ByteArray) : actsD l (ss ++ [nm]) = stepD l nm (actsD l ss) := by
  rw [actsD, List.foldl_append]; rfl
theorem stepD_length (l : List DefD) (nm : ByteArray) (acts : List Nat) : (stepD l nm acts).length ≤ acts.length + 1 := by
  unfold stepD
  split
  · omega
  · split
    · omega
    · simp
theorem actsD_length (l : List DefD) : ∀ (ss : List ByteArray), (actsD l ss).length ≤ ss.length := by
  intro ss
  suffices h : ∀ (a : List Nat), (ss.foldl (fun a nm => stepD l nm a) a).length ≤ a.length + ss.length by simpa [actsD] using h []
  induction ss with
  | nil => intro a; simp
  | cons x ss ih =>
    intro a
    have h1 := ih (stepD l x a)
    have h2 := stepD_length l x a
    simp only [List.foldl_cons, List.length_cons]
    omega
/-- What is visited. -/
def visitedD (so : Bool) (l : List DefD) (acts : List Nat) : List ByteArray := if so then srt (acts.map fun i => l[i]!.nm) else acts.map fun i => l[i]!.nm
theorem stepD_lt {l : List DefD} {nm : ByteArray} {acts : List Nat} (h : ∀ i ∈ acts, i < l.length) : ∀ i ∈ stepD l nm acts, i < l.length := by
  unfold stepD
  cases hp : placeD l nm with
  | none => exact h
  | some i =>
    simp only
    split
    · exact h
    · intro j hj
      rcases List.mem_append.1 hj with hj | hj
      · exact h j hj
      · rw [List.mem_singleton] at hj
        subst hj
        rw [placeD, List.findIdx?_eq_some_iff_getElem] at hp
        exact hp.1
theorem actsD_lt (l : List DefD) (ss : List ByteArray) : ∀ i ∈ actsD l ss, i < l.length := by
  suffices h : ∀ (ss : List ByteArray) (a : List Nat), (∀ i ∈ a, i < l.length) → ∀ i ∈ ss.foldl (fun a nm => stepD l nm a) a, i < l.length from h ss [] (fun i hi => by simp at hi)
  intro ss
  induction ss with
  | nil => intro a h; exact h
  | cons x ss ih => intro a h; exact ih _ (stepD_lt h)
theorem visited_eq (so : Bool) (es : List (DefD × Nat)) (acts : List Nat) (h : ∀ i ∈ acts, i < es.length) : visited so es acts = visitedD so (es.map (·.1)) acts := by
  have : actN es acts = acts.map fun (i : Nat) => ((es.map (fun (e : DefD × Nat) => e.1))[i]!).nm := by
    unfold actN
    refine List.map_congr_left fun i hi => ?_
    have h1 := h i hi
    have h2 : i < (es.map (fun (e : DefD × Nat) => e.1)).length := by simpa using h1
    rw [getElem!_pos es i h1, getElem!_pos (es.map (fun (e : DefD × Nat) => e.1)) i h2]
    simp
  rw [visited, visitedD, this]

set_option maxRecDepth 100000 in
set_option maxHeartbeats 3200000 in
theorem visit1_any (w : World) (l : List DefD) (ss : List ByteArray) (so : Bool) (dv sv : Value) (hd : Defs w dv l) (hs : Strs w sv ss) (hok : AllOk l) (hl : l.length ≤ 16) (hx : ∀ x ∈ l, (x.k = 0 ∨ x.k = 1) ∧ x.sh.size ≤ 60) (hss : ss.length ≤ 1048576) {D S T X : Nat}
    (hD : w.heap[D]? = some (.cells #[dv] 22 (0, 0))) (hS : w.heap[S]? = some (.cells #[.bool so] 4 (0, 0))) (hT : w.heap[T]? = some (.cells #[sv] 23 (0, 0))) (hX : w.heap[X]? = some (.cells #[.slice none 0 0] 23 (0, 0))) :
    Calls Tryz.prog 25 #[ptr D, ptr S, ptr T, ptr X] w fun e w' => e = .returned (.tuple #[]) ∧ ∃ ov, OutS w X (visitedD so l (actsD l ss)) ov w' := by
  have CF := Lib.hid (flagsOfV_any dv l w hd hok hl hx)
  have d0 := cell_of_one hD
  have lD := lt_of_block hD
  have HS1 := Lib.hid (fun w1 (hb : Below w.heap.size w w1) => cell_of_one ((hb.block _ (lt_of_block hS)).trans hS))
  have HT1 := Lib.hid (fun w1 (hb : Below w.heap.size w w1) => cell_of_one ((hb.block _ (lt_of_block hT)).trans hT))
  have HX1 := Lib.hid (fun w1 (hb : Below w.heap.size w w1) => show OutS w X [] (.slice none 0 0) w1 from ⟨Apart.of hb (Nat.le_refl _), (hb.block _ (lt_of_block hX)).trans hX, World.ownsRow_nil _ _ _ _⟩)
  have HSS := Lib.hid (fun w1 (hb : Below w.heap.size w w1) => hs.below hb)
  have HOK := Lib.hid hok
  obtain ⟨a, cap, rfl, -⟩ := hd.len
  obtain ⟨a2, cap2, rfl⟩ := hs.len
  clear hd hs hok hx hD hS hT hX
  unfold ptr at CF ⊢
  go_enter Tryz.func25, Tryz.ntmps25
  go_wp2_with fail
  refine CF.out.mono ?_
  rintro e w1 ⟨F, es, rfl, hes, hm, hf⟩
  obtain ⟨fm, ofv, sm, v1⟩ := VSet.start hm hf (by rw [hes]; exact HOK.out)
  have HES := Lib.hid hes
  have c0 := v1.cF 0 (.bool true) rfl
  have z0 := v1.zF 0
  have l0 := lt_of_block v1.hF
  have s1 := HS1.out w1 v1.bel
  have V2 := Lib.hid (v1.setF 0 (.bool so) (so' := so) (am' := none) (oav' := .slice none 0 0) rfl v1.ham v1.rOa (fun b e => by cases e))
  have t2 := HT1.out _ V2.out.bel
  clear CF hm hf v1 hes HS1
  go_wp2_with fail
  clear c0 z0 l0 s1 t2
  generalize w1.setCell ⟨F, 0, none⟩ (.bool so) = w2 at *
  go_loopw [15] (fun vi wr => ∃ k : Nat, k ≤ ss.length ∧ vi = .int .i64 k ∧ ∃ am oav, VSet w F so fm es am oav ofv sm (actsD l (ss.take k)) wr) (fun vi _ => ss.length - (intOf vi).toNat)
  case atStart => exact ⟨0, Nat.zero_le _, rfl, _, _, V2.out⟩
  case round =>
    obtain ⟨k, hk, rfl, am, oav, hv⟩ := hrel
    have HV := Lib.hid hv
    clear hv
    have hal : (actsD l (ss.take k)).length ≤ 1048576 := by
      have := actsD_length l (ss.take k)
      rw [List.length_take] at this
      omega
    by_cases hlt : k < ss.length
    case neg =>
      have HE : Hid (ss.take k = ss) := Lib.hid (List.take_of_length_le (by omega))
      have CV := Lib.hid (visit_any HV.out (HX1.out wr HV.out.bel) hal)
      have HW : Hid (visited so es (actsD l (ss.take k)) = visitedD so l (actsD l ss)) := Lib.hid (by
        rw [visited_eq so es _ HV.out.alt, HES.out, HE.out])
      have hmf : ∀ (fn : Fn) (first cap : Array Value) (w : World), (Instr.makeFunc fn first cap).run Tryz.prog w = .ok (.func fn first cap) w := fun _ _ _ _ => rfl
      clear HV
      unfold ptr at CV
      go_wp2_with fail
      refine CV.out.mono ?_
      rintro e w3 ⟨rfl, ov, ho⟩
      have HO := Lib.hid ho
      clear ho CV
      go_wp2_with fail
      go_end0
      exact ⟨rfl, ov, by rw [← HW.out]; exact HO.out⟩
    obtain ⟨b, off, rfl, hc⟩ := (HSS.out wr HV.out.bel).cell (by omega)
    have c1 := hc k hlt
    have HT := Lib.hid (show ss.take (k + 1) = ss.take k ++ [ss[k]] from List.take_succ_eq_append_getElem hlt)
    generalize ss[k] = nm at *
    have CS := Lib.hid (fsSet_any HV.out nm hal)
    have HA : Hid (stepA es nm (actsD l (ss.take k)) = actsD l (ss.take (k + 1))) := Lib.hid (by rw [HT.out, actsD_snoc, stepA_eq, HES.out])
    clear hc
    unfold ptr at CS
    go_wp2_with fail
    refine CS.out.mono ?_
    rintro e w3 ⟨⟨v, rfl⟩, am', oav', hv3⟩
    rw [HA.out] at hv3
    have HV3 := Lib.hid hv3
    clear hv3 CS
    go_wp2_with fail
    go_roundw
    case rel => exact ⟨k + 1, by omega, by go_num, _, _, HV3.out⟩
    case measure => simp [intOf]; omega

theorem strs_own {w : World} {B n : Nat} {v : Value} {l : List ByteArray} (h : w.ownsRow B 9 1 v n (l.map Value.string)) (hn : n = l.length) : Strs w v l := by
  rcases h.2 with ⟨rfl, h0⟩ | ⟨b, cap, cur, rfl, hb, hh, hnc, hcm, hcs, ht⟩
  · obtain rfl : l = [] := List.eq_nil_of_length_eq_zero (by omega)
    exact Strs.nil w _ _
  · subst hn
    refine ⟨_, _, rfl, .inr ⟨b, 0, cur, _, _, rfl, hh, fun i hi => ?_⟩⟩
    have : (l.map Value.string)[i]? = some (.string l[i]) := by simp [hi]
    rw [← ht, List.getElem?_take, if_pos (by omega), Array.getElem?_toList] at this
    rw [Nat.zero_add]; exact this
set_option maxRecDepth 100000 in
set_option maxHeartbeats 3200000 in
theorem implVisit_any (w : World) (l : List DefD) (ss : List ByteArray) (so : Bool) (dv sv : Value) (hd : Defs w dv l) (hs : Strs w sv ss) (hok : AllOk l) (hl : l.length ≤ 16) (hx : ∀ x ∈ l, (x.k = 0 ∨ x.k = 1) ∧ x.sh.size ≤ 60) (hss : ss.length ≤ 1048576) :
    Calls Tryz.prog 11 #[dv, sv, .bool so] w fun e w' => ∃ rv, e = .returned (.tuple #[rv, .bool true]) ∧ Below w.heap.size w w' ∧ Strs w' rv (visitedD so l (actsD l ss)) := by
  have hmf : ∀ (fn : Fn) (first cap : Array Value) (w : World), (Instr.makeFunc fn first cap).run Tryz.prog w = .ok (.func fn first cap) w := fun _ _ _ _ => rfl
  obtain ⟨a, cap, rfl, -⟩ := hd.len
  obtain ⟨a2, cap2, rfl⟩ := hs.len
  obtain ⟨w3, hw3⟩ : ∃ w3, w3 = (((w.alloc (.cells #[.slice a l.length cap] 22)).alloc (.cells #[.slice a2 ss.length cap2] 23)).alloc (.cells #[.bool so] 4)).alloc (.cells #[.slice none 0 0] 23) := ⟨_, rfl⟩
  have HB3 : Hid (Below w.heap.size w w3) := Lib.hid (by
    subst hw3
    exact ((((Below.refl _ _).alloc (Nat.le_refl _) _).alloc (by simp only [World.size_alloc]; omega) _).alloc (by simp only [World.size_alloc]; omega) _).alloc (by simp only [World.size_alloc]; omega) _)
  have hD : w3.heap[w.heap.size]? = some (.cells #[.slice a l.length cap] 22 (0, 0)) := by
    subst hw3
    exact heap_past' (by simp only [World.size_alloc]; omega) (heap_past' (by simp only [World.size_alloc]; omega) (heap_past' (by simp only [World.size_alloc]; omega) (heap_at _ _ _ rfl)))
  have hT : w3.heap[w.heap.size + 1]? = some (.cells #[.slice a2 ss.length cap2] 23 (0, 0)) := by
    subst hw3
    exact heap_past' (by simp only [World.size_alloc]; omega) (heap_past' (by simp only [World.size_alloc]; omega) (heap_at _ _ _ (by simp only [World.size_alloc])))
  have hS : w3.heap[w.heap.size + 1 + 1]? = some (.cells #[.bool so] 4 (0, 0)) := by
    subst hw3
    exact heap_past' (by simp only [World.size_alloc]; omega) (heap_at _ _ _ (by simp only [World.size_alloc]))
  have hX : w3.heap[w.heap.size + 1 + 1 + 1]? = some (.cells #[.slice none 0 0] 23 (0, 0)) := by
    subst hw3
    exact heap_at _ _ _ (by simp only [World.size_alloc])
  have hXB : w.heap.size + 1 + 1 + 1 < w3.heap.size := lt_of_block hX
  have C : Hid (Calls Tryz.prog 24 #[.func (.func 25) #[] #[.pointer (some ⟨w.heap.size, 0, none⟩), .pointer (some ⟨w.heap.size + 1 + 1, 0, none⟩), .pointer (some ⟨w.heap.size + 1, 0, none⟩), .pointer (some ⟨w.heap.size + 1 + 1 + 1, 0, none⟩)]] w3 fun e w' => e = .returned (.bool false) ∧ ∃ ov, OutS (w3.alloc (.cells #[.bool false] 4)) (w.heap.size + 1 + 1 + 1) (visitedD so l (actsD l ss)) ov w') := Lib.hid (by
    refine guarded_ok 25 _ w3 (fun w' => ∃ ov, OutS (w3.alloc (.cells #[.bool false] 4)) (w.heap.size + 1 + 1 + 1) (visitedD so l (actsD l ss)) ov w') _ rfl (fun _ => by go_simp) ?_ ?_
    · exact visit1_any _ l ss so _ _ ((hd.later HB3.out).later ((Below.refl _ w3).alloc (Nat.le_refl _) _)) ((hs.below HB3.out).alloc _) hok hl hx hss (heap_past' (lt_of_block hD) hD) (heap_past' (lt_of_block hS) hS) (heap_past' (lt_of_block hT) hT) (heap_past' (lt_of_block hX) hX)
    · rintro w' ⟨ov, h⟩
      exact (h.fr.block _ (by simp only [World.size_alloc]; omega) (by omega)).trans (heap_at _ _ _ rfl))
  have HBB : Hid (∀ w', Apart (w.heap.size + 1 + 1 + 1) (w3.alloc (.cells #[.bool false] 4)) w' → Below w.heap.size w w') := Lib.hid fun w' h =>
    HB3.out.trans ⟨h.os, h.tape, h.output, Nat.le_trans (by simp only [World.size_alloc]; omega) h.size, fun b hb => (h.block b (by simp only [World.size_alloc]; have := HB3.out.size; omega) (by omega)).trans (heap_past _ _ _ (by have := HB3.out.size; omega))⟩
  clear hd hs hok hx hD hT hS hX HB3
  generalize hV : visitedD so l (actsD l ss) = V at *
  go_enter Tryz.func11, Tryz.ntmps11
  go_wp2_with fail
  rw [← hw3]
  refine C.out.mono ?_
  rintro e w5 ⟨rfl, ov, ho⟩
  obtain ⟨a5, c5, rfl⟩ := row_form ho.row
  have f5 := cell_of_one ho.box
  have l5 := lt_of_block ho.box
  have HO := Lib.hid ho
  clear C ho
  go_wp2_with fail
  go_ret2
  exact ⟨_, rfl, HBB.out _ HO.out.fr, strs_own HO.out.row rfl⟩
end Go.Proofs.YtmmkebdaijmpiaaGreat
