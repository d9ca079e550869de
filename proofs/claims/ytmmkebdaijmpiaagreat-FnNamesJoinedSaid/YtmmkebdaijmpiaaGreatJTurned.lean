/- impl.turned, walked at the two turns of FnNamesJoined. -/
import Derived.Test.YtmmkebdaijmpiaaGreatJTurn
import Derived.Laws.Tables
import Derived.Laws.Rows
namespace Go.Proofs.YtmmkebdaijmpiaaGreat
open Go.RowKit
set_option linter.unusedVariables false
set_option linter.unusedSimpArgs false

theorem FlagD.far {w0 w w' : World} {nm sh : ByteArray} {k : Int} {on : Bool} {tx : ByteArray} {G b : Nat} (h : FlagD w0 nm sh k on tx G w) {c : Array Value} (hb : w.heap[b]? = some (.cells c 32 (0, 0))) (hk : ∀ b', b' ≠ b → w'.heap[b']? = w.heap[b']?) : FlagD w0 nm sh k on tx G w' := by
  rcases h with ⟨e, h⟩ | ⟨e, h⟩
  · obtain ⟨P, lP, hG, hP⟩ := h.val
    exact .inl ⟨e, ⟨P, lP, (hk _ (cells_ne hG hb (by decide))).trans hG, (hk _ (cells_ne hP hb (by decide))).trans hP⟩⟩
  · obtain ⟨P, lP, hG, hP⟩ := h.val
    exact .inr ⟨e, ⟨P, lP, (hk _ (cells_ne hG hb (by decide))).trans hG, (hk _ (cells_ne hP hb (by decide))).trans hP⟩⟩
theorem SetE.far {w0 w w' : World} {F b : Nat} {l : List DefD} (h : SetE w0 F l w) {c : Array Value} (hb : w.heap[b]? = some (.cells c 32 (0, 0))) (hk : ∀ b', b' ≠ b → w'.heap[b']? = w.heap[b']?) (hbel : Below w0.heap.size w0 w') : SetE w0 F l w' := by
  obtain ⟨es, e, ⟨fm, sm, ofv, hm⟩, hf⟩ := h
  refine ⟨es, e, ⟨fm, sm, ofv, hm.move hbel (hk _ (cells_ne hm.hF hb (by decide))) (fun b' e => hk b' (hm.hfm.ne hb b' e)) (fun b' e => hk b' (hm.hsm.ne hb b' e)) (fun g e => ?_) (fun b' c' hc => hk b' (cells_ne hc hb (by decide)))⟩, fun x hx => (hf x hx).far hb hk⟩
  obtain ⟨_, c', hc⟩ := ownsRow_cells hm.rOf e
  exact hk g (cells_ne hc hb (by decide))
/-- The turn that looks up a name. -/
def turnL (nm : ByteArray) : Array Value := #[.int .i64 1, .string nm, .string ⟨#[]⟩, .bool false, .slice none 0 0, .slice none 0 0]
/-- What is told of a definition's flag. -/
def tellD (x : DefD) : Array Value := noteA x.nm x.sh (if x.k = 1 then tB x.on else x.tx)
theorem says_flag {w0 w : World} {x : DefD} {G : Nat} (h : FlagD w0 x.nm x.sh x.k x.on x.tx G w) : ∃ t P df no, w.heap[G]? = some (.cells (flN x.nm x.sh (.iface t (ptr P)) df no) 85 (0, 0)) ∧ P < w.heap.size ∧ Says t P (if x.k = 1 then tB x.on else x.tx) w := by
  rcases h with ⟨e, h⟩ | ⟨e, h⟩
  · obtain ⟨P, lP, hG, hP⟩ := h.val
    exact ⟨_, P, _, _, hG, lt_of_block hP, by rw [if_neg (by rw [e]; decide)]; exact says_str hP⟩
  · obtain ⟨P, lP, hG, hP⟩ := h.val
    exact ⟨_, P, _, _, hG, lt_of_block hP, by rw [if_pos e]; exact says_bool hP⟩
theorem look_set {w0 w : World} {F : Nat} {l : List DefD} {nm : ByteArray} {i : Nat} (h : SetE w0 F l w) (hp : placeD l nm = some i) :
    ∃ G, FlagD w0 l[i]!.nm l[i]!.sh l[i]!.k l[i]!.on l[i]!.tx G w ∧ Calls Tryz.prog 49 #[ptr F, .string nm] w fun e w' => e = .returned (ptr G) ∧ Below w.heap.size w w' := by
  obtain ⟨es, rfl, hm, hf⟩ := h
  have hpe : placeE es nm = some i := by rw [placeE_eq]; exact hp
  obtain ⟨hi, -⟩ := place_some hpe
  have hi' : i < (es.map (fun (e : DefD × Nat) => e.1)).length := by simpa using hi
  have e1 : (es.map (fun (e : DefD × Nat) => e.1))[i]! = es[i].1 := by rw [getElem!_pos _ i hi']; simp
  refine ⟨es[i].2, ?_, ?_⟩
  · show FlagD w0 (es.map (fun (e : DefD × Nat) => e.1))[i]!.nm (es.map (fun (e : DefD × Nat) => e.1))[i]!.sh (es.map (fun (e : DefD × Nat) => e.1))[i]!.k (es.map (fun (e : DefD × Nat) => e.1))[i]!.on (es.map (fun (e : DefD × Nat) => e.1))[i]!.tx es[i].2 w
    rw [e1]
    exact hf _ (List.getElem_mem hi)
  · have := lookF_any hm nm
    rw [show lookV es nm = ptr es[i].2 from by
      rw [lookV, hpe]
      show ptr es[i]!.2 = _
      rw [getElem!_pos es i hi]] at this
    exact this

set_option maxRecDepth 100000 in
set_option maxHeartbeats 3200000 in
theorem turnedLook_any {w0 w : World} {F : Nat} {l : List DefD} {nm : ByteArray} {i : Nat} (h : SetE w0 F l w) (hp : placeD l nm = some i) :
    Calls Tryz.prog 32 #[ptr F, .agg (turnL nm)] w fun e w' => e = .returned (.agg (tellD l[i]!)) ∧ Below w.heap.size w w' := by
  have hmf : ∀ (fn : Fn) (first cap : Array Value) (w : World), (Instr.makeFunc fn first cap).run Tryz.prog w = .ok (.func fn first cap) w := fun _ _ _ _ => rfl
  obtain ⟨w4, hw4⟩ : ∃ w4, w4 = (((w.alloc (.cells #[ptr F] 65)).alloc (.cells (turnL nm) 37)).alloc (.cells note0 32)).alloc (.cells note0 32) := ⟨_, rfl⟩
  have hb4 : Below w.heap.size w w4 := by
    subst hw4
    exact ((((Below.refl _ _).alloc (Nat.le_refl _) _).alloc (by simp only [World.size_alloc]; omega) _).alloc (by simp only [World.size_alloc]; omega) _).alloc (by simp only [World.size_alloc]; omega) _
  have hN : w4.heap[w.heap.size + 1 + 1]? = some (.cells note0 32 (0, 0)) := by
    subst hw4
    exact heap_past' (by simp only [World.size_alloc]; omega) (heap_at _ _ _ (by simp only [World.size_alloc]))
  have HN := Lib.hid hN
  have HB := Lib.hid hb4
  obtain ⟨G, hf, hl⟩ := look_set (h.later hb4) hp
  have HF := Lib.hid hf
  have CL := Lib.hid hl
  clear hb4 hN hf hl h hp
  generalize l[i]! = x at *
  unfold turnL note0 at hw4
  unfold turnL
  unfold ptr at *
  go_enter Tryz.func32, Tryz.ntmps32
  go_wp2_with fail
  rw [← hw4]
  refine CL.out.mono ?_
  rintro e w5 ⟨rfl, hb5⟩
  obtain ⟨t, P, df, no, hG, hP, hS⟩ := says_flag (HF.out.keep (KeepT.below hb5))
  have CN := Lib.hid (noted_any hG hP hS)
  have HB5 := Lib.hid hb5
  clear hG hP hS hb5 CL
  unfold ptr at CN
  go_wp2_with fail
  refine CN.out.mono ?_
  rintro e w6 ⟨rfl, hb6⟩
  have hN6 : w6.heap[w.heap.size + 1 + 1]? = some (.cells note0 32 (0, 0)) := by
    have h5 := (HB5.out.block _ (lt_of_block HN.out)).trans HN.out
    exact (hb6.block _ (lt_of_block h5)).trans h5
  have HN6 := Lib.hid hN6
  have HB6 : Hid (Below w.heap.size w w6) := Lib.hid ((HB.out.trans (HB5.out.mono HB.out.size)).trans (hb6.mono (Nat.le_trans HB.out.size HB5.out.size)))
  clear hN6 hb6 CN
  obtain ⟨c, hc⟩ : ∃ c, c = noteA x.nm x.sh (if x.k = 1 then tB x.on else x.tx) := ⟨_, rfl⟩
  have hc1 : (Tryz.prog.info? 32).map (·.size) = some c.size := by rw [hc]; kernel_rfl
  have hc2 : (note0).size = c.size := by rw [hc]; rfl
  have hc3 : c.all (·.oneCell') = true := by rw [hc]; simp [noteA, Value.oneCell']
  have HC := Lib.hid hc
  rw [← hc]
  clear hc
  go_wp2_with (refine wpList_store_row (by rfl) 32 (.tmp 4) (.tmp 16) (by rfl) (w.heap.size + 1 + 1) c (by rfl) (by rfl) _ _ HN6.out hc1 hc2 hc3 ?_)
  (try simp only [Exit.inBlock, Exit.then])
  refine bodyPost_ret (results_cell_row rfl _ _ (w.heap.size + 1 + 1) _ _ (0, 0) _ rfl (setRow_heap _ _ _ _ _ _ HN6.out) Tryz.underlying32 rfl hc1) rfl ⟨by rw [HC.out]; rfl, below_setRow HB6.out (by omega) _⟩

set_option maxRecDepth 100000 in
set_option maxHeartbeats 3200000 in
theorem turnedAdd_any {w0 w : World} {F : Nat} {l m : List DefD} {dv : Value} (h : SetE w0 F l w) (hd : Defs w dv m) (hok : AllOk l) (ok2 : AllOk m) (hj : JoinOk l (sortD m)) (hl : l.length ≤ 1000) (hm : m.length ≤ 16) (hx : ∀ x ∈ m, (x.k = 0 ∨ x.k = 1) ∧ x.sh.size ≤ 60) :
    Calls Tryz.prog 32 #[ptr F, .agg (turnA dv)] w fun e w' => e = .returned (.agg note0) ∧ SetE w0 F (joinD l (sortD m)) w' ∧ KeepT w w' := by
  have hmf : ∀ (fn : Fn) (first cap : Array Value) (w : World), (Instr.makeFunc fn first cap).run Tryz.prog w = .ok (.func fn first cap) w := fun _ _ _ _ => rfl
  obtain ⟨w4, hw4⟩ : ∃ w4, w4 = (((w.alloc (.cells #[ptr F] 65)).alloc (.cells (turnA dv) 37)).alloc (.cells note0 32)).alloc (.cells note0 32) := ⟨_, rfl⟩
  have hb4 : Below w.heap.size w w4 := by
    subst hw4
    exact ((((Below.refl _ _).alloc (Nat.le_refl _) _).alloc (by simp only [World.size_alloc]; omega) _).alloc (by simp only [World.size_alloc]; omega) _).alloc (by simp only [World.size_alloc]; omega) _
  have hB : w4.heap[w.heap.size]? = some (.cells #[ptr F] 65 (0, 0)) := by
    subst hw4
    exact heap_past' (by simp only [World.size_alloc]; omega) (heap_past' (by simp only [World.size_alloc]; omega) (heap_past' (by simp only [World.size_alloc]; omega) (heap_at _ _ _ rfl)))
  have hT : w4.heap[w.heap.size + 1]? = some (.cells (turnA dv) 37 (0, 0)) := by
    subst hw4
    exact heap_past' (by simp only [World.size_alloc]; omega) (heap_past' (by simp only [World.size_alloc]; omega) (heap_at _ _ _ (by simp only [World.size_alloc])))
  have hN : w4.heap[w.heap.size + 1 + 1]? = some (.cells note0 32 (0, 0)) := by
    subst hw4
    exact heap_past' (by simp only [World.size_alloc]; omega) (heap_at _ _ _ (by simp only [World.size_alloc]))
  have hM : w4.heap[w.heap.size + 1 + 1 + 1]? = some (.cells note0 32 (0, 0)) := by
    subst hw4
    exact heap_at _ _ _ (by simp only [World.size_alloc])
  have hba := (Below.refl w4.heap.size w4).alloc (Nat.le_refl _) (.cells #[.bool false] 4)
  have C : Hid (Calls Tryz.prog 24 #[.func (.func 58) #[] #[ptr w.heap.size, ptr (w.heap.size + 1)]] w4 fun e w' => e = .returned (.bool false) ∧ SetE w0 F (joinD l (sortD m)) w' ∧ KeepT w4 w') := Lib.hid (by
    refine (guarded_ok 58 _ w4 (fun w' => SetE w0 F (joinD l (sortD m)) w' ∧ KeepT (w4.alloc (.cells #[.bool false] 4)) w') _ rfl (fun _ => by unfold ptr; go_simp) ?_ ?_).mono ?_
    · exact turned3_any ((h.later hb4).later hba) ((hd.later hb4).later hba) hok ok2 hj hl hm hx (heap_past' (lt_of_block hB) hB) (heap_past' (lt_of_block hT) hT)
    · rintro w' ⟨_, hk⟩
      exact hk.cells _ _ _ _ (heap_at _ _ _ rfl) (by decide) (by decide)
    · rintro e w' ⟨rfl, h1, h2⟩
      exact ⟨rfl, h1, (KeepT.below hba).trans h2⟩)
  have HN := Lib.hid hN
  have HM := Lib.hid hM
  have HB := Lib.hid hb4
  have HS := Lib.hid h.bel.size
  obtain ⟨a, cap, rfl, -⟩ := hd.len
  clear hb4 hN hM hB hT hba h hd hok ok2 hj hx
  unfold turnA note0 at hw4
  unfold turnA
  unfold ptr at *
  go_enter Tryz.func32, Tryz.ntmps32
  go_wp2_with fail
  rw [← hw4]
  refine C.out.mono ?_
  rintro e w5 ⟨rfl, hs5, hk5⟩
  have HN5 := Lib.hid (hk5.cells _ _ _ _ HN.out (by decide) (by decide))
  have HM5 := Lib.hid (hk5.cells _ _ _ _ HM.out (by decide) (by decide))
  have HS5 := Lib.hid hs5
  have HK5 := Lib.hid ((KeepT.below HB.out).trans hk5)
  clear hs5 hk5 C
  have hc1 : (Tryz.prog.info? 32).map (·.size) = some note0.size := by kernel_rfl
  go_wp2_with (first
    | (refine wpList_load_row (by rfl) 32 (.tmp 5) (by rfl) (w.heap.size + 1 + 1 + 1) (by rfl) 32 note0 (0, 0) _ HM5.out Tryz.underlying32 rfl hc1 ?_)
    | (refine wpList_store_row (by rfl) 32 (.tmp 4) (.tmp 110) (by rfl) (w.heap.size + 1 + 1) note0 (by rfl) (by rfl) _ _ HN5.out hc1 (by rfl) (by simp [note0, Value.oneCell']) ?_))
  (try simp only [Exit.inBlock, Exit.then])
  refine bodyPost_ret (results_cell_row rfl _ _ (w.heap.size + 1 + 1) _ _ (0, 0) _ rfl (setRow_heap _ _ _ _ _ _ HN5.out) Tryz.underlying32 rfl hc1) rfl ⟨rfl, ?_, ?_⟩
  · refine HS5.out.far HN5.out (fun b' hb => setRow_other _ _ _ _ hb) (below_setRow HS5.out.bel ?_ _)
    have := HS.out
    omega
  · refine ⟨by have := HK5.out.size; simp only [World.setRow, Array.size_modify]; omega, fun b c t z hb h1 h2 => (setRow_other _ _ _ _ ?_).trans (HK5.out.cells b c t z hb h1 h2)⟩
    have := lt_of_block hb
    omega
end Go.Proofs.YtmmkebdaijmpiaaGreat
