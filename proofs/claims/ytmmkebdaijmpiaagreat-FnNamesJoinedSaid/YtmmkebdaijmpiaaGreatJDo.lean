/- The reference's Do at the two turns of FnNamesJoined. -/
import Derived.Test.YtmmkebdaijmpiaaGreatJSet
import Derived.Test.YtmmkebdaijmpiaaGreatVDo
namespace Go.Proofs.YtmmkebdaijmpiaaGreat
open Go.RowKit
set_option linter.unusedVariables false
set_option linter.unusedSimpArgs false

theorem NSet.noteRow {w0 w : World} {N b : Nat} {fv sv : Value} {pl : Bool} {l : List NFlag} (h : NSet w0 N fv pl sv l w) {old : Array Value} (hb : w.heap[b]? = some (.cells old 32 (0, 0))) (hle : w0.heap.size ≤ b) (cs : Array Value) : NSet w0 N fv pl sv l (w.setRow b cs) :=
  ⟨below_setRow h.bel hle cs, (setRow_other _ _ _ _ (cells_ne h.hN hb (by decide))).trans h.hN, ownsRow_at h.row fun g e => by
    obtain ⟨_, c', hc⟩ := ownsRow_cells h.row e
    exact setRow_other _ _ _ _ (cells_ne hc hb (by decide)), h.lN⟩
theorem KeepB.noteRow {w w1 : World} {b : Nat} (h : KeepB w w1) (hle : w.heap.size ≤ b) (cs : Array Value) : KeepB w (w1.setRow b cs) := fun x c t hb h1 h2 h3 => (setRow_other _ _ _ _ (by have := lt_of_block hb; omega)).trans (h x c t hb h1 h2 h3)
def noteP : Array Value := #[.bool false, .bool true, .bool false, .bool false, .string ⟨#[]⟩, .string ⟨#[]⟩, .string ⟨#[]⟩, .int .i64 0, .slice none 0 0]
/-- What comes of the turn that adds a set. -/
def AddedS (w0 w : World) (N : Nat) (sv : Value) (l m : List DefD) (e : Ending) (w' : World) : Prop :=
  ∃ b nt, e = .returned (.tuple #[.agg nt, .bool b]) ∧ nt = (if b then note0 else noteP) ∧ (b = true → JoinOk l (sortD m) ∧ ∃ fv', NSet w0 N fv' false sv ((joinD l (sortD m)).map firstF) w') ∧ Below w0.heap.size w0 w' ∧ KeepB w w'

set_option maxRecDepth 100000 in
set_option maxHeartbeats 1600000 in
theorem turnS_any {w0 w : World} {N : Nat} {fv sv dv : Value} {l m : List DefD} (h : NSet w0 N fv false sv (l.map firstF) w) (hd : Defs w dv m) (ok2 : AllOk m) (hl : l.length ≤ 16) (hm : m.length ≤ 16) (hx2 : ∀ x ∈ m, (x.k = 0 ∨ x.k = 1) ∧ x.sh.size ≤ 60) (hnm : ∀ x ∈ m, x.nm.size ≤ 1048576) :
    Calls Tryz.prog 23 #[.pointer (some ⟨N, 0, none⟩), .agg (turnA dv)] w (AddedS w0 w N sv l m) := by
  have hb2 : Below w.heap.size w ((w.alloc (.cells (turnA dv) 37)).alloc (.cells note0 32)) :=
    ((Below.refl _ _).alloc (Nat.le_refl _) _).alloc (by simp only [World.size_alloc]; omega) _
  have HB := Lib.hid hb2
  have HNB : Hid (((w.alloc (.cells (turnA dv) 37)).alloc (.cells note0 32)).heap[w.heap.size + 1]? = some (.cells note0 32 (0, 0))) := Lib.hid (heap_at _ _ _ (by simp only [World.size_alloc]))
  have HS := Lib.hid h.bel.size
  have CF := Lib.hid (find_any (h.later hb2) ⟨#[]⟩ (by rw [List.length_map]; omega))
  have CA := Lib.hid (addSet_any (h.later hb2) (hd.later hb2) ok2 hl hm hx2 hnm)
  obtain ⟨a, cap, rfl, -⟩ := hd.len
  clear h hd ok2 hx2 hnm hb2
  unfold turnA note0 at CF CA HNB HB
  unfold turnA
  generalize idxI (fun x => x.d.nm = (⟨#[]⟩ : ByteArray)) (l.map firstF) = ix at *
  go_enter Tryz.func23, Tryz.ntmps23
  go_wp2_with fail
  refine CF.out.mono ?_
  rintro e w3 ⟨rfl, rfl⟩
  go_wp2_with fail
  refine CA.out.mono ?_
  rintro e w4 ⟨b, rfl, hb, hbel, hkb⟩
  have HNB4 := Lib.hid (hkb _ _ _ HNB.out (by decide) (by decide) (by decide))
  have HBB := Lib.hid hb
  have HBL := Lib.hid hbel
  have HKB := Lib.hid ((KeepB.below HB.out).trans hkb)
  have HLE : Hid (w0.heap.size ≤ w.heap.size + 1) := Lib.hid (by have := HS.out; omega)
  have hc1 : (Tryz.prog.info? 32).map (·.size) = some note0.size := by kernel_rfl
  have hc2 : (Tryz.prog.info? 32).map (·.size) = some noteP.size := by kernel_rfl
  clear hb hbel hkb CA CF
  cases b with
  | false =>
    go_wp2_with (refine wpList_store_row (by rfl) 32 (.tmp 4) (.tmp 79) (by rfl) (w.heap.size + 1) noteP (by rfl) (by rfl) _ _ HNB4.out hc2 (by rfl) (by simp [noteP, Value.oneCell']) ?_)
    (try simp only [Exit.inBlock, Exit.then])
    refine bodyPost_ret (results_cell_row2 rfl _ _ (w.heap.size + 1) _ _ (0, 0) _ rfl (setRow_heap _ _ _ _ _ _ HNB4.out) Tryz.underlying32 rfl hc2) rfl ⟨false, noteP, rfl, rfl, fun h => Bool.noConfusion h, below_setRow HBL.out HLE.out _, HKB.out.noteRow (by omega) _⟩
  | true =>
    obtain ⟨hj, fv', hn⟩ := HBB.out rfl
    have HJ := Lib.hid hj
    have HN := Lib.hid (hn.noteRow HNB4.out HLE.out note0)
    clear hj hn HBB
    go_wp2_with (refine wpList_store_row (by rfl) 32 (.tmp 4) (.tmp 119) (by rfl) (w.heap.size + 1) note0 (by rfl) (by rfl) _ _ HNB4.out hc1 (by rfl) (by simp [note0, Value.oneCell']) ?_)
    (try simp only [Exit.inBlock, Exit.then])
    refine bodyPost_ret (results_cell_row2 rfl _ _ (w.heap.size + 1) _ _ (0, 0) _ rfl (setRow_heap _ _ _ _ _ _ HNB4.out) Tryz.underlying32 rfl hc1) rfl ⟨true, note0, rfl, rfl, fun _ => ⟨HJ.out, fv', HN.out⟩, below_setRow HBL.out HLE.out _, HKB.out.noteRow (by omega) _⟩

set_option maxRecDepth 100000 in
set_option maxHeartbeats 1600000 in
theorem doA_any {w0 w : World} {N : Nat} {fv sv dv : Value} {l m : List DefD} (h : NSet w0 N fv false sv (l.map firstF) w) (hd : Defs w dv m) (ok2 : AllOk m) (hl : l.length ≤ 16) (hm : m.length ≤ 16) (hx2 : ∀ x ∈ m, (x.k = 0 ∨ x.k = 1) ∧ x.sh.size ≤ 60) (hnm : ∀ x ∈ m, x.nm.size ≤ 1048576) :
    Calls Tryz.prog 10 #[.pointer (some ⟨N, 0, none⟩), .agg (turnA dv)] w (AddedS w0 w N sv l m) := by
  have hb2 : Below w.heap.size w ((w.alloc (.cells (turnA dv) 37)).alloc (.cells note0 32)) :=
    ((Below.refl _ _).alloc (Nat.le_refl _) _).alloc (by simp only [World.size_alloc]; omega) _
  have HB := Lib.hid hb2
  have HNB : Hid (((w.alloc (.cells (turnA dv) 37)).alloc (.cells note0 32)).heap[w.heap.size + 1]? = some (.cells note0 32 (0, 0))) := Lib.hid (heap_at _ _ _ (by simp only [World.size_alloc]))
  have HTB : Hid (((w.alloc (.cells (turnA dv) 37)).alloc (.cells note0 32)).heap[w.heap.size]? = some (.cells (turnA dv) 37 (0, 0))) := Lib.hid (heap_past' (by simp only [World.size_alloc]; omega) (heap_at _ _ _ rfl))
  have HS := Lib.hid h.bel.size
  have CT := Lib.hid (turnS_any (h.later hb2) (hd.later hb2) ok2 hl hm hx2 hnm)
  obtain ⟨a, cap, rfl, -⟩ := hd.len
  clear h hd ok2 hx2 hnm hb2
  have hc3 : (Tryz.prog.info? 37).map (·.size) = some (turnA (.slice a m.length cap)).size := by unfold turnA; kernel_rfl
  unfold turnA note0 at CT HNB HB HTB
  unfold turnA at hc3 ⊢
  go_enter Tryz.func10, Tryz.ntmps10
  go_wp2_with fail
  refine CT.out.mono ?_
  rintro e w4 ⟨b, nt, rfl, hnt, hb, hbel, hkb⟩
  have HNB4 := Lib.hid (hkb _ _ _ HNB.out (by decide) (by decide) (by decide))
  have HBB := Lib.hid hb
  have HBL := Lib.hid hbel
  have HKB := Lib.hid ((KeepB.below HB.out).trans hkb)
  have HLE : Hid (w0.heap.size ≤ w.heap.size + 1) := Lib.hid (by have := HS.out; omega)
  have hc1 : (Tryz.prog.info? 32).map (·.size) = some nt.size := by rw [hnt]; cases b <;> kernel_rfl
  have hc2 : (note0).size = nt.size := by rw [hnt]; cases b <;> rfl
  have hc4 : nt.all (·.oneCell') = true := by rw [hnt]; cases b <;> simp [note0, noteP, Value.oneCell']
  have HNT := Lib.hid hnt
  clear hb hbel hkb CT hnt
  go_wp2_with (refine wpList_store_row (by rfl) 32 (.tmp 4) (.tmp 113) (by rfl) (w.heap.size + 1) nt (by rfl) (by rfl) _ _ HNB4.out hc1 hc2 hc4 ?_)
  (try simp only [Exit.inBlock, Exit.then])
  refine bodyPost_ret (results_cell_row2 rfl _ _ (w.heap.size + 1) _ _ (0, 0) _ rfl (setRow_heap _ _ _ _ _ _ HNB4.out) Tryz.underlying32 rfl hc1) rfl ⟨b, nt, rfl, HNT.out, fun hbt => ?_, below_setRow HBL.out HLE.out _, HKB.out.noteRow (by omega) _⟩
  obtain ⟨hj, fv', hn⟩ := HBB.out hbt
  exact ⟨hj, fv', hn.noteRow HNB4.out HLE.out nt⟩

set_option maxRecDepth 100000 in
set_option maxHeartbeats 1600000 in
theorem doL_any {w0 w : World} {N : Nat} {fv sv : Value} {J : List DefD} {nm : ByteArray} {i : Nat} (h : NSet w0 N fv false sv (J.map firstF) w) (hp : placeD J nm = some i) (hl : J.length ≤ 1000) :
    Calls Tryz.prog 10 #[.pointer (some ⟨N, 0, none⟩), .agg (turnL nm)] w fun e w' => e = .returned (.tuple #[.agg (tellD J[i]!), .bool true]) ∧ Below w.heap.size w w' := by
  have hb2 : Below w.heap.size w ((w.alloc (.cells (turnL nm) 37)).alloc (.cells note0 32)) :=
    ((Below.refl _ _).alloc (Nat.le_refl _) _).alloc (by simp only [World.size_alloc]; omega) _
  have HB := Lib.hid hb2
  have HNB : Hid (((w.alloc (.cells (turnL nm) 37)).alloc (.cells note0 32)).heap[w.heap.size + 1]? = some (.cells note0 32 (0, 0))) := Lib.hid (heap_at _ _ _ (by simp only [World.size_alloc]))
  have C := find_any (h.later hb2) nm (by rw [List.length_map]; omega)
  rw [place_idx, map_first, hp] at C
  have CF := Lib.hid C
  have hi := placeD_some hp
  have hi' : i < (J.map firstF).length := by rw [List.length_map]; exact hi
  have CT := told_note_any (h.later hb2) i hi' (by rw [List.getElem_map]; rfl)
  have e1 : noteA (J.map firstF)[i].d.nm (J.map firstF)[i].d.sh (J.map firstF)[i].val = tellD J[i]! := by
    rw [List.getElem_map, getElem!_pos J i hi]
    rfl
  rw [e1] at CT
  have CT := Lib.hid CT
  obtain ⟨a', b', c', hsx⟩ : ∃ a b c, tellD J[i]! = noteA a b c := ⟨_, _, _, rfl⟩
  rw [hsx] at CT ⊢
  clear h hp hb2 C e1 hsx hi'
  have hc1 : (Tryz.prog.info? 32).map (·.size) = some (noteA a' b' c').size := by unfold noteA; kernel_rfl
  have hc4 : (noteA a' b' c').all (·.oneCell') = true := by simp [noteA, Value.oneCell']
  have hc2 : (note0).size = (noteA a' b' c').size := rfl
  generalize noteA a' b' c' = nt at *
  unfold turnL note0 at CF CT HNB HB
  unfold note0 at hc2
  unfold turnL
  go_enter Tryz.func10, Tryz.ntmps10
  go_wp2_with fail
  refine CF.out.mono ?_
  rintro e w3 ⟨rfl, rfl⟩
  go_wp2_with fail
  refine CT.out.mono ?_
  rintro e w4 ⟨rfl, hb4⟩
  have HNB4 := Lib.hid ((hb4.block _ (lt_of_block HNB.out)).trans HNB.out)
  have HB4 := Lib.hid (HB.out.trans (hb4.mono HB.out.size))
  clear hb4 CT CF
  go_wp2_with (refine wpList_store_row (by rfl) 32 (.tmp 4) (.tmp 18) (by rfl) (w.heap.size + 1) nt (by rfl) (by rfl) _ _ HNB4.out hc1 hc2 hc4 ?_)
  (try simp only [Exit.inBlock, Exit.then])
  refine bodyPost_ret (results_cell_row2 rfl _ _ (w.heap.size + 1) _ _ (0, 0) _ rfl (setRow_heap _ _ _ _ _ _ HNB4.out) Tryz.underlying32 rfl hc1) rfl ⟨rfl, below_setRow HB4.out (by omega) _⟩
end Go.Proofs.YtmmkebdaijmpiaaGreat
