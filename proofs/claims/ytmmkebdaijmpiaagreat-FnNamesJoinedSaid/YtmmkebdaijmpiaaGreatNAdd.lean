/- AddFlag (package few) of a set with any flags: the flag is added, or it panics. -/
import Derived.Test.YtmmkebdaijmpiaaGreatMany
namespace Go.Proofs.YtmmkebdaijmpiaaGreat
open Go.RowKit
set_option linter.unusedVariables false
set_option linter.unusedSimpArgs false

theorem infoFP : (Tryz.prog.info? 80).map (fun i => (i.zero, i.size, i.bytes)) = some (some (.pointer none), 1, 8) := by kernel_rfl
theorem getNorm_any (F : Nat) (w : World) (c16 : w.cell? ⟨F, 16, none⟩ = some .nilFunc) :
    Calls Tryz.prog 57 #[ptr F] w fun e w' => e = .returned (.func (.func 69) #[] #[]) ∧ w = w' := by
  have hrun : Sem.run Tryz.prog (binOp BinOp.neq 73 Value.nilFunc Value.nilFunc) w = .ok (.bool false) w := by kernel_rfl
  unfold ptr
  go_enter Tryz.func57, Tryz.ntmps57
  go_wp2_with fail
  go_ret
  exact ⟨rfl, rfl⟩
theorem sameNorm_any (v : Value) (n : ByteArray) (w : World) : Calls Tryz.prog 69 #[v, .string n] w fun e w' => e = .returned (.string n) ∧ w = w' := by
  go_enter Tryz.func69, Tryz.ntmps69
  go_wp2_with fail
  go_ret
  exact ⟨rfl, rfl⟩
/-- Names stay as they are. -/
theorem norm_any (F : Nat) (w : World) (h : w.cell? ⟨F, 16, none⟩ = some .nilFunc) (n : ByteArray) :
    Calls Tryz.prog 44 #[ptr F, .string n] w fun e w' => e = .returned (.string n) ∧ Below w.heap.size w w' := by
  have C1 := Lib.hid (getNorm_any F w h)
  clear h
  unfold ptr at *
  go_enter Tryz.func44, Tryz.ntmps44
  go_wp2_with fail
  refine C1.out.mono ?_
  rintro e w1 ⟨rfl, rfl⟩
  go_wp2_with fail
  refine (sameNorm_any _ n _).mono ?_
  rintro e w1 ⟨rfl, rfl⟩
  go_wp2_with fail
  go_ret
  exact ⟨rfl, Below.refl _ _⟩
theorem MapOr.look {w : World} {m : Option Nat} {L : List (ByteArray × Value)} (h : MapOr strKey w m L) (n : ByteArray) :
    (Instr.lookup 69 (.map m) (.string n) true).run Tryz.prog w = .ok (lookedUp (.pointer none) true (mapFind n L 0)) w := by
  rcases h with ⟨e1, e2⟩ | ⟨b, e1, hb⟩
  · rw [e1, e2]
    exact run_lookup_nilmap (P := Tryz.prog) (K := strKey) (T := 69) (kt := 99) (et := 80) (z := .pointer none) (by kernel_rfl) (by kernel_rfl) (by kernel_rfl) n true
  · rw [e1]
    exact run_lookup_map (P := Tryz.prog) (T := 69) (kt := 99) (et := 80) (z := .pointer none) hb (by kernel_rfl) (by kernel_rfl) (by kernel_rfl) n true
theorem MapOr.lookC {w : World} {m : Option Nat} {L : List (UInt8 × Value)} (h : MapOr byteKey w m L) (c : UInt8) (ok : Bool) :
    (Instr.lookup 71 (.map m) (.int .u8 c.toNat) ok).run Tryz.prog w = .ok (lookedUp (.pointer none) ok (mapFind c L 0)) w := by
  rcases h with ⟨e1, e2⟩ | ⟨b, e1, hb⟩
  · rw [e1, e2]
    exact run_lookup_nilmap (P := Tryz.prog) (K := byteKey) (T := 71) (kt := 5) (et := 80) (z := .pointer none) (by kernel_rfl) (by kernel_rfl) (by kernel_rfl) c ok
  · rw [e1]
    exact run_lookup_map (P := Tryz.prog) (T := 71) (kt := 5) (et := 80) (z := .pointer none) hb (by kernel_rfl) (by kernel_rfl) (by kernel_rfl) c ok
section
variable {w0 : World} {F : Nat} {fm : Option Nat} {fl : List (ByteArray × Value)} {sm : Option Nat} {sl : List (UInt8 × Value)} {ofv : Value} {ol : List Value} {w w' : World}
/-- A cell of a flag is written: its name stays. -/
theorem Many.setG (h : Many w0 F fm fl sm sl ofv ol w) {G j : Nat} {cs : Array Value} (hG : w.heap[G]? = some (.cells cs 85 (0, 0))) (lG : w0.heap.size ≤ G) (v : Value) (hn : (cs.setIfInBounds j v)[0]? = cs[0]?) :
    Many w0 F fm fl sm sl ofv ol (w.setCell ⟨G, j, none⟩ v) := by
  have k : ∀ b, b ≠ G → (w.setCell ⟨G, j, none⟩ v).heap[b]? = w.heap[b]? := fun b hb => heap_ne _ _ _ _ hb
  refine ⟨h.bel.setCell lG _, (k _ (cells_ne h.hF hG (by decide))).trans h.hF, h.hfm.later fun b e => k b (h.hfm.ne hG b e), h.hsm.later fun b e => k b (h.hsm.ne hG b e), ownsRow_at h.rOf fun g e => ?_, fun x hx => ?_, h.lF, h.bfm, h.bsm⟩
  · obtain ⟨_, c, hc⟩ := ownsRow_cells h.rOf e
    exact k g (cells_ne hc hG (by decide))
  · obtain ⟨fb, cs', e1, e2, e3, e4⟩ := h.hfl x hx
    by_cases hb : fb = G
    · subst hb
      rw [hG] at e2
      cases e2
      exact ⟨fb, _, e1, heap_set hG j v, by rw [hn, e3], e4⟩
    · exact ⟨fb, cs', e1, (k fb hb).trans e2, e3, e4⟩
theorem Many.putF (h : Many w0 F fm fl sm sl ofv ol w) {am : Nat} (ha : fm = some am) (n : ByteArray) {G : Nat} {cs : Array Value} (hG : w.heap[G]? = some (.cells cs 85 (0, 0))) (h0 : cs[0]? = some (.string n)) (lG : w0.heap.size ≤ G) (hn : mapFind n fl 0 = none) :
    ∃ w', (Instr.mapUpdate 69 (.map (some am)) (.string n) (ptr G)).run Tryz.prog w = .ok () w' ∧ Many w0 F fm (fl ++ [(n, ptr G)]) sm sl ofv ol w' ∧ KeepT w w' ∧ w'.heap[G]? = w.heap[G]? ∧ ∀ row, KeepO row w w' := by
  subst ha
  have hm : MapIs strKey w am fl := by
    rcases h.hfm with ⟨e, _⟩ | ⟨b, e, hb⟩
    · cases e
    · cases e; exact hb
  obtain ⟨o, h1, h2⟩ := run_mapUpdate_map (P := Tryz.prog) (T := 69) (kt := 99) (et := 80) hm (by kernel_rfl) (by kernel_rfl) n (ptr G)
  rw [mapPut_new n (ptr G) _ 0 hn] at h2
  refine ⟨_, h1, h.putForm h2 fun x hx => ?_, KeepT.putMap hm o, setBlock_ne fun e => hm.ne hG e.symm, fun row => (by
    obtain ⟨es, cl, hb, _⟩ := hm
    exact KeepO.block hb fun b hb' => setBlock_ne hb')⟩
  rcases List.mem_append.1 hx with hx | hx
  · exact h.hfl x hx
  · cases List.mem_singleton.1 hx
    exact ⟨G, cs, rfl, hG, h0, lG⟩
theorem Many.putS (h : Many w0 F fm fl sm sl ofv ol w) {am : Nat} (ha : sm = some am) (c : UInt8) {G : Nat} {cs : Array Value} (hG : w.heap[G]? = some (.cells cs 85 (0, 0))) (hn : mapFind c sl 0 = none) :
    ∃ w', (Instr.mapUpdate 71 (.map (some am)) (.int .u8 c.toNat) (ptr G)).run Tryz.prog w = .ok () w' ∧ Many w0 F fm fl sm (sl ++ [(c, ptr G)]) ofv ol w' ∧ KeepT w w' ∧ w'.heap[G]? = w.heap[G]? ∧ ∀ row, KeepO row w w' := by
  subst ha
  have hm : MapIs byteKey w am sl := by
    rcases h.hsm with ⟨e, _⟩ | ⟨b, e, hb⟩
    · cases e
    · cases e; exact hb
  obtain ⟨o, h1, h2⟩ := run_mapUpdate_map (P := Tryz.prog) (T := 71) (kt := 5) (et := 80) hm (by kernel_rfl) (by kernel_rfl) c (ptr G)
  rw [mapPut_new c (ptr G) _ 0 hn] at h2
  exact ⟨_, h1, h.putShort h2, KeepT.putMap hm o, setBlock_ne fun e => hm.ne hG e.symm, fun row => (by
    obtain ⟨es, cl, hb, _⟩ := hm
    exact KeepO.block hb fun b hb' => setBlock_ne hb')⟩
end
def firstB (s : ByteArray) : Option UInt8 := if h : 0 < s.size then some s[0] else none
/-- What a panic is. -/
def Dies (e : Ending) : Prop := ∃ u pv, e = .panicked [{ v := .iface u pv, recovered := false }]
/-- May the flag be added? -/
def addOk (nm sh : ByteArray) (fl : List (ByteArray × Value)) (sl : List (UInt8 × Value)) : Prop :=
  mapFind nm fl 0 = none ∧ (sh.size = 0 ∨ ∃ h1 : sh.size = 1, mapFind (sh[0]'(by omega)) sl 0 = none)
/-- What comes of AddFlag. -/
structure AddEnd (w0 w : World) (F G : Nat) (nm sh : ByteArray) (cs : Array Value) (fl : List (ByteArray × Value)) (sl : List (UInt8 × Value)) (ofv : Value) (ol : List Value) (e : Ending) (w' : World) : Prop where
  keepO : KeepO ofv.ownBlock w w'
  rowOf : addOk nm sh fl sl → ∃ fm sm ofv', (∀ R, ofv'.ownBlock = some R → ofv.ownBlock = some R ∨ w.heap.size ≤ R) ∧ Many w0 F fm (fl ++ [(nm, ptr G)]) sm (sl ++ ((firstB sh).map fun c => (c, ptr G)).toList) ofv' (ol ++ [ptr G]) w'
  keep : KeepG G w w'
  bel : Below w0.heap.size w0 w'
  good : addOk nm sh fl sl → e = .returned (.tuple #[]) ∧ w'.heap[G]? = some (.cells cs 85 (0, 0)) ∧ ∃ fm sm ofv, Many w0 F fm (fl ++ [(nm, ptr G)]) sm (sl ++ ((firstB sh).map fun c => (c, ptr G)).toList) ofv (ol ++ [ptr G]) w'
  bad : ¬ addOk nm sh fl sl → Dies e
end Go.Proofs.YtmmkebdaijmpiaaGreat
