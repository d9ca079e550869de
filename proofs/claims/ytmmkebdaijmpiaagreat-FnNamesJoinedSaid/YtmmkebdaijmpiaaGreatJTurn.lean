/- impl.turned: another set is added; a flag is looked up. -/
import Derived.Test.YtmmkebdaijmpiaaGreatJAllW
import Derived.Test.YtmmkebdaijmpiaaGreatNGuard
namespace Go.Proofs.YtmmkebdaijmpiaaGreat
open Go.RowKit
set_option linter.unusedVariables false
set_option linter.unusedSimpArgs false

def sortD (m : List DefD) : List DefD := (srt (m.map fun x => x.nm)).map fun k => m[(placeD m k).getD 0]!
theorem sortE_map (es : List (DefD × Nat)) : (sortE es).map (·.1) = sortD (es.map (·.1)) := by
  rw [sortE, sortD, List.map_map, List.map_map]
  refine List.map_congr_left fun k hk => ?_
  obtain ⟨i, hp⟩ := place_of_mem ((srt_perm _).mem_iff.1 hk)
  obtain ⟨hi, _⟩ := place_some hp
  have hi' : i < (es.map (fun (e : DefD × Nat) => e.1)).length := by simpa using hi
  simp only [Function.comp_apply]
  rw [← placeE_eq, hp, Option.getD_some, getElem!_pos es i hi, getElem!_pos (es.map (fun (e : DefD × Nat) => e.1)) i hi']
  simp
/-- The set, with its flags. -/
def SetE (w0 : World) (F : Nat) (l : List DefD) (w : World) : Prop := ∃ es, es.map (·.1) = l ∧ ManyE w0 F es w ∧ FlagsIn w0 es w
theorem SetE.later {w0 w w' : World} {F : Nat} {l : List DefD} (h : SetE w0 F l w) (hb : Below w.heap.size w w') : SetE w0 F l w' := by
  obtain ⟨es, e, hm, hf⟩ := h
  exact ⟨es, e, hm.later hb, hf.keep (KeepT.below hb)⟩
theorem SetE.lt {w0 w : World} {F : Nat} {l : List DefD} (h : SetE w0 F l w) : F < w.heap.size := by
  obtain ⟨es, e, ⟨fm, sm, ofv, hm⟩, hf⟩ := h
  exact lt_of_block hm.hF
theorem SetE.bel {w0 w : World} {F : Nat} {l : List DefD} (h : SetE w0 F l w) : Below w0.heap.size w0 w := by
  obtain ⟨es, e, hm, hf⟩ := h
  exact hm.bel

set_option maxRecDepth 100000 in
theorem addFlagSet_any {w0 wx w : World} {F F2 : Nat} {l m : List DefD} (h : SetE w0 F l w) (h2 : SetE wx F2 m w) (hok : AllOk l) (hj : JoinOk l (sortD m)) (hw : w0.heap.size ≤ wx.heap.size) (hF : F < wx.heap.size) (hl : l.length ≤ 1000) (hm : m.length ≤ 1000) (hsz : ∀ x ∈ m, x.sh.size ≤ 60) :
    Calls Tryz.prog 59 #[ptr F, ptr F2] w fun e w' => e = .returned (.tuple #[]) ∧ SetE w0 F (joinD l (sortD m)) w' ∧ KeepT w w' := by
  have hb1 := (Below.refl w.heap.size w).alloc (Nat.le_refl _) (.cells #[ptr F] 65)
  obtain ⟨es, rfl, g1, g2⟩ := h.later hb1
  obtain ⟨es2, rfl, g3, g4⟩ := h2.later hb1
  rw [← sortE_map] at hj ⊢
  have CV := Lib.hid (visitAll_any (B := w.heap.size) g1 g2 g3 g4 hok hj (heap_at _ _ _ rfl) hw hF (by simpa using hl) (by simpa using hm) (fun e he => hsz e.1 (List.mem_map.2 ⟨e, he, rfl⟩)))
  have HB := Lib.hid hb1
  have hq : ∀ b w, Sem.run Tryz.prog (binOp BinOp.eql 65 (Value.pointer (some ⟨b, 0, none⟩)) (Value.pointer none)) w = .ok (.bool false) w := fun _ _ => by kernel_rfl
  have hmf : ∀ (fn : Fn) (first cap : Array Value) (w : World), (Instr.makeFunc fn first cap).run Tryz.prog w = .ok (.func fn first cap) w := fun _ _ _ _ => rfl
  clear h h2 g1 g2 g3 g4 hok hj hsz hb1
  unfold ptr at *
  go_enter Tryz.func59, Tryz.ntmps59
  go_wp2_with fail
  refine CV.out.mono ?_
  rintro e w2 ⟨rfl, es', e1, e2, e3, e4⟩
  have HR := Lib.hid (show SetE w0 F _ w2 from ⟨es', e1, e2, e3⟩)
  have HK := Lib.hid e4
  clear e1 e2 e3 e4 CV
  go_wp2_with fail
  (first | go_end0 | ((try simp only [Exit.inBlock, Exit.then]); refine bodyPost_ret (results_none rfl _ _ _) rfl ?_))
  exact ⟨rfl, HR.out, (KeepT.below HB.out).trans HK.out⟩

/-- The turn that adds a set. -/
def turnA (dv : Value) : Array Value := #[.int .i64 13, .string ⟨#[]⟩, .string ⟨#[]⟩, .bool false, .slice none 0 0, dv]
set_option maxRecDepth 100000 in
set_option maxHeartbeats 3200000 in
theorem turned3_any {w0 w : World} {F : Nat} {l m : List DefD} {dv : Value} (h : SetE w0 F l w) (hd : Defs w dv m) (hok : AllOk l) (ok2 : AllOk m) (hj : JoinOk l (sortD m)) (hl : l.length ≤ 1000) (hm : m.length ≤ 16) (hx : ∀ x ∈ m, (x.k = 0 ∨ x.k = 1) ∧ x.sh.size ≤ 60) {B T : Nat} (hB : w.heap[B]? = some (.cells #[ptr F] 65 (0, 0))) (hT : w.heap[T]? = some (.cells (turnA dv) 37 (0, 0))) :
    Calls Tryz.prog 58 #[ptr B, ptr T] w fun e w' => e = .returned (.tuple #[]) ∧ SetE w0 F (joinD l (sortD m)) w' ∧ KeepT w w' := by
  have C1 := Lib.hid (fun W (hb : Below w.heap.size w W) => flagsOfV_any dv m W (hd.later hb) ok2 hm hx)
  have CA := Lib.hid (fun W (hb : Below w.heap.size w W) F2 (es2 : List (DefD × Nat)) w2 (e : es2.map (·.1) = m) (hm2 : ManyE W F2 es2 w2) (ha : AllF W es2 w2) =>
    And.intro (addFlagSet_any ((h.later hb).later (hm2.bel)) (show SetE W F2 m w2 from ⟨es2, e, hm2, ha.flag⟩) hok hj (Nat.le_trans h.bel.size hb.size) (Nat.lt_of_lt_of_le h.lt hb.size) hl (by omega) (fun x hx' => (hx x hx').2)) (hb.trans (hm2.bel.mono hb.size)))
  have b0 := cell_of_one hB
  have c5 := cell_of hT 5 dv rfl
  have HK := Lib.hid (fun W (hb : Below w.heap.size w W) => cell_of_one ((hb.block _ (lt_of_block hB)).trans hB))
  obtain ⟨a, cap, rfl, -⟩ := hd.len
  have HKT := Lib.hid (fun W (hb : Below w.heap.size w W) => cell_of ((hb.block _ (lt_of_block hT)).trans hT) 5 (.slice a m.length cap) rfl)
  clear h hd hok ok2 hj hx hB hT
  unfold ptr at *
  have HBD : Hid (Below w.heap.size w w.drew) := Lib.hid (Below.refl _ _).drew
  go_enter Tryz.func58, Tryz.ntmps58
  go_region_with (first
    | (go_at_call 26; refine (C1.out _ HBD.out).mono ?_; rintro e w1 ⟨F2, es2, rfl, hes, hm2, ha⟩; obtain ⟨ca, hb2⟩ := CA.out _ HBD.out F2 es2 w1 hes hm2 ha; have k1 := HK.out w1 hb2; have k2 := HKT.out w1 hb2; have CB := Lib.hid ca; have HB2 := Lib.hid hb2; clear hes hm2 ha ca hb2)
    | (go_at_call 59; refine CB.out.mono ?_; rintro e w2 ⟨rfl, hs2, hk2⟩; have HS2 := Lib.hid hs2; have HK2 := Lib.hid hk2; clear hs2 hk2))
  all_goals
    go_end0
    exact ⟨rfl, HS2.out, (KeepT.below HB2.out).trans HK2.out⟩
end Go.Proofs.YtmmkebdaijmpiaaGreat
