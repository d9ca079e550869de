/- impl.noted: what is told of a flag that was looked up. (Printed by gen_jnote.py.) -/
import Derived.Test.YtmmkebdaijmpiaaGreatVSetW
import Derived.Test.YtmmkebdaijmpiaaGreatNDefs
import Derived.Laws.Tables
import Derived.Laws.Rows
import Derived.Laws.CopyOwn
namespace Go.Proofs.YtmmkebdaijmpiaaGreat
open Go.RowKit
set_option linter.unusedVariables false
set_option linter.unusedSimpArgs false

/-- What is told of a flag. -/
def noteA (nm sh s : ByteArray) : Array Value := #[.bool true, .bool false, .bool false, .bool false, .string nm, .string sh, .string s, .int .i64 0, .slice none 0 0]
def note0 : Array Value := #[.bool false, .bool false, .bool false, .bool false, .string ⟨#[]⟩, .string ⟨#[]⟩, .string ⟨#[]⟩, .int .i64 0, .slice none 0 0]
theorem run_nilG {ρ : Operand → Value} {d : Option Tmp} {ty : TypeId} {pos : String} {af : Array Edge} {g : Option (Nat × Bool)} {x : Tmp} {w : World} {B : Nat} (h : ρ (.tmp x) = ptr B) :
    (execOp ρ ⟨d, .nilCheck (.tmp x), ty, pos, af, g⟩).run Tryz.prog w = .ok (.value (ptr B)) w := by
  unfold ptr at *
  go_simp
theorem run_fieldG {ρ : Operand → Value} {d : Option Tmp} {ty : TypeId} {pos : String} {af : Array Edge} {g : Option (Nat × Bool)} {x : Tmp} {j : Nat} {w : World} {B : Nat} (hj : j = 0 ∨ j = 1 ∨ j = 3 ∨ j = 5 ∨ j = 8) (h : ρ (.tmp x) = ptr B) :
    (execOp ρ ⟨d, .fieldAddr 85 (.tmp x) j, ty, pos, af, g⟩).run Tryz.prog w = .ok (.value (.pointer (some ⟨B, j, none⟩))) w := by
  unfold ptr at *
  rcases hj with rfl | rfl | rfl | rfl | rfl <;> go_simp
theorem run_loadV {ρ : Operand → Value} {d : Option Tmp} {ty : TypeId} {pos : String} {af : Array Edge} {g : Option (Nat × Bool)} {x : Tmp} {w : World} {B j : Nat} {t : TypeId} {v : Value} (h : ρ (.tmp x) = .pointer (some ⟨B, j, none⟩)) (c : w.cell? ⟨B, j, none⟩ = some (.iface t v)) :
    (execOp ρ ⟨d, .load 82 (.tmp x), ty, pos, af, g⟩).run Tryz.prog w = .ok (.value (.iface t v)) w := by
  go_simp
theorem run_invS {ρ : Operand → Value} {d : Option Tmp} {ty : TypeId} {pos : String} {af : Array Edge} {g : Option (Nat × Bool)} {x : Tmp} {w : World} {t : TypeId} {v : Value} {f : FuncId} (h : ρ (.tmp x) = .iface t v) (hm : ∀ w, (method 329 t v "String").run Tryz.prog w = .ok (f, v) w) (hc : ∀ args w, (callFunc f args).run Tryz.prog w = .ok (.enter f args) w) :
    (execOp ρ ⟨d, .call { callee := .invoke (.tmp x) "String", args := #[], argTypes := #[] }, ty, pos, af, g⟩).run Tryz.prog w = .ok (.enter f #[v]) w := by
  go_simp
theorem run_buildN {ρ : Operand → Value} {d : Option Tmp} {ty : TypeId} {pos : String} {af : Array Edge} {g : Option (Nat × Bool)} {a b c e k : Tmp} {w : World} {nm sh s : ByteArray} (h1 : ρ (.tmp a) = .string nm) (h2 : ρ (.tmp b) = .string sh) (h3 : ρ (.tmp c) = .string s) (h4 : ρ (.tmp e) = .bool false) (h5 : ρ (.tmp k) = .bool false) (h0 : ρ (.const (.bool true)) = .bool true) :
    (execOp ρ ⟨d, .build 32 #[(0, .const (.bool true)), (4, .tmp a), (5, .tmp b), (6, .tmp c), (2, .tmp e), (3, .tmp k)], ty, pos, af, g⟩).run Tryz.prog w = .ok (.value (.agg (noteA nm sh s))) w := by
  unfold noteA
  go_simp
def noteD : List Nat := [6, 7, 8, 9, 10, 11, 12, 13, 14, 15, 16, 17, 18, 19, 20, 21, 22, 23, 24, 25, 26, 27]
def noteV (G : Nat) (nm sh s : ByteArray) (iv : Value) (i : Nat) : Value :=
  ([ptr G, ptr G, .pointer (some ⟨G, 0, none⟩), .string nm, ptr G, ptr G, .pointer (some ⟨G, 1, none⟩), .string sh, ptr G, ptr G, .pointer (some ⟨G, 3, none⟩), iv, .string s, ptr G, ptr G, .pointer (some ⟨G, 5, none⟩), .bool false, ptr G, ptr G, .pointer (some ⟨G, 8, none⟩), .bool false, .agg (noteA nm sh s)] : List Value)[i]?.getD undef
/-- What holds in noted's region. -/
structure NoteI (w : World) (B : Nat) (c : Array Value) (V : Nat → Value) (L : Nat → Bool) (f : Nat → Value) (wz : World) : Prop where
  wd : ∃ q, wz = w.drewN q ∨ wz = (w.drewN q).setRow B c
  fin : L 22 = true → ∃ q, wz = (w.drewN q).setRow B c
  v : ∀ i, i < 22 → L i = true → f (6 + i) = V i
theorem NoteI.step {w : World} {B : Nat} {c : Array Value} {V : Nat → Value} {L : Nat → Bool} {f : Nat → Value} {wz : World} (h : NoteI w B c V L f wz) {i d : Nat} (hi : i < 22) (hd : d = 6 + i) {v : Value} (hv : V i = v) : NoteI w B c V (fun k => k == i || L k) (upd f d v) wz := by
  refine ⟨h.wd, fun hl => h.fin (by rw [or_ne (by omega)] at hl; exact hl), fun j hj hl => ?_⟩
  subst hd
  by_cases q : j = i
  · subst q
    rw [upd_same, hv]
  · rw [upd_ne _ _ (by omega)]
    rw [or_ne q] at hl
    exact h.v j hj hl
theorem run_loadSg {ρ : Operand → Value} {d : Option Tmp} {ty : TypeId} {pos : String} {af : Array Edge} {g : Option (Nat × Bool)} {x : Tmp} {w : World} {B j : Nat} {s : ByteArray} (h : ρ (.tmp x) = .pointer (some ⟨B, j, none⟩)) (c : w.cell? ⟨B, j, none⟩ = some (.string s)) :
    (execOp ρ ⟨d, .load 9 (.tmp x), ty, pos, af, g⟩).run Tryz.prog w = .ok (.value (.string s)) w := by
  go_simp
theorem run_loadBg {ρ : Operand → Value} {d : Option Tmp} {ty : TypeId} {pos : String} {af : Array Edge} {g : Option (Nat × Bool)} {x : Tmp} {w : World} {B j : Nat} {v : Bool} (h : ρ (.tmp x) = .pointer (some ⟨B, j, none⟩)) (c : w.cell? ⟨B, j, none⟩ = some (.bool v)) :
    (execOp ρ ⟨d, .load 4 (.tmp x), ty, pos, af, g⟩).run Tryz.prog w = .ok (.value (.bool v)) w := by
  go_simp
/-- What a flag's value tells, in any world that holds its block. -/
def Says (t : TypeId) (P : Nat) (s : ByteArray) (w : World) : Prop := ∃ f, (∀ w, (method 329 t (ptr P) "String").run Tryz.prog w = .ok (f, ptr P) w) ∧ (∀ args w, (callFunc f args).run Tryz.prog w = .ok (.enter f args) w) ∧ ∀ w', w'.heap[P]? = w.heap[P]? → Calls Tryz.prog f #[ptr P] w' fun e w2 => e = .returned (.string s) ∧ w2 = w'
theorem says_str {P : Nat} {s : ByteArray} {w : World} (h : w.heap[P]? = some (.cells #[.string s] 9 (0, 0))) : Says 146 P s w := by
  refine ⟨166, fun _ => by unfold ptr; kernel_rfl, fun _ _ => by go_simp, fun w' hw => ?_⟩
  have c := cell_of_one (hw.trans h)
  clear h hw
  unfold ptr
  go_enter Tryz.func166, Tryz.ntmps166
  go_wp2_with fail
  go_ret
  exact ⟨rfl, rfl⟩
theorem says_bool {P : Nat} {b : Bool} {w : World} (h : w.heap[P]? = some (.cells #[.bool b] 4 (0, 0))) : Says 139 P (tB b) w := by
  refine ⟨129, fun _ => by unfold ptr; kernel_rfl, fun _ _ => by go_simp, fun w' hw => ?_⟩
  have c := cell_of_one (hw.trans h)
  clear h hw
  unfold ptr
  cases b
  all_goals
    go_enter Tryz.func129, Tryz.ntmps129
    go_wp2
    go_ret
    exact ⟨rfl, rfl⟩

set_option maxRecDepth 100000 in
set_option maxHeartbeats 3200000 in
theorem noted_any {w : World} {G P : Nat} {nm sh df no s : ByteArray} {t : TypeId} (hG : w.heap[G]? = some (.cells (flN nm sh (.iface t (ptr P)) df no) 85 (0, 0))) (hP : P < w.heap.size) (hs : Says t P s w) :
    Calls Tryz.prog 48 #[ptr G] w fun e w' => e = .returned (.agg (noteA nm sh s)) ∧ Below w.heap.size w w' := by
  have hq2 : ∀ b w, Sem.run Tryz.prog (binOp BinOp.eql 80 (Value.pointer (some ⟨b, 0, none⟩)) (Value.pointer none)) w = .ok (.bool false) w := fun _ _ => by kernel_rfl
  have HB0 : Hid ((w.alloc (.cells note0 32)).heap[w.heap.size]? = some (.cells note0 32 (0, 0))) := Lib.hid (heap_at _ _ _ rfl)
  have lG := lt_of_block hG
  -- in either world the blocks of the flag and of its value are what they were
  have keep : ∀ wz, (∃ q, wz = (w.alloc (.cells note0 32)).drewN q ∨ wz = ((w.alloc (.cells note0 32)).drewN q).setRow w.heap.size (noteA nm sh s)) → ∀ b, b < w.heap.size → wz.heap[b]? = w.heap[b]? := by
    rintro wz ⟨q, rfl | rfl⟩ b hb
    · exact heap_past w _ b hb
    · exact (setRow_other _ _ _ _ (by omega)).trans (heap_past w _ b hb)
  have HC := Lib.hid (fun wz hw (j : Nat) (v : Value) (hv : (flN nm sh (.iface t (ptr P)) df no)[j]? = some v) => show wz.cell? ⟨G, j, none⟩ = some v from cell_of ((keep wz hw G lG).trans hG) j v hv)
  have HK := Lib.hid keep
  have HS := Lib.hid hs
  clear hG hs keep
  unfold ptr
  go_enter Tryz.func48, Tryz.ntmps48
  unfold note0 at HB0
  go_wp2_with fail
  refine wp_region_og noteD (NoteI (w.alloc (.cells #[.bool false, .bool false, .bool false, .bool false, .string ⟨#[]⟩, .string ⟨#[]⟩, .string ⟨#[]⟩, .int .i64 0, .slice none 0 0] 32)) w.heap.size (noteA nm sh s) (noteV G nm sh s (.iface t (ptr P)))) (by kernel_rfl) (by kernel_rfl) ⟨⟨1, .inl rfl⟩, fun h => Bool.noConfusion h, fun _ _ h => Bool.noConfusion h⟩ ?_ ?_
  · intro i o ho L f wz hl hp hI
    have hi : i < 23 := (Array.getElem?_eq_some_iff.1 ho).1
    obtain rfl | rfl | rfl | rfl | rfl | rfl | rfl | rfl | rfl | rfl | rfl | rfl | rfl | rfl | rfl | rfl | rfl | rfl | rfl | rfl | rfl | rfl | rfl : i = 0 ∨ i = 1 ∨ i = 2 ∨ i = 3 ∨ i = 4 ∨ i = 5 ∨ i = 6 ∨ i = 7 ∨ i = 8 ∨ i = 9 ∨ i = 10 ∨ i = 11 ∨ i = 12 ∨ i = 13 ∨ i = 14 ∨ i = 15 ∨ i = 16 ∨ i = 17 ∨ i = 18 ∨ i = 19 ∨ i = 20 ∨ i = 21 ∨ i = 22 := by omega
    all_goals obtain rfl := Option.some.inj ho
    · exact og_op rfl rfl (og_value (run_move ((over_eval_out _ _ _ (by decide)).trans rfl)) ⟨_, over_put _ _ _ (by decide) _, hI.step (i := 0) (d := 6) (by decide) rfl rfl⟩)
    · have e0 := hI.v 0 (by decide) (hp ⟨0, .data⟩ (by simp) rfl)
      exact og_op rfl rfl (og_value (run_nilG ((over_eval _ _ _ (by decide) (by show 6 < 28; omega)).trans e0)) ⟨_, over_put _ _ _ (by decide) _, hI.step (i := 1) (d := 7) (by decide) rfl rfl⟩)
    · have e1 := hI.v 1 (by decide) (hp ⟨1, .data⟩ (by simp) rfl)
      exact og_op rfl rfl (og_value (run_fieldG (j := 0) (by simp) ((over_eval _ _ _ (by decide) (by show 7 < 28; omega)).trans e1)) ⟨_, over_put _ _ _ (by decide) _, hI.step (i := 2) (d := 8) (by decide) rfl rfl⟩)
    · have e2 := hI.v 2 (by decide) (hp ⟨2, .data⟩ (by simp) rfl)
      exact og_op rfl rfl (og_value (run_loadSg ((over_eval _ _ _ (by decide) (by show 8 < 28; omega)).trans e2) (HC.out wz hI.wd 0 _ rfl)) ⟨_, over_put _ _ _ (by decide) _, hI.step (i := 3) (d := 9) (by decide) rfl rfl⟩)
    · exact og_op rfl rfl (og_value (run_move ((over_eval_out _ _ _ (by decide)).trans rfl)) ⟨_, over_put _ _ _ (by decide) _, hI.step (i := 4) (d := 10) (by decide) rfl rfl⟩)
    · have e4 := hI.v 4 (by decide) (hp ⟨4, .data⟩ (by simp) rfl)
      exact og_op rfl rfl (og_value (run_nilG ((over_eval _ _ _ (by decide) (by show 10 < 28; omega)).trans e4)) ⟨_, over_put _ _ _ (by decide) _, hI.step (i := 5) (d := 11) (by decide) rfl rfl⟩)
    · have e5 := hI.v 5 (by decide) (hp ⟨5, .data⟩ (by simp) rfl)
      exact og_op rfl rfl (og_value (run_fieldG (j := 1) (by simp) ((over_eval _ _ _ (by decide) (by show 11 < 28; omega)).trans e5)) ⟨_, over_put _ _ _ (by decide) _, hI.step (i := 6) (d := 12) (by decide) rfl rfl⟩)
    · have e6 := hI.v 6 (by decide) (hp ⟨6, .data⟩ (by simp) rfl)
      exact og_op rfl rfl (og_value (run_loadSg ((over_eval _ _ _ (by decide) (by show 12 < 28; omega)).trans e6) (HC.out wz hI.wd 1 _ rfl)) ⟨_, over_put _ _ _ (by decide) _, hI.step (i := 7) (d := 13) (by decide) rfl rfl⟩)
    · exact og_op rfl rfl (og_value (run_move ((over_eval_out _ _ _ (by decide)).trans rfl)) ⟨_, over_put _ _ _ (by decide) _, hI.step (i := 8) (d := 14) (by decide) rfl rfl⟩)
    · have e8 := hI.v 8 (by decide) (hp ⟨8, .data⟩ (by simp) rfl)
      exact og_op rfl rfl (og_value (run_nilG ((over_eval _ _ _ (by decide) (by show 14 < 28; omega)).trans e8)) ⟨_, over_put _ _ _ (by decide) _, hI.step (i := 9) (d := 15) (by decide) rfl rfl⟩)
    · have e9 := hI.v 9 (by decide) (hp ⟨9, .data⟩ (by simp) rfl)
      exact og_op rfl rfl (og_value (run_fieldG (j := 3) (by simp) ((over_eval _ _ _ (by decide) (by show 15 < 28; omega)).trans e9)) ⟨_, over_put _ _ _ (by decide) _, hI.step (i := 10) (d := 16) (by decide) rfl rfl⟩)
    · have e10 := hI.v 10 (by decide) (hp ⟨10, .data⟩ (by simp) rfl)
      exact og_op rfl rfl (og_value (run_loadV ((over_eval _ _ _ (by decide) (by show 16 < 28; omega)).trans e10) (HC.out wz hI.wd 3 _ rfl)) ⟨_, over_put _ _ _ (by decide) _, hI.step (i := 11) (d := 17) (by decide) rfl rfl⟩)
    · have e11 := hI.v 11 (by decide) (hp ⟨11, .data⟩ (by simp) rfl)
      obtain ⟨fn, m1, m2, m3⟩ := HS.out
      refine og_op rfl rfl (og_call (run_invS ((over_eval _ _ _ (by decide) (by show 17 < 28; omega)).trans e11) m1 m2) ?_)
      refine (m3 wz (HK.out wz hI.wd P hP)).mono ?_
      rintro e w' ⟨rfl, rfl⟩
      exact ⟨_, rfl, _, over_put _ _ _ (by decide) _, hI.step (i := 12) (d := 18) (by decide) rfl rfl⟩
    · exact og_op rfl rfl (og_value (run_move ((over_eval_out _ _ _ (by decide)).trans rfl)) ⟨_, over_put _ _ _ (by decide) _, hI.step (i := 13) (d := 19) (by decide) rfl rfl⟩)
    · have e13 := hI.v 13 (by decide) (hp ⟨13, .data⟩ (by simp) rfl)
      exact og_op rfl rfl (og_value (run_nilG ((over_eval _ _ _ (by decide) (by show 19 < 28; omega)).trans e13)) ⟨_, over_put _ _ _ (by decide) _, hI.step (i := 14) (d := 20) (by decide) rfl rfl⟩)
    · have e14 := hI.v 14 (by decide) (hp ⟨14, .data⟩ (by simp) rfl)
      exact og_op rfl rfl (og_value (run_fieldG (j := 5) (by simp) ((over_eval _ _ _ (by decide) (by show 20 < 28; omega)).trans e14)) ⟨_, over_put _ _ _ (by decide) _, hI.step (i := 15) (d := 21) (by decide) rfl rfl⟩)
    · have e15 := hI.v 15 (by decide) (hp ⟨15, .data⟩ (by simp) rfl)
      exact og_op rfl rfl (og_value (run_loadBg ((over_eval _ _ _ (by decide) (by show 21 < 28; omega)).trans e15) (HC.out wz hI.wd 5 _ rfl)) ⟨_, over_put _ _ _ (by decide) _, hI.step (i := 16) (d := 22) (by decide) rfl rfl⟩)
    · exact og_op rfl rfl (og_value (run_move ((over_eval_out _ _ _ (by decide)).trans rfl)) ⟨_, over_put _ _ _ (by decide) _, hI.step (i := 17) (d := 23) (by decide) rfl rfl⟩)
    · have e17 := hI.v 17 (by decide) (hp ⟨17, .data⟩ (by simp) rfl)
      exact og_op rfl rfl (og_value (run_nilG ((over_eval _ _ _ (by decide) (by show 23 < 28; omega)).trans e17)) ⟨_, over_put _ _ _ (by decide) _, hI.step (i := 18) (d := 24) (by decide) rfl rfl⟩)
    · have e18 := hI.v 18 (by decide) (hp ⟨18, .data⟩ (by simp) rfl)
      exact og_op rfl rfl (og_value (run_fieldG (j := 8) (by simp) ((over_eval _ _ _ (by decide) (by show 24 < 28; omega)).trans e18)) ⟨_, over_put _ _ _ (by decide) _, hI.step (i := 19) (d := 25) (by decide) rfl rfl⟩)
    · have e19 := hI.v 19 (by decide) (hp ⟨19, .data⟩ (by simp) rfl)
      exact og_op rfl rfl (og_value (run_loadBg ((over_eval _ _ _ (by decide) (by show 25 < 28; omega)).trans e19) (HC.out wz hI.wd 8 _ rfl)) ⟨_, over_put _ _ _ (by decide) _, hI.step (i := 20) (d := 26) (by decide) rfl rfl⟩)
    · have e3 := hI.v 3 (by decide) (hp ⟨3, .data⟩ (by simp) rfl)
      have e7 := hI.v 7 (by decide) (hp ⟨7, .data⟩ (by simp) rfl)
      have e12 := hI.v 12 (by decide) (hp ⟨12, .data⟩ (by simp) rfl)
      have e16 := hI.v 16 (by decide) (hp ⟨16, .data⟩ (by simp) rfl)
      have e20 := hI.v 20 (by decide) (hp ⟨20, .data⟩ (by simp) rfl)
      exact og_op rfl rfl (og_value (run_buildN ((over_eval _ _ _ (by decide) (by show 9 < 28; omega)).trans e3) ((over_eval _ _ _ (by decide) (by show 13 < 28; omega)).trans e7) ((over_eval _ _ _ (by decide) (by show 18 < 28; omega)).trans e12) ((over_eval _ _ _ (by decide) (by show 22 < 28; omega)).trans e16) ((over_eval _ _ _ (by decide) (by show 26 < 28; omega)).trans e20) rfl) ⟨_, over_put _ _ _ (by decide) _, hI.step (i := 21) (d := 27) (by decide) rfl rfl⟩)
    · have e21 := hI.v 21 (by decide) (hp ⟨21, .data⟩ (by simp) rfl)
      have hbz : ∃ old, wz.heap[w.heap.size]? = some (.cells old 32 (0, 0)) ∧ old.size = 9 := by
        obtain ⟨q, rfl | rfl⟩ := hI.wd
        · exact ⟨_, HB0.out, rfl⟩
        · exact ⟨_, setRow_heap _ _ _ _ _ _ HB0.out, rfl⟩
      obtain ⟨old, hb, hsz⟩ := hbz
      refine og_op rfl rfl (wp_store_row 32 (.tmp 2) (.tmp 27) rfl w.heap.size (noteA nm sh s) ((over_eval_out _ _ _ (by decide)).trans rfl) ((over_eval _ _ _ (by decide) (by show 27 < 28; omega)).trans e21) 32 old hb (by kernel_rfl) hsz (by simp [noteA, Value.oneCell']) ?_)
      refine ⟨f, rfl, ?_, ?_, ?_⟩
      · obtain ⟨q, rfl | rfl⟩ := hI.wd
        · exact ⟨q, .inr rfl⟩
        · exact ⟨q, .inr (setRow_setRow _ _ _ _)⟩
      · intro _
        obtain ⟨q, rfl | rfl⟩ := hI.wd
        · exact ⟨q, rfl⟩
        · exact ⟨q, setRow_setRow _ _ _ _⟩
      · intro j hj hl2
        rw [or_ne (by omega)] at hl2
        exact hI.v j hj hl2
  · intro L f wz hL hI
    obtain ⟨q, rfl⟩ := hI.fin (hL 22 (by decide))
    have hb := setRow_heap _ _ _ (noteA nm sh s) _ _ (show ((w.alloc (.cells #[.bool false, .bool false, .bool false, .bool false, .string ⟨#[]⟩, .string ⟨#[]⟩, .string ⟨#[]⟩, .int .i64 0, .slice none 0 0] 32)).drewN q).heap[w.heap.size]? = some (.cells _ 32 (0, 0)) from HB0.out)
    have HBN := Lib.hid hb
    have HBB := Lib.hid (show Below w.heap.size w (((w.alloc (.cells #[.bool false, .bool false, .bool false, .bool false, .string ⟨#[]⟩, .string ⟨#[]⟩, .string ⟨#[]⟩, .int .i64 0, .slice none 0 0] 32)).drewN q).setRow w.heap.size (noteA nm sh s)) from below_setRow (Below.drewN' ((Below.refl _ w).alloc (Nat.le_refl _) _)) (Nat.le_refl _) _)
    clear hI hL hb HC HK HS HB0
    generalize ((w.alloc (.cells #[.bool false, .bool false, .bool false, .bool false, .string ⟨#[]⟩, .string ⟨#[]⟩, .string ⟨#[]⟩, .int .i64 0, .slice none 0 0] 32)).drewN q).setRow w.heap.size (noteA nm sh s) = W at *
    simp only [over, ovl, noteD, List.contains, List.elem, Nat.reduceBEq, Bool.false_eq_true, if_false, if_true, Nat.reduceAdd]
    go_wp2_with fail
    (try simp only [Exit.inBlock, Exit.then])
    refine bodyPost_ret (results_cell_row rfl _ _ w.heap.size _ _ (0, 0) _ rfl HBN.out Tryz.underlying32 rfl (by kernel_rfl)) rfl ⟨rfl, HBB.out⟩
end Go.Proofs.YtmmkebdaijmpiaaGreat
