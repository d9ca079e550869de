/- Numbers of two lists; the law FnInt32List. (Printed by gen_nl4.py.) -/
import Derived.Test.YtlnnmionbflolaaDoorNlCI
import Derived.Test.YtlnnmionbflolaaDoorOpenN
namespace Go.Proofs.YtlnnmionbflolaaDoor
open Go.RowKit
set_option linter.unusedVariables false
set_option linter.unusedSimpArgs false

/-- The cells of a row of structs. -/
theorem rows_at {α : Type} {sz : Nat} {IP : α → List Value → World → Prop} {w : World} {xs : List Value} {os : List α} {base : Nat} {e : TypeId} {a : Option Addr} {n c : Nat} (h : RowsOf sz IP w xs os) (hr : w.ownsRow base e sz (.slice a n c) n xs) (i : Nat) (hi : i < os.length) (hn : n = os.length) (hsz : 0 < sz) :
    ∃ g cs, a = some ⟨g, 0, none⟩ ∧ IP os[i] cs w ∧ ∀ j u, j < sz → cs[j]? = some u → w.cell? ⟨g, i * sz + j, none⟩ = some u := by
  subst hn
  rcases hr.2 with ⟨e, h0⟩ | ⟨g, cap, cur, e, hb, hh, hnc, hcm, hcs, ht⟩
  · omega
  · cases e
    refine ⟨g, _, rfl, h.2 i hi, fun j u hj hu => ?_⟩
    rw [List.getElem?_take, if_pos hj, List.getElem?_drop] at hu
    have hlt : i * sz + j < os.length * sz := by
      have : (i + 1) * sz ≤ os.length * sz := Nat.mul_le_mul_right _ hi
      rw [Nat.add_mul] at this
      omega
    rw [← ht, List.getElem?_take, if_pos hlt, Array.getElem?_toList] at hu
    simp [World.cell?, hh, hu]
theorem Vals.drewN {w : World} {v : Value} {l : List Value} (h : Vals w v l) (n : Nat) : Vals (w.drewN n) v l := h.later fun b _ => by rw [World.heap_drewN]

set_option maxRecDepth 100000 in
theorem alikeN_same (v1 v2 : Value) (l : List Int) (w : World) (h1 : Vals w v1 (l.map (Value.int .i64))) (h2 : Vals w v2 (l.map (Value.int .i64))) (hl : l.length ≤ 8796093022208) :
    Calls Tryd.prog 44 #[v1, v2] w fun e w' => e = .returned (.bool true) ∧ ∃ m, w' = w.drewN m := by
  have H1 := Lib.hid h1
  have H2 := Lib.hid h2
  obtain ⟨a1, c1, rfl⟩ := h1.len
  obtain ⟨a2, c2, rfl⟩ := h2.len
  rw [List.length_map] at H1 H2 ⊢
  clear h1 h2
  go_enter Tryd.func44, Tryd.ntmps44
  go_wp2_with fail
  go_loopw [5, 13] (fun _ i wr => ∃ k : Nat, k ≤ l.length ∧ i = .int .i64 k ∧ Drawn w wr) (fun _ i _ => l.length - (intOf i).toNat)
  case atStart => exact ⟨0, Nat.zero_le _, rfl, Drawn.refl _⟩
  case round =>
    obtain ⟨k, hk, rfl, m, rfl⟩ := hrel
    by_cases hlt : k < l.length
    case neg =>
      go_wp2_with fail
      go_ret
      exact ⟨rfl, m, rfl⟩
    obtain ⟨b1, o1, rfl, k1⟩ := H1.out.cell (by simp; omega)
    obtain ⟨b2, o2, rfl, k2⟩ := H2.out.cell (by simp; omega)
    have d1 := k1 k (by simpa using hlt)
    have d2 := k2 k (by simpa using hlt)
    rw [List.getElem_map] at d1 d2
    clear k1 k2 H1 H2
    generalize l[k] = t at *
    have q : (t != t) = false := by simp
    go_wp2_with fail
    go_quiet (fail)
    go_wp2_with fail
    go_roundw
    case rel => exact ⟨k + 1, by omega, by go_num, _, rfl⟩
    case measure => simp [intOf]; omega

set_option maxRecDepth 100000 in
/-- What was said behind step k. -/
theorem saidN_any (k : Nat) (hk : k ≤ 1048576) (bS g n c : Nat) (bad : Bool) (a1 : Option Addr) (n1 c1 : Nat) (w : World) (hb : w.heap[bS]? = some (.cells #[.slice (some ⟨g, 0, none⟩) n c] 41 (0, 0))) (hkn : k < n) (h0 : w.cell? ⟨g, k * 3 + 0, none⟩ = some (.bool bad)) (h1 : w.cell? ⟨g, k * 3 + 1, none⟩ = some (.slice a1 n1 c1)) :
    Calls Tryd.prog 20 #[.int .i64 k, .pointer (some ⟨bS, 0, none⟩)] w fun e w' => e = .returned (.tuple #[.bool bad, .slice a1 n1 c1]) ∧ ∃ m, w' = w.drewN m := by
  have c0 := cell_of_one hb
  have l1 := lt_of_block hb
  simp only [Nat.add_zero] at h0
  clear hb
  go_enter Tryd.func20, Tryd.ntmps20
  go_wp2_with fail
  go_quiet (fail)
  go_wp2_with fail
  go_ret2
  exact ⟨rfl, _, rfl⟩

set_option maxRecDepth 100000 in
set_option maxHeartbeats 1600000 in
theorem numsN_any (bS : Nat) (oa ra : Option Addr) (oc rc n b1 b2 : Nat) (xs ys : List Value) (os : List (Bool × List Int)) (w : World) (hb : w.heap[bS]? = some (.cells #[.slice oa n oc] 41 (0, 0))) (hn : n = os.length) (hn2 : n ≤ 1048576)
    (hs : w.ownsRow b1 53 3 (.slice oa n oc) n xs) (hs2 : RowsOf 3 (IPs (fun _ => False)) w xs os) (hw : w.ownsRow b2 92 2 (.slice ra n rc) n ys) (hw2 : RowsOf 2 IW w ys os) (hle : ∀ o ∈ os, o.2.length ≤ 8796093022208) :
    Calls Tryd.prog 17 #[.slice ra n rc, .func (.func 20) #[] #[.pointer (some ⟨bS, 0, none⟩)]] w fun e w' => e = .returned (.bool true) ∧ Below w.heap.size w w' := by
  have HS := Lib.hid hs
  have HS2 := Lib.hid hs2
  have HW := Lib.hid hw
  have HW2 := Lib.hid hw2
  have HLE := Lib.hid hle
  have HN := Lib.hid hn
  have HBS := Lib.hid hb
  have lS := lt_of_block hb
  clear hs hs2 hw hw2 hle hn hb
  go_enter Tryd.func17, Tryd.ntmps17
  go_wp2_with fail
  go_loopw [5, 6, 7, 10] (fun _ _ _ i wr => ∃ k : Nat, k ≤ n ∧ i = .int .i64 k ∧ ∃ m, wr = w.drewN m) (fun _ _ _ i _ => n - (intOf i).toNat)
  case atStart => exact ⟨0, Nat.zero_le _, rfl, 0, rfl⟩
  case round =>
    obtain ⟨k, hk, rfl, m, rfl⟩ := hrel
    by_cases hlt : k < n
    case neg =>
      go_wp2_with fail
      go_ret
      exact ⟨rfl, Below.drewN' (Below.refl _ _)⟩
    have hko : k < os.length := by rw [← HN.out]; exact hlt
    obtain ⟨g1, cs1, rfl, ⟨v1, rfl, hs1⟩, hc1⟩ := rows_at HS2.out HS.out k hko HN.out (by omega)
    obtain ⟨g2, cs2, rfl, ⟨u1, rfl, ht1⟩, hc2⟩ := rows_at HW2.out HW.out k hko HN.out (by omega)
    have hle := HLE.out _ (List.getElem_mem hko)
    have r0 := hc1 0 _ (by omega) rfl
    have r1 := hc1 1 _ (by omega) rfl
    have q0 := hc2 0 _ (by omega) rfl
    have q1 := hc2 1 _ (by omega) rfl
    obtain ⟨a1, k1, e1⟩ := hs1.form
    obtain ⟨a3, k3, e3⟩ := ht1.form
    rw [List.length_map] at e1 e3
    subst e1 e3
    obtain ⟨⟨bad, items⟩, ho⟩ : ∃ o, os[k] = o := ⟨_, rfl⟩
    rw [ho] at hs1 ht1 r0 r1 q0 q1 hle
    simp only at hs1 ht1 r0 r1 q0 q1 hle
    have CS : Hid (∀ m, Calls Tryd.prog 20 #[.int .i64 k, .pointer (some ⟨bS, 0, none⟩)] (w.drewN m) fun e w' => e = .returned (.tuple #[.bool bad, .slice a1 items.length k1]) ∧ ∃ m2, w' = (w.drewN m).drewN m2) := Lib.hid (fun m => saidN_any k (by omega) bS g1 n oc bad a1 items.length k1 (w.drewN m) (by rw [World.heap_drewN]; exact HBS.out) hlt (by rw [World.cell?_drewN]; exact r0) (by rw [World.cell?_drewN]; exact r1))
    have CA : Hid (∀ m, Calls Tryd.prog 44 #[.slice a1 items.length k1, .slice a3 items.length k3] (w.drewN m) fun e w' => e = .returned (.bool true) ∧ ∃ m2, w' = (w.drewN m).drewN m2) := Lib.hid (fun m => alikeN_same _ _ items (w.drewN m) (hs1.vals.drewN m) (ht1.vals.drewN m) hle)
    simp only [Nat.add_zero] at q0
    clear hc1 hc2 hs1 ht1 r0 r1 hko ho HW HS HLE
    go_wp2_with fail
    refine (CS.out m).mono ?_
    rintro e w4 ⟨rfl, m2, rfl⟩
    rw [World.drewN_drewN]
    cases bad
    all_goals
      go_wp2_with fail
      refine (CA.out (m + m2)).mono ?_
      rintro e w5 ⟨rfl, m3, rfl⟩
      rw [World.drewN_drewN]
      go_wp2_with fail
      go_roundw
      case rel => first | exact ⟨k + 1, by omega, by go_num, _, rfl⟩ | ((repeat apply Exists.intro); exact ⟨⟨k + 1, by omega, by go_num, _, rfl⟩, rfl⟩)
      case measure => simp [intOf]; omega

/-- A guarded operation whose guard stands. -/
theorem og_guarded {P : Program} {ops : Array Oper} {Q : Exit → Act → World → Prop} {i j d : Nat} {b : Bool} {o : Oper} {K : Act → World → Prop} {a : Act} {w : World} (ho : ops[i]? = some o) (hg : o.guard = some (j, b)) (hd : (ops[j]?).bind (·.dst) = some d) (hv : a.tmps[d]? = some (.bool b)) (h : o.wp P a w K Q) : wpOp P ops Q i K a w := by
  unfold wpOp
  simp only [ho]
  have hw : Region.wanted o (yielded ops a.tmps) = true := by simp [Region.wanted, hg, yielded, hd, hv]
  rw [if_pos hw]
  exact .inl h
theorem over_tmp (D : List Nat) (f : Nat → Value) (a : Act) {d : Nat} (hd : D.contains d = true) (hs : d < a.tmps.size) : (over D f a).tmps[d]? = some (f d) := by
  rw [over_get, Array.getElem?_eq_getElem hs]
  simp only [Option.map_some, hd, if_true]
/-- What holds in a region that reads and calls. -/
structure LJ (w0 : World) (ps : List (Nat × Nat)) (VP : Nat → Value → World → Prop) (L : Nat → Bool) (f : Nat → Value) (w : World) : Prop where
  bel : Below w0.heap.size w0 w
  v : ∀ i d, (i, d) ∈ ps → L i = true → VP i (f d) w
theorem LJ.step {w0 : World} {ps : List (Nat × Nat)} {VP : Nat → Value → World → Prop} {L : Nat → Bool} {f : Nat → Value} {w w' : World} (h : LJ w0 ps VP L f w) (wf : ∀ x ∈ ps, ∀ y ∈ ps, (x.1 = y.1 ↔ x.2 = y.2)) (mV : ∀ i v w w', Below w.heap.size w w' → VP i v w → VP i v w') {i d : Nat} (hx : (i, d) ∈ ps) (hb : Below w.heap.size w w') {v : Value} (hv : VP i v w') : LJ w0 ps VP (fun k => k == i || L k) (upd f d v) w' := by
  refine ⟨h.bel.trans (hb.mono h.bel.size), fun j e hy hl => ?_⟩
  by_cases q : j = i
  · have := (wf _ hy _ hx).1 q
    simp only at this
    subst this; subst q
    rw [upd_same]; exact hv
  · rw [upd_ne _ _ (fun e' => q ((wf _ hy _ hx).2 e'))]
    rw [or_ne q] at hl
    exact mV _ _ _ _ hb (h.v _ _ hy hl)
theorem LJ.start {w0 w : World} {ps : List (Nat × Nat)} {VP : Nat → Value → World → Prop} (hd : w = w0.drew) (f : Nat → Value) : LJ w0 ps VP (fun _ => false) f w := by
  subst hd
  exact ⟨(Below.refl _ _).drew, fun _ _ _ h => Bool.noConfusion h⟩

theorem cutsF_any (w : World) : Calls Tryd.prog 19 #[.func (.func 15) #[] #[]] w fun e w' => ∃ bx, e = .returned (.func (.func 46) #[] #[.pointer (some ⟨bx, 0, none⟩)]) ∧ w'.heap[bx]? = some (.cells #[.func (.func 15) #[] #[]] 45 (0, 0)) ∧ Below w.heap.size w w' := by
  go_enter Tryd.func19, Tryd.ntmps19
  go_wp2_with fail
  go_ret
  exact ⟨w.heap.size, rfl, heap_at _ _ _ rfl, by (repeat (first | (with_reducible exact Below.refl _ _) | (with_reducible assumption) | ((with_reducible refine Below.alloc ?_ ?_ _); rotate_left; focus ((try simp only [World.size_alloc, size_setCell, World.heap_drewN]); (try omega); done)) | ((with_reducible refine Below.setCell ?_ ?_ _); rotate_left; focus ((try simp only [World.size_alloc, size_setCell, World.heap_drewN]); (try omega); done)) | (with_reducible refine Below.drewN' ?_) | (with_reducible refine Below.drew ?_)))⟩
theorem run_loadS {ρ : Operand → Value} {d : Option Tmp} {ty : TypeId} {pos : String} {af : Array Edge} {g : Option (Nat × Bool)} {x : Tmp} {w : World} {B : Nat} {a : Option Addr} {n c : Nat} (h : ρ (.tmp x) = .pointer (some ⟨B, 0, none⟩)) (hc : w.cell? ⟨B, 0, none⟩ = some (.slice a n c)) :
    (execOp ρ ⟨d, .load 41 (.tmp x), ty, pos, af, g⟩).run Tryd.prog w = .ok (.value (.slice a n c)) w := by
  go_simp
theorem run_lenS {ρ : Operand → Value} {d : Option Tmp} {ty : TypeId} {pos : String} {af : Array Edge} {g : Option (Nat × Bool)} {x : Tmp} {w : World} {a : Option Addr} {n c : Nat} (h : ρ (.tmp x) = .slice a n c) :
    (execOp ρ ⟨d, .call { callee := .builtin .len, args := #[.tmp x], argTypes := #[41] }, ty, pos, af, g⟩).run Tryd.prog w = .ok (.value (.int .i64 (n : Nat))) w := by
  go_simp
theorem run_eqlI {ρ : Operand → Value} {d : Option Tmp} {ty : TypeId} {pos : String} {af : Array Edge} {g : Option (Nat × Bool)} {x y : Tmp} {w : World} {n : Int} (h : ρ (.tmp x) = .int .i64 n) (h' : ρ (.tmp y) = .int .i64 n) :
    (execOp ρ ⟨d, .binOp .eql 3 (.tmp x) (.tmp y) 3, ty, pos, af, g⟩).run Tryd.prog w = .ok (.value (.bool true)) w := by
  have e : (n == n) = true := beq_self_eq_true n
  go_simp
theorem run_callC {P : Program} {ρ : Operand → Value} {d : Option Tmp} {ty : TypeId} {pos : String} {af : Array Edge} {g : Option (Nat × Bool)} {w : World} {x : Operand} {v : Value} {f : FuncId} {ts : Array TypeId} (hx : ρ x = v) (hf : ρ (.func f) = .func (.func f) #[] #[]) (hc : ∀ args, (callFunc f args).run P w = .ok (.enter f args) w) :
    (execOp ρ ⟨d, .call { callee := .value (.func f), args := #[x], argTypes := ts }, ty, pos, af, g⟩).run P w = .ok (.enter f #[v]) w := by
  subst hx
  simp [execOp, resolve, hf, go_sem, hc]
theorem run_call4 {P : Program} {ρ : Operand → Value} {d : Option Tmp} {ty : TypeId} {pos : String} {af : Array Edge} {g : Option (Nat × Bool)} {x y z u : Operand} {w : World} {vx vy vz vu : Value} {f : FuncId} {ts : Array TypeId} (hx : ρ x = vx) (hy : ρ y = vy) (hz : ρ z = vz) (hu : ρ u = vu) (hf : ρ (.func f) = .func (.func f) #[] #[]) (hc : ∀ args, (callFunc f args).run P w = .ok (.enter f args) w) :
    (execOp ρ ⟨d, .call { callee := .value (.func f), args := #[x, y, z, u], argTypes := ts }, ty, pos, af, g⟩).run P w = .ok (.enter f #[vx, vy, vz, vu]) w := by
  subst hx; subst hy; subst hz; subst hu
  simp [execOp, resolve, hf, go_sem, hc]
theorem run_mkf {P : Program} {ρ : Operand → Value} {d : Option Tmp} {ty : TypeId} {pos : String} {af : Array Edge} {g : Option (Nat × Bool)} {x : Tmp} {w : World} {v : Value} {f : FuncId} (h : ρ (.tmp x) = v) :
    (execOp ρ ⟨d, .makeFunc (.func f) #[] #[.tmp x], ty, pos, af, g⟩).run P w = .ok (.value (.func (.func f) #[] #[v])) w := by
  subst h
  simp [execOp, go_sem]
theorem run_pickT {P : Program} {ρ : Operand → Value} {d : Option Tmp} {ty : TypeId} {pos : String} {af : Array Edge} {g : Option (Nat × Bool)} {x y : Tmp} {w : World} (h : ρ (.tmp x) = .bool true) (h' : ρ (.tmp y) = .bool true) (hf : ρ (.const (.bool false)) = .bool false) :
    (execOp ρ ⟨d, .pick (.tmp x) (.tmp y) (.const (.bool false)), ty, pos, af, g⟩).run P w = .ok (.value (.bool true)) w := by
  simp [execOp, go_sem, h, h', hf]

def lD : List Nat := [30, 31, 32, 33, 34, 35, 36, 37, 38, 39, 40, 41, 42, 43, 44, 4]
def lP : List (Nat × Nat) := [(0, 30), (1, 31), (2, 32), (3, 33), (4, 34), (5, 35), (6, 36), (7, 37), (8, 38), (9, 39), (10, 40), (11, 41), (12, 42), (13, 43), (14, 44), (15, 4)]
/-- The slots' values of the law's last region. -/
def lV (dv sv : Value) (oa : Option Addr) (oc n bS : Nat) (os : List (Bool × List Int)) (i : Nat) (v : Value) (w : World) : Prop :=
  match i with
  | 0 => v = .slice oa n oc
  | 1 => v = .int .i64 (n : Nat)
  | 2 => v = sv
  | 3 => v = .int .i64 (n : Nat)
  | 4 => v = .bool true
  | 5 => v = .bool true
  | 6 => v = dv
  | 7 => v = sv
  | 8 => v = .func (.func 15) #[] #[]
  | 9 => ∃ bx, v = .func (.func 46) #[] #[.pointer (some ⟨bx, 0, none⟩)] ∧ w.heap[bx]? = some (.cells #[.func (.func 15) #[] #[]] 45 (0, 0))
  | 10 => v = .func (.func 15) #[] #[]
  | 11 => ∃ a c b xs, v = .slice a n c ∧ w.ownsRow b 92 2 (.slice a n c) n xs ∧ RowsOf 2 IW w xs os
  | 12 => v = .func (.func 20) #[] #[.pointer (some ⟨bS, 0, none⟩)]
  | 13 => v = .bool true
  | 14 => v = .bool true
  | 15 => v = .bool true
  | _ => True
theorem lV_mono {dv sv : Value} {oa : Option Addr} {oc n bS : Nat} {os : List (Bool × List Int)} (i : Nat) (v : Value) (w w' : World) (hb : Below w.heap.size w w') (h : lV dv sv oa oc n bS os i v w) : lV dv sv oa oc n bS os i v w' := by
  unfold lV at h ⊢
  split at h
  case h_10 =>
    obtain ⟨bx, e, q⟩ := h
    exact ⟨bx, e, (hb.block _ (lt_of_block q)).trans q⟩
  case h_12 =>
    obtain ⟨a, c, b, xs, e, h1, h2⟩ := h
    exact ⟨a, c, b, xs, e, row_grow h1 hb, h2.later fun o cs hi => hi.grown fun b _ _ hb' => hb.block b (lt_of_block hb')⟩
  all_goals exact h

theorem holds_any (n : Int) (h0 : -9223372036854775808 ≤ n) (h1 : n ≤ 9223372036854775807) (w : World) : Calls Tryd.prog 13 #[.int .i64 32, .int .i64 n] w fun e w' => Tells (Rg n) e ∧ w = w' := by
  by_cases q1 : -2147483648 ≤ n
  · by_cases q2 : n < 2147483648
    · have d1 : decide (-2147483648 ≤ n) = true := decide_eq_true q1
      have d2 : decide (n < 2147483648) = true := decide_eq_true q2
      go_enter Tryd.func13, Tryd.ntmps13
      go_wp2_with fail
      go_ret
      exact ⟨Tells.yes rfl ⟨q1, by omega⟩, rfl⟩
    · have d1 : decide (-2147483648 ≤ n) = true := decide_eq_true q1
      have d2 : decide (n < 2147483648) = false := decide_eq_false q2
      go_enter Tryd.func13, Tryd.ntmps13
      go_wp2_with fail
      go_ret
      exact ⟨Tells.no rfl, rfl⟩
  · have d1 : decide (-2147483648 ≤ n) = false := decide_eq_false q1
    go_enter Tryd.func13, Tryd.ntmps13
    go_wp2_with fail
    go_ret
    exact ⟨Tells.no rfl, rfl⟩

theorem run_len (df : List Int) (l : List StepD) (hdl : df.length ≤ 1048576) (hx : ∀ x ∈ l, SmallN x) : ∀ (k : Nat) (hk : k ≤ l.length), (runsG cutN oneN df (l.take k)).1.2.length ≤ 1048577 * (k + 1) ∧ ∀ o ∈ (runsG cutN oneN df (l.take k)).2, o.2.length ≤ 1048577 * (k + 1) := by
  intro k
  induction k with
  | zero => intro _; exact ⟨Nat.le_trans hdl (by omega), by simp [runsG]⟩
  | succ k ih =>
    intro hk
    obtain ⟨h1, h2⟩ := ih (by omega)
    rw [runsG_next cutN oneN df l k (by omega)]
    generalize runsG cutN oneN df (l.take k) = r at *
    have hs := hx l[k] (List.getElem_mem (by omega))
    have hq := step_len r.1 l[k] hs.1 hs.2.1
    unfold runG
    split
    · refine ⟨by simp only; omega, fun o ho => ?_⟩
      rcases List.mem_append.1 ho with q | q
      · have := h2 o q; omega
      · simp only [List.mem_singleton] at q
        subst q
        simp only
        omega
    · exact ⟨by omega, fun o ho => by have := h2 o ho; omega⟩

set_option maxRecDepth 100000 in
set_option maxHeartbeats 1600000 in
theorem fnInt32List_law (dv : Value) (df : List Int) (sv : Value) (l : List StepD) (w : World) (hd : Vals w dv (df.map (Value.int .i64))) (hwf : ∀ n ∈ df, -9223372036854775808 ≤ n ∧ n ≤ 9223372036854775807) (hs : Steps w sv l) (hdl : df.length ≤ 1048576) (hll : l.length ≤ 1048576) (hx : ∀ x ∈ l, SmallN x) (hE : ErrsAt w) :
    Calls Tryd.prog 4 #[dv, sv] w fun e w' => e = .returned (.bool true) ∧ Below w.heap.size w w' := by
  have F7 := Lib.hid (fits7_any sv l w hs (by omega) (fun x h => by have := (hx x h).2.1; omega))
  have CL := Lib.hid (fun W (h : Below w.heap.size w W) (hrg : ∀ n ∈ df, Rg n) => listN_any dv df sv l W (hd.later h.block) hrg (hs.later h) hdl hll hx (hE.later h.block))
  have HWF := Lib.hid hwf
  have HD := Lib.hid (fun W (h : Below w.heap.size w W) => hd.later h.block)
  have HS := Lib.hid (fun W (h : Below w.heap.size w W) => hs.later h)
  have HX := Lib.hid hx
  have HLE : Hid (∀ o ∈ (runsG cutN oneN df l).2, o.2.length ≤ 8796093022208) := Lib.hid (fun o ho => by
    have := (run_len df l hdl hx l.length (Nat.le_refl _)).2 o (by rw [List.take_length]; exact ho)
    omega)
  have HNO : Hid ((runsG cutN oneN df l).2.length = (l.filter toldG).length) := Lib.hid (runsG_len cutN oneN df l)
  obtain ⟨sa, sc, rfl⟩ := hs.len
  obtain ⟨da, dc, rfl⟩ := hd.len
  rw [List.length_map] at CL HD ⊢
  have d0 : decide ((2147483647 : Int) < (df.length : Int)) = false := decide_eq_false (by omega)
  clear hd hs hx hwf hE
  go_enter Tryd.func4, Tryd.ntmps4
  go_wp2_with fail
  refine F7.out.mono ?_
  rintro e w1 ⟨⟨b, rfl, -⟩, hb1⟩
  have HB1 := Lib.hid hb1
  cases b with
  | false =>
    clear hb1
    go_wp2_with fail
    go_ret
    exact ⟨rfl, HB1.out⟩
  | true =>
    clear hb1
    go_wp2_with fail
    go_loop [6, 19] (fun _ i => ∃ k : Nat, k ≤ df.length ∧ i = .int .i64 k ∧ Hid (∀ j (h : j < df.length), j < k → Rg df[j])) (fun _ i => df.length - (intOf i).toNat)
    case atStart => exact ⟨0, Nat.zero_le _, rfl, Lib.hid (fun j _ h => by omega)⟩
    case round =>
      obtain ⟨k, hk, rfl, hh⟩ := hrel
      by_cases hlt : k < df.length
      · obtain ⟨db, dof, rfl, hc⟩ := Vals.cell (n := df.length) (by simpa using HD.out w1 HB1.out) (by simpa using Nat.lt_of_le_of_lt (Nat.zero_le _) hlt)
        have hck := hc k (by simpa using hlt)
        rw [List.getElem_map] at hck
        have hwk := HWF.out df[k] (List.getElem_mem hlt)
        have HN : Hid (Rg df[k] → ∀ j (h : j < df.length), j < k + 1 → Rg df[j]) := Lib.hid (fun hx j h hj => by
          by_cases e : j = k
          · subst e; exact hx
          · exact hh.out j h (by omega))
        clear hc hh
        generalize df[k] = x at *
        have CH := Lib.hid (holds_any x hwk.1 hwk.2 w1)
        go_wp2_with fail
        refine CH.out.mono ?_
        rintro e w2 ⟨⟨b, rfl, hb⟩, rfl⟩
        cases b with
        | false =>
          go_wp2_with fail
          go_ret
          exact ⟨rfl, HB1.out⟩
        | true =>
          have HH := Lib.hid (HN.out (hb rfl))
          clear hb HN
          go_wp2_with fail
          go_round
          case rel => exact ⟨k + 1, by omega, by go_num, HH⟩
          case measure => simp [intOf]; omega
      · have hrg : ∀ n ∈ df, Rg n := fun n hn => by
          obtain ⟨j, hj, rfl⟩ := List.mem_iff_getElem.1 hn
          exact hh.out j hj (by omega)
        have C := Lib.hid (CL.out w1 HB1.out hrg)
        clear hrg hh
        go_wp2_with fail
        refine C.out.mono ?_
        rintro e w2 ⟨rv, xs, rfl, ho, hor, hb2⟩
        obtain ⟨n, hn⟩ : ∃ n, n = (l.filter toldG).length := ⟨_, rfl⟩
        have hn2 : n ≤ 1048576 := by rw [hn]; exact Nat.le_trans (List.length_filter_le _ _) hll
        rw [HNO.out, ← hn] at ho
        have HNO : Hid ((runsG cutN oneN df l).2.length = n) := Lib.hid (HNO.out.trans hn.symm)
        obtain ⟨oa, oc, rfl⟩ := row_form ho
        have HB2 := Lib.hid (Below.after HB1.out hb2)
        have HO2 := Lib.hid ho
        have HOR2 := Lib.hid hor
        have HNN := Lib.hid hn
        clear ho hor hb2 hn C CL
        go_upto_region 11 with fail
        obtain ⟨w3, hw3⟩ : ∃ w3, w3 = w2.alloc (.cells #[.slice oa n oc] 41) := ⟨_, rfl⟩
        obtain ⟨bS, hbS⟩ : ∃ bS, bS = w2.heap.size := ⟨_, rfl⟩
        have HBS : Hid (w3.heap[bS]? = some (.cells #[.slice oa n oc] 41 (0, 0))) := Lib.hid (by rw [hw3, hbS]; exact heap_at _ _ _ rfl)
        have hb23 : Below w2.heap.size w2 w3 := by rw [hw3]; (repeat (first | (with_reducible exact Below.refl _ _) | (with_reducible assumption) | ((with_reducible refine Below.alloc ?_ ?_ _); rotate_left; focus ((try simp only [World.size_alloc, size_setCell, World.heap_drewN]); (try omega); done)) | ((with_reducible refine Below.setCell ?_ ?_ _); rotate_left; focus ((try simp only [World.size_alloc, size_setCell, World.heap_drewN]); (try omega); done)) | (with_reducible refine Below.drewN' ?_) | (with_reducible refine Below.drew ?_)))
        have HB3 : Hid (Below w.heap.size w w3) := Lib.hid (Below.after HB2.out hb23)
        have HO := Lib.hid (row_grow HO2.out hb23)
        have HOR : Hid (RowsOf 3 (IPs (fun _ => False)) w3 xs (runsG cutN oneN df l).2) := Lib.hid (HOR2.out.later fun o cs hi => hi.later (A' := fun _ => False) fun b _ _ hb' _ => ⟨hb23.block b (lt_of_block hb'), fun q => q⟩)
        have CT : Hid (∀ W, Below w3.heap.size w3 W → Calls Tryd.prog 7 #[.slice sa l.length sc] W fun e w' => e = .returned (.int .i64 (n : Nat)) ∧ Below W.heap.size W w') := Lib.hid (fun W h => by rw [HNN.out]; exact told29_any _ l W (HS.out W (Below.after HB3.out h)) (by omega))
        have CW : Hid (∀ bx W, Below w3.heap.size w3 W → W.heap[bx]? = some (.cells #[.func (.func 15) #[] #[]] 45 (0, 0)) → Calls Tryd.prog 18 #[.slice da df.length dc, .slice sa l.length sc, .func (.func 46) #[] #[.pointer (some ⟨bx, 0, none⟩)], .func (.func 15) #[] #[]] W fun e w' => ∃ rv xs, e = .returned rv ∧ w'.ownsRow W.heap.size 92 2 rv (runsG cutN oneN df l).2.length xs ∧ RowsOf 2 IW w' xs (runsG cutN oneN df l).2 ∧ Below W.heap.size W w') := Lib.hid (fun bx W h hbx => wantsN_any _ df _ l bx W (by simpa using HD.out W (Below.after HB3.out h)) (HS.out W (Below.after HB3.out h)) hdl hll HX.out hbx)
        rw [← hw3, ← hbS]
        clear hw3 hbS hb23 HB2 HO2 HOR2 HB1 F7
        refine wp_region_og lD (LJ w3 lP (lV (.slice da df.length dc) (.slice sa l.length sc) oa oc n bS (runsG cutN oneN df l).2)) (by kernel_rfl) (by kernel_rfl) (LJ.start rfl _) ?_ ?_
        · intro i o ho L f wz hl hp hI
          have hi : i < 16 := (Array.getElem?_eq_some_iff.1 ho).1
          have WF : ∀ x ∈ lP, ∀ y ∈ lP, (x.1 = y.1 ↔ x.2 = y.2) := by decide
          have HBSz : wz.heap[bS]? = some (.cells #[.slice oa n oc] 41 (0, 0)) := (hI.bel.block _ (lt_of_block HBS.out)).trans HBS.out
          obtain rfl | rfl | rfl | rfl | rfl | rfl | rfl | rfl | rfl | rfl | rfl | rfl | rfl | rfl | rfl | rfl : i = 0 ∨ i = 1 ∨ i = 2 ∨ i = 3 ∨ i = 4 ∨ i = 5 ∨ i = 6 ∨ i = 7 ∨ i = 8 ∨ i = 9 ∨ i = 10 ∨ i = 11 ∨ i = 12 ∨ i = 13 ∨ i = 14 ∨ i = 15 := by omega
          all_goals obtain rfl := Option.some.inj ho
          · exact og_op rfl rfl (og_value (run_loadS ((over_eval_out _ _ _ (by decide)).trans rfl) (cell_of_one HBSz)) ⟨_, over_put _ _ _ (by decide) _, hI.step WF lV_mono (i := 0) (d := 30) (by decide) (Below.refl _ _) rfl⟩)
          · have e0 := hI.v 0 30 (by decide) (hp ⟨0, .data⟩ (by simp) rfl)
            exact og_op rfl rfl (og_value (run_lenS ((over_eval _ _ _ (by decide) (by show 30 < 45; omega)).trans e0)) ⟨_, over_put _ _ _ (by decide) _, hI.step WF lV_mono (i := 1) (d := 31) (by decide) (Below.refl _ _) rfl⟩)
          · exact og_op rfl rfl (og_value (run_move ((over_eval_out _ _ _ (by decide)).trans rfl)) ⟨_, over_put _ _ _ (by decide) _, hI.step WF lV_mono (i := 2) (d := 32) (by decide) (Below.refl _ _) rfl⟩)
          · have e2 := hI.v 2 32 (by decide) (hp ⟨2, .data⟩ (by simp) rfl)
            refine og_op rfl rfl (og_call (run_call1 ((over_eval _ _ _ (by decide) (by show 32 < 45; omega)).trans e2) rfl (fun args => by simp [go_sem])) ?_)
            refine (CT.out wz hI.bel).mono ?_
            rintro e w' ⟨rfl, hb2⟩
            exact ⟨_, rfl, ⟨_, over_put _ _ _ (by decide) _, hI.step WF lV_mono (i := 3) (d := 33) (by decide) hb2 rfl⟩⟩
          · have e1 := hI.v 1 31 (by decide) (hp ⟨1, .data⟩ (by simp) rfl)
            have e3 := hI.v 3 33 (by decide) (hp ⟨3, .data⟩ (by simp) rfl)
            exact og_op rfl rfl (og_value (run_eqlI ((over_eval _ _ _ (by decide) (by show 31 < 45; omega)).trans e1) ((over_eval _ _ _ (by decide) (by show 33 < 45; omega)).trans e3)) ⟨_, over_put _ _ _ (by decide) _, hI.step WF lV_mono (i := 4) (d := 34) (by decide) (Below.refl _ _) rfl⟩)
          · have e4 := hI.v 4 34 (by decide) (hp ⟨4, .data⟩ (by simp) rfl)
            exact og_op rfl rfl (og_value (run_move ((over_eval _ _ _ (by decide) (by show 34 < 45; omega)).trans e4)) ⟨_, over_put _ _ _ (by decide) _, hI.step WF lV_mono (i := 5) (d := 35) (by decide) (Below.refl _ _) rfl⟩)
          · have eg := hI.v 5 35 (by decide) (hp ⟨5, .guard⟩ (by simp) rfl)
            exact og_guarded rfl rfl rfl ((over_tmp _ _ _ (by decide) (by show 35 < 45; omega)).trans (congrArg some eg)) (og_value (run_move ((over_eval_out _ _ _ (by decide)).trans rfl)) ⟨_, over_put _ _ _ (by decide) _, hI.step WF lV_mono (i := 6) (d := 36) (by decide) (Below.refl _ _) rfl⟩)
          · have eg := hI.v 5 35 (by decide) (hp ⟨5, .guard⟩ (by simp) rfl)
            exact og_guarded rfl rfl rfl ((over_tmp _ _ _ (by decide) (by show 35 < 45; omega)).trans (congrArg some eg)) (og_value (run_move ((over_eval_out _ _ _ (by decide)).trans rfl)) ⟨_, over_put _ _ _ (by decide) _, hI.step WF lV_mono (i := 7) (d := 37) (by decide) (Below.refl _ _) rfl⟩)
          · have eg := hI.v 5 35 (by decide) (hp ⟨5, .guard⟩ (by simp) rfl)
            exact og_guarded rfl rfl rfl ((over_tmp _ _ _ (by decide) (by show 35 < 45; omega)).trans (congrArg some eg)) (og_value (run_move ((over_eval_out _ _ _ (by decide)).trans rfl)) ⟨_, over_put _ _ _ (by decide) _, hI.step WF lV_mono (i := 8) (d := 38) (by decide) (Below.refl _ _) rfl⟩)
          · have eg := hI.v 5 35 (by decide) (hp ⟨5, .guard⟩ (by simp) rfl)
            have e8 := hI.v 8 38 (by decide) (hp ⟨8, .data⟩ (by simp) rfl)
            refine og_guarded rfl rfl rfl ((over_tmp _ _ _ (by decide) (by show 35 < 45; omega)).trans (congrArg some eg)) (og_call (run_callC ((over_eval _ _ _ (by decide) (by show 38 < 45; omega)).trans e8) rfl (fun args => by simp [go_sem])) ?_)
            refine (cutsF_any wz).mono ?_
            rintro e w' ⟨bx, rfl, hbx, hb2⟩
            exact ⟨_, rfl, ⟨_, over_put _ _ _ (by decide) _, hI.step WF lV_mono (i := 9) (d := 39) (by decide) hb2 ⟨bx, rfl, hbx⟩⟩⟩
          · have eg := hI.v 5 35 (by decide) (hp ⟨5, .guard⟩ (by simp) rfl)
            exact og_guarded rfl rfl rfl ((over_tmp _ _ _ (by decide) (by show 35 < 45; omega)).trans (congrArg some eg)) (og_value (run_move ((over_eval_out _ _ _ (by decide)).trans rfl)) ⟨_, over_put _ _ _ (by decide) _, hI.step WF lV_mono (i := 10) (d := 40) (by decide) (Below.refl _ _) rfl⟩)
          · have eg := hI.v 5 35 (by decide) (hp ⟨5, .guard⟩ (by simp) rfl)
            have e6 := hI.v 6 36 (by decide) (hp ⟨6, .data⟩ (by simp) rfl)
            have e7 := hI.v 7 37 (by decide) (hp ⟨7, .data⟩ (by simp) rfl)
            have e9 := hI.v 9 39 (by decide) (hp ⟨9, .data⟩ (by simp) rfl)
            have e10 := hI.v 10 40 (by decide) (hp ⟨10, .data⟩ (by simp) rfl)
            obtain ⟨bx, ef, hbx⟩ := e9
            refine og_guarded rfl rfl rfl ((over_tmp _ _ _ (by decide) (by show 35 < 45; omega)).trans (congrArg some eg)) (og_call (run_call4 ((over_eval _ _ _ (by decide) (by show 36 < 45; omega)).trans e6) ((over_eval _ _ _ (by decide) (by show 37 < 45; omega)).trans e7) ((over_eval _ _ _ (by decide) (by show 39 < 45; omega)).trans ef) ((over_eval _ _ _ (by decide) (by show 40 < 45; omega)).trans e10) rfl (fun args => by simp [go_sem])) ?_)
            refine (CW.out bx wz hI.bel hbx).mono ?_
            rintro e w' ⟨rv, xs2, rfl, ho2, hr2, hb2⟩
            rw [HNO.out] at ho2
            obtain ⟨wa, wc, rfl⟩ := row_form ho2
            exact ⟨_, rfl, ⟨_, over_put _ _ _ (by decide) _, hI.step WF lV_mono (i := 11) (d := 41) (by decide) hb2 ⟨wa, wc, _, xs2, rfl, ho2, hr2⟩⟩⟩
          · have eg := hI.v 5 35 (by decide) (hp ⟨5, .guard⟩ (by simp) rfl)
            exact og_guarded rfl rfl rfl ((over_tmp _ _ _ (by decide) (by show 35 < 45; omega)).trans (congrArg some eg)) (og_value (run_mkf ((over_eval_out _ _ _ (by decide)).trans rfl)) ⟨_, over_put _ _ _ (by decide) _, hI.step WF lV_mono (i := 12) (d := 42) (by decide) (Below.refl _ _) rfl⟩)
          · have eg := hI.v 5 35 (by decide) (hp ⟨5, .guard⟩ (by simp) rfl)
            have e11 := hI.v 11 41 (by decide) (hp ⟨11, .data⟩ (by simp) rfl)
            have e12 := hI.v 12 42 (by decide) (hp ⟨12, .data⟩ (by simp) rfl)
            obtain ⟨wa, wc, wb, ws, ew, how, hrw⟩ := e11
            refine og_guarded rfl rfl rfl ((over_tmp _ _ _ (by decide) (by show 35 < 45; omega)).trans (congrArg some eg)) (og_call (run_call2 ((over_eval _ _ _ (by decide) (by show 41 < 45; omega)).trans ew) ((over_eval _ _ _ (by decide) (by show 42 < 45; omega)).trans e12) rfl (fun args => by simp [go_sem])) ?_)
            refine (numsN_any bS oa wa oc wc n _ wb _ ws _ wz HBSz HNO.out.symm hn2 (row_grow HO.out hI.bel) (HOR.out.later fun o cs hi => hi.later (A' := fun _ => False) fun b _ _ hb' _ => ⟨hI.bel.block b (lt_of_block hb'), fun q => q⟩) how hrw HLE.out).mono ?_
            rintro e w' ⟨rfl, hb2⟩
            exact ⟨_, rfl, ⟨_, over_put _ _ _ (by decide) _, hI.step WF lV_mono (i := 13) (d := 43) (by decide) hb2 rfl⟩⟩
          · have e5 := hI.v 5 35 (by decide) (hp ⟨5, .data⟩ (by simp) rfl)
            have e13 := hI.v 13 43 (by decide) (hp ⟨13, .data⟩ (by simp) rfl)
            exact og_op rfl rfl (og_value (run_pickT ((over_eval _ _ _ (by decide) (by show 35 < 45; omega)).trans e5) ((over_eval _ _ _ (by decide) (by show 43 < 45; omega)).trans e13) rfl) ⟨_, over_put _ _ _ (by decide) _, hI.step WF lV_mono (i := 14) (d := 44) (by decide) (Below.refl _ _) rfl⟩)
          · have e14 := hI.v 14 44 (by decide) (hp ⟨14, .data⟩ (by simp) rfl)
            exact og_op rfl rfl (og_value (run_assign ((over_eval _ _ _ (by decide) (by show 44 < 45; omega)).trans e14)) ⟨_, over_put _ _ _ (by decide) _, hI.step WF lV_mono (i := 15) (d := 4) (by decide) (Below.refl _ _) rfl⟩)
        · intro L f wz hl hI
          have e4 := hI.v 15 4 (by decide) (hl 15 (by show 15 < 16; omega))
          have e4 : f 4 = .bool true := e4
          have HB := Lib.hid (Below.after HB3.out hI.bel)
          clear hI hl
          simp only [over, ovl, lD, List.contains, List.elem, Nat.reduceBEq, Bool.false_eq_true, if_false, if_true, Nat.reduceAdd]
          rw [e4]
          clear e4
          go_wp2_with fail
          go_ret
          exact ⟨rfl, HB.out⟩
end Go.Proofs.YtlnnmionbflolaaDoor
