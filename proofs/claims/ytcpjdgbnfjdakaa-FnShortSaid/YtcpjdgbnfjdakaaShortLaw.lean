/- The walk of the law FnShort. -/
import Derived.Test.YtcpjdgbnfjdakaaSameL
import Derived.Test.YtcpjdgbnfjdakaaImplU
import Derived.Test.YtcpjdgbnfjdakaaOgS
import Derived.Deep.RegionHeld3
namespace Go.Proofs.Ytcpjdgbnfjdakaa
open Go.RowKit
set_option linter.unusedVariables false
set_option linter.unusedSimpArgs false

theorem StrRows.made2s {w : World} {b : Nat} {ty : TypeId} {fz : Nat × Nat} {v v' : Value} {l l' : List ByteArray} (cap : Nat) (h : w.heap[b]? = some (.cells #[v, v'] ty fz)) (hr : Strs w v l) (hr' : Strs w v' l') : StrRows w (.slice (some ⟨b, 0, none⟩) 2 cap) [l, l'] :=
  StrRows.made [v, v'] [l, l'] cap h rfl fun i h1 h2 => by
    match i, h1, h2 with
    | 0, _, _ => exact hr
    | 1, _, _ => exact hr'
theorem fits_both {l m : List ByteArray} (h : fitsF [l, m] = true) : bytesOf l ≤ 1048576 ∧ bytesOf m ≤ 1048576 := by
  have : bytesOf l + bytesOf m ≤ 1048576 := by simpa [fitsF, bytesOfAll] using h
  omega
/-- The reference's run and what it heard, in memory. -/
structure RunAt (wx : World) (X : Nat) (x : ErrD) (d : Int) (gv av cv : Value) : Prop where
  c4 : wx.cell? ⟨X, 4, none⟩ = some (.int .i64 x.kind)
  c5 : wx.cell? ⟨X, 5, none⟩ = some (.string x.name)
  c6 : wx.cell? ⟨X, 6, none⟩ = some (.string x.shorts)
  c7 : wx.cell? ⟨X, 7, none⟩ = some (.string x.value)
  c8 : wx.cell? ⟨X, 8, none⟩ = some (.int .i64 x.place)
  c9 : wx.cell? ⟨X, 9, none⟩ = some gv
  c10 : wx.cell? ⟨X, 10, none⟩ = some av
  c11 : wx.cell? ⟨X, 11, none⟩ = some (.int .i64 d)
  c12 : wx.cell? ⟨X, 12, none⟩ = some cv
  c13 : wx.cell? ⟨X, 13, none⟩ = some (.bool false)
  c14 : wx.cell? ⟨X, 14, none⟩ = some (.bool false)

/-- A guarded operation whose guard stands, or does not. -/
theorem og_on {P : Program} {ops : Array Oper} {Q : Exit → Act → World → Prop} {i j d : Nat} {b : Bool} {o : Oper} {K : Act → World → Prop} {a : Act} {w : World} (ho : ops[i]? = some o) (hg : o.guard = some (j, b)) (hd : (ops[j]?).bind (·.dst) = some d) (hv : a.tmps[d]? = some (.bool b)) (h : o.wp P a w K Q) : wpOp P ops Q i K a w := by
  unfold wpOp
  simp only [ho]
  have hw : Region.wanted o (yielded ops a.tmps) = true := by simp [Region.wanted, hg, yielded, hd, hv]
  rw [if_pos hw]
  exact .inl h
theorem og_off {P : Program} {ops : Array Oper} {Q : Exit → Act → World → Prop} {i j d : Nat} {b : Bool} {o : Oper} {K : Act → World → Prop} {a : Act} {w : World} (ho : ops[i]? = some o) (hg : o.guard = some (j, b)) (hd : (ops[j]?).bind (·.dst) = some d) (hv : a.tmps[d]? = some (.bool !b) ∨ a.tmps[d]? = some undef) (h : K (a.put o.dst undef) w) : wpOp P ops Q i K a w := by
  unfold wpOp
  simp only [ho]
  have hw : Region.wanted o (yielded ops a.tmps) = false := by
    rcases hv with hv | hv
    · cases b <;> simp [Region.wanted, hg, yielded, hd, hv]
    · simp [Region.wanted, hg, yielded, hd, hv, undef]
  rw [if_neg (by rw [hw]; decide)]
  exact h
theorem tmp_over (D : List Nat) (f : Nat → Value) (a : Act) {d : Nat} (hd : D.contains d = true) (hs : d < a.tmps.size) : (over D f a).tmps[d]? = some (f d) := by
  rw [over_get, Array.getElem?_eq_getElem hs]
  simp only [Option.map_some, hd, if_true]
theorem run_loadH0 {ρ : Operand → Value} {d : Option Tmp} {ty : TypeId} {pos : String} {af : Array Edge} {g : Option (Nat × Bool)} {x : Tmp} {w : World} {B : Nat} {x0 x1 x2 x3 x4 x5 x6 x7 x8 x9 x10 : Value} (h : ρ (.tmp x) = .pointer (some ⟨B, 0, none⟩)) (c0 : w.cell? ⟨B, 0, none⟩ = some x0) (c1 : w.cell? ⟨B, 1, none⟩ = some x1) (c2 : w.cell? ⟨B, 2, none⟩ = some x2) (c3 : w.cell? ⟨B, 3, none⟩ = some x3) (c4 : w.cell? ⟨B, 4, none⟩ = some x4) (c5 : w.cell? ⟨B, 5, none⟩ = some x5) (c6 : w.cell? ⟨B, 6, none⟩ = some x6) (c7 : w.cell? ⟨B, 7, none⟩ = some x7) (c8 : w.cell? ⟨B, 8, none⟩ = some x8) (c9 : w.cell? ⟨B, 9, none⟩ = some x9) (c10 : w.cell? ⟨B, 10, none⟩ = some x10) :
    (execOp ρ ⟨d, .load 33 (.tmp x), ty, pos, af, g⟩).run Try.prog w = .ok (.value (.agg #[x0, x1, x2, x3, x4, x5, x6, x7, x8, x9, x10])) w := by
  go_simp
theorem run_loadH4 {ρ : Operand → Value} {d : Option Tmp} {ty : TypeId} {pos : String} {af : Array Edge} {g : Option (Nat × Bool)} {x : Tmp} {w : World} {B : Nat} {x0 x1 x2 x3 x4 x5 x6 x7 x8 x9 x10 : Value} (h : ρ (.tmp x) = .pointer (some ⟨B, 4, none⟩)) (c0 : w.cell? ⟨B, 4, none⟩ = some x0) (c1 : w.cell? ⟨B, 5, none⟩ = some x1) (c2 : w.cell? ⟨B, 6, none⟩ = some x2) (c3 : w.cell? ⟨B, 7, none⟩ = some x3) (c4 : w.cell? ⟨B, 8, none⟩ = some x4) (c5 : w.cell? ⟨B, 9, none⟩ = some x5) (c6 : w.cell? ⟨B, 10, none⟩ = some x6) (c7 : w.cell? ⟨B, 11, none⟩ = some x7) (c8 : w.cell? ⟨B, 12, none⟩ = some x8) (c9 : w.cell? ⟨B, 13, none⟩ = some x9) (c10 : w.cell? ⟨B, 14, none⟩ = some x10) :
    (execOp ρ ⟨d, .load 33 (.tmp x), ty, pos, af, g⟩).run Try.prog w = .ok (.value (.agg #[x0, x1, x2, x3, x4, x5, x6, x7, x8, x9, x10])) w := by
  go_simp
theorem run_nilCheckS {ρ : Operand → Value} {d : Option Tmp} {ty : TypeId} {pos : String} {af : Array Edge} {g : Option (Nat × Bool)} {x : Tmp} {w : World} {a : Addr} (h : ρ (.tmp x) = .pointer (some a)) :
    (execOp ρ ⟨d, .nilCheck (.tmp x), ty, pos, af, g⟩).run Try.prog w = .ok (.value (.pointer (some a))) w := by
  go_simp
theorem run_fieldRun {ρ : Operand → Value} {d : Option Tmp} {ty : TypeId} {pos : String} {af : Array Edge} {g : Option (Nat × Bool)} {x : Tmp} {w : World} {B : Nat} (h : ρ (.tmp x) = .pointer (some ⟨B, 0, none⟩)) :
    (execOp ρ ⟨d, .fieldAddr 47 (.tmp x) 1, ty, pos, af, g⟩).run Try.prog w = .ok (.value (.pointer (some ⟨B, 4, none⟩))) w := by
  go_simp
theorem run_fieldH0 {ρ : Operand → Value} {d : Option Tmp} {ty : TypeId} {pos : String} {af : Array Edge} {g : Option (Nat × Bool)} {x : Tmp} {w : World} {B : Nat} (h : ρ (.tmp x) = .pointer (some ⟨B, 0, none⟩)) :
    (execOp ρ ⟨d, .fieldAddr 33 (.tmp x) 0, ty, pos, af, g⟩).run Try.prog w = .ok (.value (.pointer (some ⟨B, 0, none⟩))) w := by
  go_simp
theorem run_loadI0 {ρ : Operand → Value} {d : Option Tmp} {ty : TypeId} {pos : String} {af : Array Edge} {g : Option (Nat × Bool)} {x : Tmp} {w : World} {B : Nat} {n : Int} (h : ρ (.tmp x) = .pointer (some ⟨B, 0, none⟩)) (c : w.cell? ⟨B, 0, none⟩ = some (.int .i64 n)) :
    (execOp ρ ⟨d, .load 3 (.tmp x), ty, pos, af, g⟩).run Try.prog w = .ok (.value (.int .i64 n)) w := by
  go_simp
theorem run_neq0 {ρ : Operand → Value} {d : Option Tmp} {ty : TypeId} {pos : String} {af : Array Edge} {g : Option (Nat × Bool)} {x : Tmp} {w : World} {n : Int} (h : ρ (.tmp x) = .int .i64 n) (h0 : ρ (.const (.int .i64 0)) = .int .i64 0) (hn : n ≠ 0) :
    (execOp ρ ⟨d, .binOp .neq 3 (.tmp x) (.const (.int .i64 0)) 3, ty, pos, af, g⟩).run Try.prog w = .ok (.value (.bool true)) w := by
  have hb : (n == 0) = false := by rw [beq_eq_false_iff_ne]; exact hn
  have hb2 : (n != 0) = true := by rw [bne, hb]; rfl
  go_simp
theorem run_pickOr {P : Program} {ρ : Operand → Value} {d : Option Tmp} {ty : TypeId} {pos : String} {af : Array Edge} {g : Option (Nat × Bool)} {x : Tmp} {w : World} {y : Tmp} (h : ρ (.tmp x) = .bool true) (hf : ρ (.const (.bool true)) = .bool true) :
    (execOp ρ ⟨d, .pick (.tmp x) (.const (.bool true)) (.tmp y), ty, pos, af, g⟩).run P w = .ok (.value (.bool true)) w := by
  simp [execOp, go_sem, h, hf]
theorem run_pickAnd {P : Program} {ρ : Operand → Value} {d : Option Tmp} {ty : TypeId} {pos : String} {af : Array Edge} {g : Option (Nat × Bool)} {x : Tmp} {w : World} {y : Tmp} (h : ρ (.tmp x) = .bool true) (h' : ρ (.tmp y) = .bool true) :
    (execOp ρ ⟨d, .pick (.tmp x) (.tmp y) (.const (.bool false)), ty, pos, af, g⟩).run P w = .ok (.value (.bool true)) w := by
  simp [execOp, go_sem, h, h']
theorem run_assignS {P : Program} {ρ : Operand → Value} {d : Option Tmp} {ty : TypeId} {pos : String} {af : Array Edge} {g : Option (Nat × Bool)} {x : Tmp} {w : World} {v : Value} (h : ρ (.tmp x) = v) :
    (execOp ρ ⟨d, .assign (.tmp x), ty, pos, af, g⟩).run P w = .ok (.value v) w := by
  simp [execOp, go_sem, h]
def slotO (i : Nat) : Nat := if i = 21 then 6 else 69 + i
def slotD : List Nat := [69, 70, 71, 72, 73, 74, 75, 76, 77, 78, 79, 80, 81, 82, 83, 84, 85, 86, 87, 88, 89, 6]
/-- What holds in a region of which each operation's value is known. -/
structure FixI (w0 : World) (V : Nat → Value) (L : Nat → Bool) (f : Nat → Value) (w : World) : Prop where
  bel : Below w0.heap.size w0 w
  v : ∀ i, i < 22 → L i = true → f (slotO i) = V i
theorem FixI.step {w0 : World} {V : Nat → Value} {L : Nat → Bool} {f : Nat → Value} {w w' : World} (h : FixI w0 V L f w) {i d : Nat} (hi : i < 22) (hd : d = slotO i) {v : Value} (hv : V i = v) (hb : Below w.heap.size w w') : FixI w0 V (fun k => k == i || L k) (upd f d v) w' := by
  refine ⟨h.bel.trans (hb.mono h.bel.size), fun j hj hl => ?_⟩
  subst hd
  by_cases q : j = i
  · subst q
    rw [upd_same, hv]
  · rw [upd_ne _ _ (fun e => q (by unfold slotO at e; split at e <;> split at e <;> omega))]
    rw [or_ne q] at hl
    exact h.v j hj hl
def shortV (T X : Nat) (a b : Value) (kz : Int) (i : Nat) : Value :=
  ([a, ptr X, ptr X, .pointer (some ⟨X, 4, none⟩), b, .bool true, .bool true, ptr T, .int .i64 kz, .bool true, .bool true, undef, undef, undef, undef, undef, undef, undef, undef, .bool true, .bool true, .bool true] : List Value)[i]?.getD undef

set_option maxRecDepth 100000 in
set_option maxHeartbeats 3200000 in
theorem fnShort_law (fv v : Value) (plain unk : Bool) (fold : Int) (fs : List FlagD) (t : ByteArray) (htm : t.size ≤ 9223372036854775807) (l : List ByteArray) (w : World) (hv : FlagRows w fv fs) (hfl : fs.length ≤ 9223372036854775807) (hbl : ∀ f ∈ fs, f.bad.length ≤ 9223372036854775807) (ht : Texts w v l) (hll : l.length ≤ 9223372036854775807) :
    Calls Try.prog 5 #[.agg #[fv, .bool plain, .bool unk, .int .i64 fold], .string t, v] w fun e w' => e = .returned (.bool true) ∧ Below w.heap.size w w' := by
  obtain ⟨fa, fc, rfl⟩ := hv.len
  obtain ⟨va, vc, rfl, hvc⟩ := ht.len
  obtain ⟨w1, hw1⟩ : ∃ w1, w.alloc (.cells #[.slice fa fs.length fc, .bool plain, .bool unk, .int .i64 fold] 24) = w1 := ⟨_, rfl⟩
  have hb1 : Below w.heap.size w w1 := by rw [← hw1]; (repeat (first | (with_reducible exact Below.refl _ _) | (with_reducible assumption) | ((with_reducible refine Below.alloc ?_ ?_ _); rotate_left; focus ((try simp only [World.size_alloc, size_setCell, World.heap_drewN]); (try omega); done)) | ((with_reducible refine Below.setCell ?_ ?_ _); rotate_left; focus ((try simp only [World.size_alloc, size_setCell, World.heap_drewN]); (try omega); done)) | (with_reducible refine Below.drewN' ?_) | (with_reducible refine Below.drew ?_)))
  have hX : w1.heap[w.heap.size]? = some (.cells #[.slice fa fs.length fc, .bool plain, .bool unk, .int .i64 fold] 24 (0, 0)) := by rw [← hw1]; exact heap_at _ _ _ rfl
  have cells : ∀ w', Below w1.heap.size w1 w' → w'.cell? ⟨w.heap.size, 0, none⟩ = some (.slice fa fs.length fc) ∧ w'.cell? ⟨w.heap.size, 1, none⟩ = some (.bool plain) ∧ w'.cell? ⟨w.heap.size, 2, none⟩ = some (.bool unk) ∧ w'.cell? ⟨w.heap.size, 3, none⟩ = some (.int .i64 fold) := fun w' h => by
    have e := (h.block _ (lt_of_block hX)).trans hX
    simp only [World.cell?, e]
    exact ⟨rfl, rfl, rfl, rfl⟩
  have hbW : ∀ w', Below w1.heap.size w1 w' → Below w.heap.size w w' := fun w' h => Below.after hb1 h
  have HC := Lib.hid cells
  have HW := Lib.hid hbW
  have HV := Lib.hid hv
  have HT := Lib.hid ht
  have HTM := Lib.hid htm
  obtain ⟨a0, a1, a2, a3⟩ := cells w1 (Below.refl _ _)
  have F19 := fits19_any (.slice fa fs.length fc) plain unk fold fs w1 (hv.later hb1.block) hfl hbl
  clear cells hbW hv ht hX hb1 htm
  go_enter Try.func5, Try.ntmps5
  go_wp2_with fail
  refine F19.mono ?_
  rintro e w2 ⟨⟨b2, rfl, hsf⟩, hb2⟩
  have HSF := Lib.hid hsf
  clear hsf F19 hw1 a0 a1 a2 a3
  cases b2 with
  | false =>
    go_wp2_with fail
    go_ret
    exact ⟨rfl, HW.out _ hb2⟩
  | true =>
  have HSF1 := Lib.hid (HSF.out (by trivial))
  clear HSF
  by_cases htz : (t.size : Int) ≤ 2147483647
  case neg =>
    have htz' : decide ((2147483647 : Int) < (t.size : Int)) = true := decide_eq_true (by omega)
    clear htz
    go_wp2_with fail
    go_ret
    exact ⟨rfl, HW.out _ hb2⟩
  have htz' : decide ((2147483647 : Int) < (t.size : Int)) = false := decide_eq_false (by omega)
  have HTZ : Hid (t.size ≤ 2147483647) := Lib.hid (by omega)
  clear htz
  have F2 := fits2_any (.slice va l.length vc) l w2 ((HT.out.later (HW.out _ hb2).block).strs) hll
  go_wp2_with fail
  refine F2.mono ?_
  rintro e w3 ⟨⟨b3, rfl, hsl⟩, rfl⟩
  have HSL := Lib.hid hsl
  clear hsl F2 htz'
  cases b3 with
  | false =>
    go_wp2_with fail
    go_ret
    exact ⟨rfl, HW.out _ hb2⟩
  | true =>
  have HSL1 := Lib.hid (HSL.out (by trivial))
  clear HSL
  obtain ⟨a0, a1, a2, a3⟩ := HC.out _ hb2
  have FR := right_any (.slice fa fs.length fc) fs plain unk fold w3 (HV.out.later (HW.out _ hb2).block) HSF1.out.1 (fun f hf => ⟨(HSF1.out.2 f hf).1, (HSF1.out.2 f hf).2.1⟩)
  go_wp2_with fail
  refine FR.mono ?_
  rintro e w4 ⟨⟨b4, rfl, hr⟩, hb4⟩
  have hb4 := Below.after hb2 hb4
  have HR := Lib.hid hr
  clear hr FR a0 a1 a2 a3 hb2
  cases b4 with
  | false =>
    go_wp2_with fail
    go_ret
    exact ⟨rfl, HW.out _ hb4⟩
  | true =>
  have HR1 := Lib.hid (HR.out (by trivial))
  clear HR
  obtain ⟨w5, hw5⟩ : ∃ w5, (w4.alloc (.cells #[.string t] 9)).alloc (.cells #[.slice va l.length vc, .slice (some ⟨w4.heap.size, 0, none⟩) 1 1] 25) = w5 := ⟨_, rfl⟩
  have hb5 : Below w1.heap.size w1 w5 := by
    rw [← hw5]
    exact Below.after (Below.after hb4 ((Below.refl _ w4).alloc (Nat.le_refl _) _)) ((Below.refl _ _).alloc (Nat.le_refl _) _)
  have k1 : w5.heap[w4.heap.size]? = some (.cells #[.string t] 9 (0, 0)) := by rw [← hw5]; (repeat (first | (with_reducible assumption) | ((with_reducible refine heap_past' ?_ ?_); focus ((try simp only [World.size_alloc, size_setCell, World.heap_drewN]); (try omega); done)) | ((with_reducible refine heap_at _ _ _ ?_); focus ((try simp only [World.size_alloc, size_setCell, World.heap_drewN]); (try omega); done)) | ((with_reducible refine heap_ne' ?_ ?_); focus ((try simp only [World.size_alloc, size_setCell, World.heap_drewN]); (try omega); done)) | (with_reducible refine heap_drew' ?_)))
  have k2 : w5.heap[w4.heap.size + 1]? = some (.cells #[.slice va l.length vc, .slice (some ⟨w4.heap.size, 0, none⟩) 1 1] 25 (0, 0)) := by rw [← hw5]; (repeat (first | (with_reducible assumption) | ((with_reducible refine heap_past' ?_ ?_); focus ((try simp only [World.size_alloc, size_setCell, World.heap_drewN]); (try omega); done)) | ((with_reducible refine heap_at _ _ _ ?_); focus ((try simp only [World.size_alloc, size_setCell, World.heap_drewN]); (try omega); done)) | ((with_reducible refine heap_ne' ?_ ?_); focus ((try simp only [World.size_alloc, size_setCell, World.heap_drewN]); (try omega); done)) | (with_reducible refine heap_drew' ?_)))
  have F14 := fits14_any (.slice (some ⟨w4.heap.size + 1, 0, none⟩) 2 2) [l, [t]] w5
    (StrRows.made2s (ty := 25) (fz := (0, 0)) 2 k2 (HT.out.later (HW.out _ hb5).block).strs ⟨_, 1, rfl, .inr ⟨_, 0, _, _, _, rfl, k1, fun i hi => by
      have : i = 0 := by simpa using hi
      subst this
      rfl⟩⟩) (by simp) (by
      intro l' h'
      simp only [List.mem_cons, List.not_mem_nil, or_false] at h'
      rcases h' with rfl | rfl
      · exact HSL1.out
      · refine ⟨by simp, fun s hs => ?_⟩
        have : s = t := by simpa using hs
        rw [this]; exact HTZ.out)
  have HW5 := Lib.hid hw5
  clear hw5 k1 k2
  go_wp2_with fail
  rw [HW5.out]
  refine F14.mono ?_
  rintro e w6 ⟨rfl, rfl⟩
  cases hf : fitsF [l, [t]] with
  | false =>
    go_wp2_with fail
    go_ret
    exact ⟨rfl, HW.out _ hb5⟩
  | true =>
  have hbl2 := (fits_both hf).1
  cases hte : t.toList == [] with
  | true =>
    go_wp2_with fail
    go_ret
    exact ⟨rfl, HW.out _ hb5⟩
  | false =>
  have HT0 : Hid (0 < t.size) := Lib.hid (by
    rcases Nat.lt_or_ge 0 t.size with h | h
    · exact h
    · rw [toList_nil, decide_eq_true (by omega)] at hte; cases hte)
  have hll2 : l.length ≤ 1048576 := Nat.le_trans (len_bytesOf l) hbl2
  obtain ⟨a0, a1, a2, a3⟩ := HC.out _ hb5
  obtain ⟨rq, r0, r3⟩ := HR1.out
  obtain ⟨e1, e2⟩ := and_bits fold r0 r3
  have RP := right_of (plain := plain) (unk := unk) rq r0 r3 HSF1.out
  have HIA := Lib.hid (implShort_any (.slice fa fs.length fc) (.slice va l.length vc) plain unk fold (setD fs plain unk fold) w6 (HV.out.later (HW.out _ hb5).block) rfl rfl rfl rfl RP t HT0.out (by have := HTZ.out; omega) l (HT.out.later (HW.out _ hb5).block) (wide HSL1.out.2) HSL1.out.1)
  have HE12 := Lib.hid (And.intro e1 e2)
  obtain ⟨o, ho⟩ : ∃ o, shortF (setD fs plain unk fold) .sets t l begin0 = o := ⟨_, rfl⟩
  have hgl : o.1.given.length ≤ 1099511627776 := by
    have q := shortF_given (setD fs plain unk fold) .sets t l begin0
    rw [ho] at q
    have : begin0.given.length = 0 := rfl
    omega
  have hal : o.1.args.length ≤ 1099511627776 := by
    have q := shortF_args (setD fs plain unk fold) .sets t l begin0
    rw [ho] at q
    rw [q]; exact Nat.zero_le _
  have hol : o.2.2.length ≤ 1099511627776 := by
    have q := (shortF_suffix (setD fs plain unk fold) .sets t l begin0).length_le
    rw [ho] at q
    omega
  have HSZ := Lib.hid (And.intro hgl (And.intro hal hol))
  rw [ho] at HIA
  have HO := Lib.hid ho
  clear F14 rq RP e1 e2 r0 r3 hf hgl hal hol hll2 hbl2 ho
  obtain ⟨ch, hch⟩ : ∃ ch, chgU o.1.given (setD fs plain unk fold).flags.length = ch := ⟨_, rfl⟩
  rw [hch] at HIA
  have HCH := Lib.hid hch
  have HCZ := Lib.hid (show ch.length ≤ 1099511627776 by rw [← hch]; have q := chgU_len o.1.given (setD fs plain unk fold).flags.length; have := HSF1.out.1; exact Nat.le_trans q (Nat.le_trans this (by omega)))
  clear hch
  go_wp2_with fail
  refine HIA.out.mono ?_
  rintro e w7 ⟨⟨gv, av, cv, lv, rfl, hg7, ha7, hc7, hl7⟩, hb7⟩
  have hb7 := Below.after hb5 hb7
  obtain ⟨g1, g2, rfl, -⟩ := hg7.len
  obtain ⟨b1, b2, rfl, -⟩ := ha7.len
  obtain ⟨d1, d2, rfl⟩ := hc7.len
  obtain ⟨l1, l2, rfl, -⟩ := hl7.len
  have H7 := Lib.hid (And.intro hg7 (And.intro ha7 (And.intro hc7 hl7)))
  simp only [hCells]
  obtain ⟨w8, hw8⟩ : ∃ w8, w7.alloc (.cells #[.int .i64 o.1.err.kind, .string o.1.err.name, .string o.1.err.shorts, .string o.1.err.value, .int .i64 o.1.err.place, .slice g1 o.1.given.length g2, .slice b1 o.1.args.length b2, .int .i64 o.1.dash, .slice d1 ch.length d2, .bool false, .bool false] 33) = w8 := ⟨_, rfl⟩
  have hb78 : Below w7.heap.size w7 w8 := by rw [← hw8]; exact (Below.refl _ _).alloc (Nat.le_refl _) _
  have hb8 : Below w1.heap.size w1 w8 := Below.after hb7 hb78
  have hT : w8.heap[w7.heap.size]? = some (.cells #[.int .i64 o.1.err.kind, .string o.1.err.name, .string o.1.err.shorts, .string o.1.err.value, .int .i64 o.1.err.place, .slice g1 o.1.given.length g2, .slice b1 o.1.args.length b2, .int .i64 o.1.dash, .slice d1 ch.length d2, .bool false, .bool false] 33 (0, 0)) := by rw [← hw8]; exact heap_at _ _ _ rfl
  have HW8 := Lib.hid hw8
  have HTB := Lib.hid hT
  have HB78 := Lib.hid hb78
  clear hg7 ha7 hc7 hl7 hw8 hT a0 a1 a2 a3 HIA hb78
  go_upto_region 6 with fail
  rw [HW8.out]
  obtain ⟨a0, a1, a2, a3⟩ := HC.out _ hb8
  go_wp2_with fail
  refine (begin_any _ plain unk fold _).mono ?_
  rintro e w9 ⟨rfl, K, B, i9⟩
  have hk9 := B.bel
  have hXe := B.X
  have hKp := B.parsed
  obtain ⟨e1, e2⟩ := HE12.out
  have hKb : ∀ b, b < w.heap.size → K.w0.heap[b]? = w.heap[b]? := fun b hb => (hk9.block b (Nat.lt_of_lt_of_le hb (HW.out _ hb8).size)).trans ((HW.out _ hb8).block b hb)
  have ok : SOk K (setD fs plain unk fold) .sets := by
    refine ⟨?_, ?_, ?_, ?_, ?_, HSF1.out.1, fun f hf => ?_, .inl ⟨rfl, B.all⟩⟩
    · rw [B.fv]; exact HV.out.later hKb
    · rw [B.plain]; rfl
    · rw [B.unk]; rfl
    · rw [B.fold]; exact e1.symm
    · rw [B.fold]; exact e2.symm
    · have q := HSF1.out.2 f hf; exact ⟨q.1, q.2.1, q.2.2.1, q.2.2.2.1⟩
  have hg0 : begin0.given.length ≤ 1099511627776 := Nat.zero_le _
  have C := Lib.hid (shortS_any ok ⟨_, _, i9⟩ rfl hg0 t HTZ.out HT0.out (.slice va l.length vc) l (HT.out.later hKb) HSL1.out.1 HSL1.out.2)
  rw [HO.out, hXe] at C
  have HK9 := Lib.hid (And.intro hk9 (And.intro hXe hKp))
  clear ok i9 B hk9 hXe hKp e1 e2 hKb hg0 a0 a1 a2 a3
  go_wp2_with fail
  refine C.out.mono ?_
  rintro e w10 ⟨lv2, rfl, ⟨gv2, av2, i10⟩, t10⟩
  obtain ⟨g3, g4, rfl⟩ := row_form i10.rG
  obtain ⟨b3, b4, rfl⟩ := row_form i10.rA
  obtain ⟨l3, l4, rfl, -⟩ := t10.len
  have hk9 := HK9.out.1
  have hXe := HK9.out.2.1
  have hb10 : Below w8.heap.size w8 w10 := hk9.trans (i10.bel.mono hk9.size)
  have i11 := i10.later (Below.refl _ w10).drew
  have hb11 : Below w8.heap.size w8 w10.drew := hb10.drew
  have HT10 := Lib.hid t10
  have hbw : ∀ w', Below w8.heap.size w8 w' → Below w1.heap.size w1 w' := fun w' h => Below.after hb8 h
  have CH := Lib.hid (changed_any (.slice fa fs.length fc) fs plain unk fold (.slice g3 o.1.given.length g4) o.1.given w10.drew (HV.out.later (HW.out _ (hbw _ hb11)).block) HSF1.out.1 (Givens.ofRow i11.rG) HSZ.out.1)
  rw [show chgU o.1.given fs.length = ch from HCH.out] at CH
  have hXX := i11.hX
  rw [hXe] at hXX
  have lX := lt_of_block hXX
  have nX : w.heap.size ≠ w8.heap.size + 1 := by have := (HW.out _ hb8).size; omega
  have K8 : Hid (∀ w', Below w10.drew.heap.size w10.drew w' → w'.cell? ⟨w.heap.size, 0, none⟩ = some (.slice fa fs.length fc) ∧ w'.cell? ⟨w.heap.size, 1, none⟩ = some (.bool plain) ∧ w'.cell? ⟨w.heap.size, 2, none⟩ = some (.bool unk) ∧ w'.cell? ⟨w.heap.size, 3, none⟩ = some (.int .i64 fold) ∧ w'.cell? ⟨w8.heap.size + 1, 9, none⟩ = some (.slice g3 o.1.given.length g4)) := Lib.hid fun w' h => by
    obtain ⟨q0, q1, q2, q3⟩ := HC.out w' (hbw _ (hb11.trans (h.mono hb11.size)))
    have e2 := (h.block _ lX).trans hXX
    exact ⟨q0, q1, q2, q3, by simp only [World.cell?, e2]; rfl⟩
  have K8s : Hid (∀ w' v, Below w10.drew.heap.size w10.drew w' → (fun w' => w'.cell? ⟨w.heap.size, 0, none⟩ = some (.slice fa fs.length fc) ∧ w'.cell? ⟨w.heap.size, 1, none⟩ = some (.bool plain) ∧ w'.cell? ⟨w.heap.size, 2, none⟩ = some (.bool unk) ∧ w'.cell? ⟨w.heap.size, 3, none⟩ = some (.int .i64 fold) ∧ w'.cell? ⟨w8.heap.size + 1, 9, none⟩ = some (.slice g3 o.1.given.length g4)) (w'.setCell ⟨w8.heap.size + 1, 12, none⟩ v)) := Lib.hid fun w' v h => by
    have hb' : Below w8.heap.size w8 (w'.setCell ⟨w8.heap.size + 1, 12, none⟩ v) := (hb11.trans (h.mono hb11.size)).setCell (by show w8.heap.size ≤ w8.heap.size + 1; omega) _
    obtain ⟨q0, q1, q2, q3⟩ := HC.out _ (hbw _ hb')
    have e2 := heap_set ((h.block _ lX).trans hXX) 12 v
    exact ⟨q0, q1, q2, q3, by simp only [World.cell?, e2]; rfl⟩
  have HI11 := Lib.hid i11
  have HB11 := Lib.hid hb11
  have HBW := Lib.hid hbw
  clear i10 t10 hk9 hb10 i11 hb11 hbw hXX lX nX C
  go_upto_region 8 with fail
  go_cut [] from 58 to 68 (fun wx => Below w8.heap.size w8 wx ∧ ∃ cv2, SC K (.slice g3 o.1.given.length g4) (.slice b3 o.1.args.length b4) o.1 ((runCells K (.slice g3 o.1.given.length g4) (.slice b3 o.1.args.length b4) o.1).setIfInBounds 12 cv2) wx ∧ Ints wx cv2 ch)
  case first =>
    go_region_held3 (fun w' => w'.cell? ⟨w.heap.size, 0, none⟩ = some (.slice fa fs.length fc) ∧ w'.cell? ⟨w.heap.size, 1, none⟩ = some (.bool plain) ∧ w'.cell? ⟨w.heap.size, 2, none⟩ = some (.bool unk) ∧ w'.cell? ⟨w.heap.size, 3, none⟩ = some (.int .i64 fold) ∧ w'.cell? ⟨w8.heap.size + 1, 9, none⟩ = some (.slice g3 o.1.given.length g4))
      (first
        | (with_reducible exact K8.out _ (Below.refl _ _))
        | (with_reducible exact K8.out _ hb12)
        | (with_reducible exact K8s.out _ _ hb12))
      (first
        | (go_simp; go_at_call 27; with_reducible refine CH.out.mono ?_; rintro e w12 ⟨cv2, rfl, hcv, hb12⟩; have i12 := HI11.out.sc.later hb12; obtain ⟨ca, cc, rfl⟩ := row_form hcv; have e12 := i12.cell 12 (.slice none 0 0) rfl; have f12 := i12.free 12; rw [hXe] at e12 f12))
    have FIN : Below w8.heap.size w8 (w12.setCell ⟨w8.heap.size + 1, 12, none⟩ (.slice ca ch.length cc)) ∧ ∃ cv2, SC K (.slice g3 o.1.given.length g4) (.slice b3 o.1.args.length b4) o.1 ((runCells K (.slice g3 o.1.given.length g4) (.slice b3 o.1.args.length b4) o.1).setIfInBounds 12 cv2) (w12.setCell ⟨w8.heap.size + 1, 12, none⟩ (.slice ca ch.length cc)) ∧ Ints (w12.setCell ⟨w8.heap.size + 1, 12, none⟩ (.slice ca ch.length cc)) cv2 ch := by
      refine ⟨(HB11.out.trans (hb12.mono HB11.out.size)).setCell (by show w8.heap.size ≤ w8.heap.size + 1; omega) _, .slice ca ch.length cc, ?_, Ints.ofRow (ownsRow_at hcv fun b hb => heap_ne _ _ _ _ ?_)⟩
      · have q := i12.put 12 (.slice ca ch.length cc)
        rw [hXe] at q
        exact q
      · have q1 := (ownsRow_cells hcv hb).1
        have q2 := lt_of_block HI11.out.hX
        rw [hXe] at q2
        show b ≠ w8.heap.size + 1
        omega
    have HFIN := Lib.hid FIN
    clear FIN
    go_wp2_with fail
    go_meet
    exact HFIN.out
  case rest =>
  obtain ⟨hb12, cv2, i12, hcv⟩ := hcut
  obtain ⟨ca, cc, rfl⟩ := hcv.len
  have hX12 := i12.hX
  rw [hXe] at hX12
  have hKp := HK9.out.2.2
  have hT12 := (hb12.block _ (lt_of_block HTB.out)).trans HTB.out
  have K9 : Hid (∀ w', Below wc.heap.size wc w' → w'.cell? ⟨w7.heap.size, 0, none⟩ = some (.int .i64 o.1.err.kind) ∧ w'.cell? ⟨w7.heap.size, 1, none⟩ = some (.string o.1.err.name) ∧ w'.cell? ⟨w7.heap.size, 2, none⟩ = some (.string o.1.err.shorts) ∧ w'.cell? ⟨w7.heap.size, 3, none⟩ = some (.string o.1.err.value) ∧ w'.cell? ⟨w7.heap.size, 4, none⟩ = some (.int .i64 o.1.err.place) ∧ w'.cell? ⟨w7.heap.size, 5, none⟩ = some (.slice g1 o.1.given.length g2) ∧ w'.cell? ⟨w7.heap.size, 6, none⟩ = some (.slice b1 o.1.args.length b2) ∧ w'.cell? ⟨w7.heap.size, 7, none⟩ = some (.int .i64 o.1.dash) ∧ w'.cell? ⟨w7.heap.size, 8, none⟩ = some (.slice d1 ch.length d2) ∧ w'.cell? ⟨w7.heap.size, 9, none⟩ = some (.bool false) ∧ w'.cell? ⟨w7.heap.size, 10, none⟩ = some (.bool false) ∧ w'.cell? ⟨w8.heap.size + 1, 4, none⟩ = some (.int .i64 o.1.err.kind) ∧ w'.cell? ⟨w8.heap.size + 1, 5, none⟩ = some (.string o.1.err.name) ∧ w'.cell? ⟨w8.heap.size + 1, 6, none⟩ = some (.string o.1.err.shorts) ∧ w'.cell? ⟨w8.heap.size + 1, 7, none⟩ = some (.string o.1.err.value) ∧ w'.cell? ⟨w8.heap.size + 1, 8, none⟩ = some (.int .i64 o.1.err.place) ∧ w'.cell? ⟨w8.heap.size + 1, 9, none⟩ = some (.slice g3 o.1.given.length g4) ∧ w'.cell? ⟨w8.heap.size + 1, 10, none⟩ = some (.slice b3 o.1.args.length b4) ∧ w'.cell? ⟨w8.heap.size + 1, 11, none⟩ = some (.int .i64 o.1.dash) ∧ w'.cell? ⟨w8.heap.size + 1, 12, none⟩ = some (.slice ca ch.length cc) ∧ w'.cell? ⟨w8.heap.size + 1, 13, none⟩ = some (.bool false) ∧ w'.cell? ⟨w8.heap.size + 1, 14, none⟩ = some (.bool false)) := Lib.hid fun w' h => by
    have e1 := (h.block _ (lt_of_block hT12)).trans hT12
    have e2 := (h.block _ (lt_of_block hX12)).trans hX12
    simp only [World.cell?, e1, e2, runCells, hKp]
    exact ⟨rfl, rfl, rfl, rfl, rfl, rfl, rfl, rfl, rfl, rfl, rfl, rfl, rfl, rfl, rfl, rfl, rfl, rfl, rfl, rfl, rfl, rfl⟩
  have hbA : Below w7.heap.size w7 wc := Below.after HB78.out hb12
  have HSM : Hid (∀ w', Below wc.heap.size wc w' → Calls Try.prog 19 #[.agg #[.int .i64 o.1.err.kind, .string o.1.err.name, .string o.1.err.shorts, .string o.1.err.value, .int .i64 o.1.err.place, .slice g1 o.1.given.length g2, .slice b1 o.1.args.length b2, .int .i64 o.1.dash, .slice d1 ch.length d2, .bool false, .bool false], .agg #[.int .i64 o.1.err.kind, .string o.1.err.name, .string o.1.err.shorts, .string o.1.err.value, .int .i64 o.1.err.place, .slice g3 o.1.given.length g4, .slice b3 o.1.args.length b4, .int .i64 o.1.dash, .slice ca ch.length cc, .bool false, .bool false]] w' fun e w'' => e = .returned (.bool true) ∧ Below w'.heap.size w' w'') := Lib.hid fun w' h => by
    have h7 : ∀ b, b < w7.heap.size → w'.heap[b]? = w7.heap[b]? := fun b hb => (h.block b (Nat.lt_of_lt_of_le hb hbA.size)).trans (hbA.block b hb)
    obtain ⟨q1, q2, q3, -⟩ := H7.out
    exact same_any o.1.err o.1.dash false o.1.given o.1.args ch (q1.later h7) ((Givens.ofRow i12.rG).later h.block) (q2.later h7) ((Texts.ofRow i12.rA).later h.block) (q3.later h7) (hcv.later h.block) HSZ.out.1 HSZ.out.2.1 HCZ.out
  have HST : Hid (∀ w', Below wc.heap.size wc w' → Calls Try.prog 28 #[.slice l1 o.2.2.length l2, .slice l3 o.2.2.length l4] w' fun e w'' => e = .returned (.bool true) ∧ Below w'.heap.size w' w'') := Lib.hid fun w' h => by
    have h7 : ∀ b, b < w7.heap.size → w'.heap[b]? = w7.heap[b]? := fun b hb => (h.block b (Nat.lt_of_lt_of_le hb hbA.size)).trans (hbA.block b hb)
    have hk : Below K.w0.heap.size K.w0 w' := by
      have q := i12.bel
      exact q.trans (h.mono q.size)
    refine (sameTexts_any _ _ o.2.2 o.2.2 w' ((H7.out.2.2.2.later h7).strs) ((HT10.out.later hk.block).strs) HSZ.out.2.2 HSZ.out.2.2).mono ?_
    rintro e w'' ⟨rfl, n, rfl⟩
    exact ⟨by rw [decide_eq_true rfl], Below.drewN' (Below.refl _ _)⟩
  have HWF : Hid (∀ w', Below wc.heap.size wc w' → Below w.heap.size w w') := Lib.hid fun w' h => HW.out _ (HBW.out _ (hb12.trans (h.mono hb12.size)))
  have hb0 := Below.refl wc.heap.size wc
  have hbd := hb0.drew
  clear hb12 i12 hcv hX12 hT12 hbA
  obtain ⟨kz, hkz⟩ : ∃ kz, o.1.err.kind = kz := ⟨_, rfl⟩
  rw [hkz] at K9 HSM
  simp only [hkz]
  have HKZ := Lib.hid hkz
  clear hkz
  by_cases hk : kz = 0
  · subst hk
    go_wp2_with fail
    go_region_held3 (fun w' => w'.cell? ⟨w7.heap.size, 0, none⟩ = some (.int .i64 0) ∧ w'.cell? ⟨w7.heap.size, 1, none⟩ = some (.string o.1.err.name) ∧ w'.cell? ⟨w7.heap.size, 2, none⟩ = some (.string o.1.err.shorts) ∧ w'.cell? ⟨w7.heap.size, 3, none⟩ = some (.string o.1.err.value) ∧ w'.cell? ⟨w7.heap.size, 4, none⟩ = some (.int .i64 o.1.err.place) ∧ w'.cell? ⟨w7.heap.size, 5, none⟩ = some (.slice g1 o.1.given.length g2) ∧ w'.cell? ⟨w7.heap.size, 6, none⟩ = some (.slice b1 o.1.args.length b2) ∧ w'.cell? ⟨w7.heap.size, 7, none⟩ = some (.int .i64 o.1.dash) ∧ w'.cell? ⟨w7.heap.size, 8, none⟩ = some (.slice d1 ch.length d2) ∧ w'.cell? ⟨w7.heap.size, 9, none⟩ = some (.bool false) ∧ w'.cell? ⟨w7.heap.size, 10, none⟩ = some (.bool false) ∧ w'.cell? ⟨w8.heap.size + 1, 4, none⟩ = some (.int .i64 0) ∧ w'.cell? ⟨w8.heap.size + 1, 5, none⟩ = some (.string o.1.err.name) ∧ w'.cell? ⟨w8.heap.size + 1, 6, none⟩ = some (.string o.1.err.shorts) ∧ w'.cell? ⟨w8.heap.size + 1, 7, none⟩ = some (.string o.1.err.value) ∧ w'.cell? ⟨w8.heap.size + 1, 8, none⟩ = some (.int .i64 o.1.err.place) ∧ w'.cell? ⟨w8.heap.size + 1, 9, none⟩ = some (.slice g3 o.1.given.length g4) ∧ w'.cell? ⟨w8.heap.size + 1, 10, none⟩ = some (.slice b3 o.1.args.length b4) ∧ w'.cell? ⟨w8.heap.size + 1, 11, none⟩ = some (.int .i64 o.1.dash) ∧ w'.cell? ⟨w8.heap.size + 1, 12, none⟩ = some (.slice ca ch.length cc) ∧ w'.cell? ⟨w8.heap.size + 1, 13, none⟩ = some (.bool false) ∧ w'.cell? ⟨w8.heap.size + 1, 14, none⟩ = some (.bool false))
      (first
        | (with_reducible exact K9.out _ hb0)
        | (with_reducible exact K9.out _ hbd)
        | (with_reducible exact K9.out _ hb13)
        | (with_reducible exact K9.out _ hb14))
      (first
        | (go_simp; go_at_call 19; refine (HSM.out _ hbd).mono ?_; rintro e w13 ⟨rfl, hb13'⟩; have hb13 := Below.after hbd hb13')
        | (go_simp; go_at_call 28; refine (HST.out _ hb13).mono ?_; rintro e w14 ⟨rfl, hb14'⟩; have hb14 := Below.after hb13 hb14'))
    all_goals (go_wp2_with fail)
    all_goals go_ret
    all_goals exact ⟨rfl, HWF.out _ hb14⟩
  · go_wp2_with fail
    rename_i KK hK
    refine wp_region_og slotD (FixI wc (shortV w7.heap.size (w8.heap.size + 1) (.agg #[.int .i64 kz, .string o.1.err.name, .string o.1.err.shorts, .string o.1.err.value, .int .i64 o.1.err.place, .slice g1 o.1.given.length g2, .slice b1 o.1.args.length b2, .int .i64 o.1.dash, .slice d1 ch.length d2, .bool false, .bool false]) (.agg #[.int .i64 kz, .string o.1.err.name, .string o.1.err.shorts, .string o.1.err.value, .int .i64 o.1.err.place, .slice g3 o.1.given.length g4, .slice b3 o.1.args.length b4, .int .i64 o.1.dash, .slice ca ch.length cc, .bool false, .bool false]) kz)) (by kernel_rfl) (by kernel_rfl) ⟨hbd, fun _ _ h => Bool.noConfusion h⟩ ?_ ?_
    · intro i o2 ho L f wz hl hp hI
      have hi : i < 22 := (Array.getElem?_eq_some_iff.1 ho).1
      obtain ⟨f0, f1, f2, f3, f4, f5, f6, f7, f8, f9, f10, k0, k1, k2, k3, k4, k5, k6, k7, k8, k9, k10⟩ := K9.out _ hI.bel
      obtain rfl | rfl | rfl | rfl | rfl | rfl | rfl | rfl | rfl | rfl | rfl | rfl | rfl | rfl | rfl | rfl | rfl | rfl | rfl | rfl | rfl | rfl : i = 0 ∨ i = 1 ∨ i = 2 ∨ i = 3 ∨ i = 4 ∨ i = 5 ∨ i = 6 ∨ i = 7 ∨ i = 8 ∨ i = 9 ∨ i = 10 ∨ i = 11 ∨ i = 12 ∨ i = 13 ∨ i = 14 ∨ i = 15 ∨ i = 16 ∨ i = 17 ∨ i = 18 ∨ i = 19 ∨ i = 20 ∨ i = 21 := by omega
      all_goals obtain rfl := Option.some.inj ho
      · exact og_op rfl rfl (og_value (run_loadH0 ((over_eval_out _ _ _ (by decide)).trans rfl) f0 f1 f2 f3 f4 f5 f6 f7 f8 f9 f10) ⟨_, over_put _ _ _ (by decide) _, hI.step (i := 0) (d := 69) (by decide) rfl rfl (Below.refl _ _)⟩)
      · exact og_op rfl rfl (og_value (run_move ((over_eval_out _ _ _ (by decide)).trans rfl)) ⟨_, over_put _ _ _ (by decide) _, hI.step (i := 1) (d := 70) (by decide) rfl rfl (Below.refl _ _)⟩)
      · have e1 := hI.v 1 (by decide) (hp ⟨1, .data⟩ (by simp) rfl)
        exact og_op rfl rfl (og_value (run_nilCheckS ((over_eval _ _ _ (by decide) (by show 70 < 90; omega)).trans e1)) ⟨_, over_put _ _ _ (by decide) _, hI.step (i := 2) (d := 71) (by decide) rfl rfl (Below.refl _ _)⟩)
      · have e1 := hI.v 2 (by decide) (hp ⟨2, .data⟩ (by simp) rfl)
        exact og_op rfl rfl (og_value (run_fieldRun ((over_eval _ _ _ (by decide) (by show 71 < 90; omega)).trans e1)) ⟨_, over_put _ _ _ (by decide) _, hI.step (i := 3) (d := 72) (by decide) rfl rfl (Below.refl _ _)⟩)
      · have e1 := hI.v 3 (by decide) (hp ⟨3, .data⟩ (by simp) rfl)
        exact og_op rfl rfl (og_value (run_loadH4 ((over_eval _ _ _ (by decide) (by show 72 < 90; omega)).trans e1) k0 k1 k2 k3 k4 k5 k6 k7 k8 k9 k10) ⟨_, over_put _ _ _ (by decide) _, hI.step (i := 4) (d := 73) (by decide) rfl rfl (Below.refl _ _)⟩)
      · have e1 := hI.v 0 (by decide) (hp ⟨0, .data⟩ (by simp) rfl)
        have e2 := hI.v 4 (by decide) (hp ⟨4, .data⟩ (by simp) rfl)
        refine og_op rfl rfl (og_call (run_call2 ((over_eval _ _ _ (by decide) (by show 69 < 90; omega)).trans e1) ((over_eval _ _ _ (by decide) (by show 73 < 90; omega)).trans e2) rfl (fun args => by simp [go_sem])) ?_)
        refine (HSM.out _ hI.bel).mono ?_
        rintro e w' ⟨rfl, hb'⟩
        exact ⟨_, rfl, _, over_put _ _ _ (by decide) _, hI.step (i := 5) (d := 74) (by decide) rfl rfl hb'⟩
      · have e1 := hI.v 5 (by decide) (hp ⟨5, .data⟩ (by simp) rfl)
        exact og_op rfl rfl (og_value (run_move ((over_eval _ _ _ (by decide) (by show 74 < 90; omega)).trans e1)) ⟨_, over_put _ _ _ (by decide) _, hI.step (i := 6) (d := 75) (by decide) rfl rfl (Below.refl _ _)⟩)
      · have eg := hI.v 6 (by decide) (hp ⟨6, .guard⟩ (by simp) rfl)
        exact og_on rfl rfl rfl ((tmp_over _ _ _ (by decide) (by show 75 < 90; omega)).trans (congrArg some eg)) (og_value (run_fieldH0 ((over_eval_out _ _ _ (by decide)).trans rfl)) ⟨_, over_put _ _ _ (by decide) _, hI.step (i := 7) (d := 76) (by decide) rfl rfl (Below.refl _ _)⟩)
      · have eg := hI.v 6 (by decide) (hp ⟨6, .guard⟩ (by simp) rfl)
        have e1 := hI.v 7 (by decide) (hp ⟨7, .data⟩ (by simp) rfl)
        exact og_on rfl rfl rfl ((tmp_over _ _ _ (by decide) (by show 75 < 90; omega)).trans (congrArg some eg)) (og_value (run_loadI0 ((over_eval _ _ _ (by decide) (by show 76 < 90; omega)).trans e1) f0) ⟨_, over_put _ _ _ (by decide) _, hI.step (i := 8) (d := 77) (by decide) rfl rfl (Below.refl _ _)⟩)
      · have eg := hI.v 6 (by decide) (hp ⟨6, .guard⟩ (by simp) rfl)
        have e1 := hI.v 8 (by decide) (hp ⟨8, .data⟩ (by simp) rfl)
        exact og_on rfl rfl rfl ((tmp_over _ _ _ (by decide) (by show 75 < 90; omega)).trans (congrArg some eg)) (og_value (run_neq0 ((over_eval _ _ _ (by decide) (by show 77 < 90; omega)).trans e1) rfl hk) ⟨_, over_put _ _ _ (by decide) _, hI.step (i := 9) (d := 78) (by decide) rfl rfl (Below.refl _ _)⟩)
      · have eg := hI.v 6 (by decide) (hp ⟨6, .guard⟩ (by simp) rfl)
        have e1 := hI.v 9 (by decide) (hp ⟨9, .data⟩ (by simp) rfl)
        exact og_on rfl rfl rfl ((tmp_over _ _ _ (by decide) (by show 75 < 90; omega)).trans (congrArg some eg)) (og_value (run_move ((over_eval _ _ _ (by decide) (by show 78 < 90; omega)).trans e1)) ⟨_, over_put _ _ _ (by decide) _, hI.step (i := 10) (d := 79) (by decide) rfl rfl (Below.refl _ _)⟩)
      · have eg := hI.v 10 (by decide) (hp ⟨10, .guard⟩ (by simp) rfl)
        exact og_off rfl rfl rfl (.inl ((tmp_over _ _ _ (by decide) (by show 79 < 90; omega)).trans (congrArg some eg))) ⟨_, over_put _ _ _ (by decide) _, hI.step (i := 11) (d := 80) (by decide) rfl rfl (Below.refl _ _)⟩
      · have eg := hI.v 10 (by decide) (hp ⟨10, .guard⟩ (by simp) rfl)
        exact og_off rfl rfl rfl (.inl ((tmp_over _ _ _ (by decide) (by show 79 < 90; omega)).trans (congrArg some eg))) ⟨_, over_put _ _ _ (by decide) _, hI.step (i := 12) (d := 81) (by decide) rfl rfl (Below.refl _ _)⟩
      · have eg := hI.v 10 (by decide) (hp ⟨10, .guard⟩ (by simp) rfl)
        exact og_off rfl rfl rfl (.inl ((tmp_over _ _ _ (by decide) (by show 79 < 90; omega)).trans (congrArg some eg))) ⟨_, over_put _ _ _ (by decide) _, hI.step (i := 13) (d := 82) (by decide) rfl rfl (Below.refl _ _)⟩
      · have eg := hI.v 10 (by decide) (hp ⟨10, .guard⟩ (by simp) rfl)
        exact og_off rfl rfl rfl (.inl ((tmp_over _ _ _ (by decide) (by show 79 < 90; omega)).trans (congrArg some eg))) ⟨_, over_put _ _ _ (by decide) _, hI.step (i := 14) (d := 83) (by decide) rfl rfl (Below.refl _ _)⟩
      · have eg := hI.v 14 (by decide) (hp ⟨14, .guard⟩ (by simp) rfl)
        exact og_off rfl rfl rfl (.inr ((tmp_over _ _ _ (by decide) (by show 83 < 90; omega)).trans (congrArg some eg))) ⟨_, over_put _ _ _ (by decide) _, hI.step (i := 15) (d := 84) (by decide) rfl rfl (Below.refl _ _)⟩
      · have eg := hI.v 14 (by decide) (hp ⟨14, .guard⟩ (by simp) rfl)
        exact og_off rfl rfl rfl (.inr ((tmp_over _ _ _ (by decide) (by show 83 < 90; omega)).trans (congrArg some eg))) ⟨_, over_put _ _ _ (by decide) _, hI.step (i := 16) (d := 85) (by decide) rfl rfl (Below.refl _ _)⟩
      · have eg := hI.v 14 (by decide) (hp ⟨14, .guard⟩ (by simp) rfl)
        exact og_off rfl rfl rfl (.inr ((tmp_over _ _ _ (by decide) (by show 83 < 90; omega)).trans (congrArg some eg))) ⟨_, over_put _ _ _ (by decide) _, hI.step (i := 17) (d := 86) (by decide) rfl rfl (Below.refl _ _)⟩
      · have eg := hI.v 10 (by decide) (hp ⟨10, .guard⟩ (by simp) rfl)
        exact og_off rfl rfl rfl (.inl ((tmp_over _ _ _ (by decide) (by show 79 < 90; omega)).trans (congrArg some eg))) ⟨_, over_put _ _ _ (by decide) _, hI.step (i := 18) (d := 87) (by decide) rfl rfl (Below.refl _ _)⟩
      · have eg := hI.v 6 (by decide) (hp ⟨6, .guard⟩ (by simp) rfl)
        have e1 := hI.v 10 (by decide) (hp ⟨10, .data⟩ (by simp) rfl)
        exact og_on rfl rfl rfl ((tmp_over _ _ _ (by decide) (by show 75 < 90; omega)).trans (congrArg some eg)) (og_value (run_pickOr ((over_eval _ _ _ (by decide) (by show 79 < 90; omega)).trans e1) rfl) ⟨_, over_put _ _ _ (by decide) _, hI.step (i := 19) (d := 88) (by decide) rfl rfl (Below.refl _ _)⟩)
      · have e1 := hI.v 6 (by decide) (hp ⟨6, .data⟩ (by simp) rfl)
        have e2 := hI.v 19 (by decide) (hp ⟨19, .data⟩ (by simp) rfl)
        exact og_op rfl rfl (og_value (run_pickAnd ((over_eval _ _ _ (by decide) (by show 75 < 90; omega)).trans e1) ((over_eval _ _ _ (by decide) (by show 88 < 90; omega)).trans e2)) ⟨_, over_put _ _ _ (by decide) _, hI.step (i := 20) (d := 89) (by decide) rfl rfl (Below.refl _ _)⟩)
      · have e1 := hI.v 20 (by decide) (hp ⟨20, .data⟩ (by simp) rfl)
        exact og_op rfl rfl (og_value (run_assignS ((over_eval _ _ _ (by decide) (by show 89 < 90; omega)).trans e1)) ⟨_, over_put _ _ _ (by decide) _, hI.step (i := 21) (d := 6) (by decide) rfl rfl (Below.refl _ _)⟩)
    · intro L f wz hl hI
      have e21 := hI.v 21 (by decide) (hl 21 (by show 21 < 22; omega))
      have hbz := hI.bel
      change f 6 = .bool true at e21
      refine hK _ _ ?_
      go_step
      refine bodyPost_ret (v := .bool true) ?_ rfl ⟨rfl, HWF.out _ hbz⟩
      rw [results_tmp rfl, Array.getD_eq_getD_getElem?, tmp_over _ _ _ (by decide) (by show 6 < 90; omega), e21]
      rfl
end Go.Proofs.Ytcpjdgbnfjdakaa
