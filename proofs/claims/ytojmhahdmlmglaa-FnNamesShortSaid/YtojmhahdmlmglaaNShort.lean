/- impl.flagsOf where all can be defined; ShorthandLookup; impl.ShortLookup. -/
import Derived.Test.YtojmhahdmlmglaaNDefine
namespace Go.Proofs.Ytojmhahdmlmglaa
open Go.RowKit
set_option linter.unusedVariables false
set_option linter.unusedSimpArgs false

theorem allOk_take {l : List DefD} (h : AllOk l) (k : Nat) : AllOk (l.take k) := by
  intro i hi
  have hi' : i < l.length ∧ i < k := by rw [List.length_take] at hi; omega
  have := h i hi'.1
  simp only [List.getElem_take, List.take_take, Nat.min_eq_left (Nat.le_of_lt hi'.2)]
  exact this
theorem allOk_at {l : List DefD} (h : AllOk l) (k : Nat) (hk : k < l.length) : okP l[k] (l.take k) := h k hk

set_option maxRecDepth 100000 in
set_option maxHeartbeats 1600000 in
theorem flagsOf_any (v : Value) (l : List DefD) (w : World) (hv : Defs w v l) (hok : AllOk l) (hl : l.length ≤ 16) (hx : ∀ x ∈ l, (x.k = 0 ∨ x.k = 1) ∧ x.sh.size ≤ 60) :
    Calls Try.prog 21 #[.slice none 0 0, v] w fun e w' => ∃ F es, e = .returned (ptr F) ∧ es.map (·.1) = l ∧ ManyE w F es w' := by
  obtain ⟨a, cap, rfl, hcap⟩ := hv.len
  have HV := Lib.hid (fun W (h : Below w.heap.size w W) => hv.later h)
  have HX := Lib.hid hx
  have HOK := Lib.hid hok
  clear hv hx hcap hok
  have CN := Lib.hid (newFS_any)
  unfold ptr at CN ⊢
  go_enter Try.func21, Try.ntmps21
  go_wp2_with fail
  refine (CN.out _).mono ?_
  rintro e w1 ⟨rfl, rfl⟩
  have H0 := Lib.hid (many_nil w w (Below.refl _ _))
  clear CN
  go_wp2_with fail
  go_loopw [18] (fun vi wr => ∃ k : Nat, k ≤ l.length ∧ vi = .int .i64 k ∧ ∃ es : List (DefD × Nat), es.map (·.1) = l.take k ∧ ManyE w w.heap.size es wr) (fun vi _ => l.length - (intOf vi).toNat)
  case atStart => exact ⟨0, Nat.zero_le _, rfl, [], rfl, H0.out⟩
  case round =>
    obtain ⟨k, hk, rfl, es, hes, hm⟩ := hrel
    have HM := Lib.hid hm
    have HES := Lib.hid hes
    clear hm hes
    by_cases hlt : k < l.length
    case neg =>
      have HF : Hid (es.map (·.1) = l) := Lib.hid (by rw [HES.out, List.take_of_length_le (by omega)])
      go_wp2_with fail
      go_ret
      exact ⟨_, es, rfl, HF.out, HM.out⟩
    obtain ⟨b, of, rfl, hd⟩ := (HV.out wr HM.out.bel).at k hlt
    obtain ⟨xk, xs⟩ := HX.out _ (List.getElem_mem hlt)
    have HT := Lib.hid (show l.take (k + 1) = l.take k ++ [l[k]] from List.take_succ_eq_append_getElem hlt)
    have HP := Lib.hid (allOk_at HOK.out k hlt)
    generalize l[k] = x at *
    obtain ⟨nm, sh, kd, on, n, tx⟩ := x
    simp only at xk xs
    obtain ⟨d0, d1, d2, d3, d4, d5⟩ := hd
    simp only at d0 d1 d2 d3 d4 d5
    have blt := lt_of_cell d0
    have hlen : es.length ≤ 1099511627776 := by
      have := congrArg List.length HES.out
      rw [List.length_map, List.length_take] at this
      omega
    have hM := HM.out.later ((Below.refl _ _).alloc (Nat.le_refl _) (.cells #[.string nm, .string sh, .int .i64 kd, .bool on, .int .i64 n, .string tx] 39))
    have C := Lib.hid (define_any hM (by rw [HES.out]; exact allOk_take HOK.out k) ⟨nm, sh, kd, on, n, tx⟩ xk xs hlen)
    clear hM
    unfold ptr at C
    go_wp2_with fail
    refine C.out.mono ?_
    intro e w4 h4
    obtain ⟨rfl, G, lG, hF, hM4⟩ := h4.good (by rw [HES.out]; exact HP.out)
    have HM4 := Lib.hid hM4
    clear hM4 hF C h4
    go_wp2_with fail
    go_roundw
    case rel => exact ⟨k + 1, by omega, by go_num, _, by rw [HT.out, List.map_append, HES.out]; rfl, HM4.out⟩
    case measure => simp [intOf]; omega

theorem find_mem {κ : Type} [DecidableEq κ] (k : κ) : ∀ (l : List (κ × Value)) (i j : Nat) (v : Value), mapFind k l i = some (j, v) → (k, v) ∈ l
  | [], _, _, _, h => by simp [mapFind] at h
  | x :: l, i, j, v, h => by
    rw [mapFind] at h
    by_cases e : k = x.1
    · rw [if_pos e] at h
      cases h
      subst e
      exact List.mem_cons_self
    · rw [if_neg e] at h
      exact List.mem_cons_of_mem _ (find_mem k l _ _ _ h)
/-- What is found by a shorthand. -/
inductive Found (es : List (DefD × Nat)) (nm : ByteArray) : Value → Prop
  | none (h : ∀ e ∈ es, ¬ (e.1.sh = nm ∧ nm.size ≠ 0)) : Found es nm (.pointer none)
  | some (e : DefD × Nat) (he : e ∈ es) (h : e.1.sh = nm) (h0 : nm.size ≠ 0) : Found es nm (ptr e.2)
theorem Found.pointer {es : List (DefD × Nat)} {nm : ByteArray} {v : Value} (h : Found es nm v) : ∃ p, v = .pointer p := by
  cases h <;> exact ⟨_, rfl⟩
theorem found_of {es : List (DefD × Nat)} (hok : AllOk (es.map (·.1))) {nm : ByteArray} (h1 : nm.size = 1) : Found es nm (lookedUp (.pointer none) false (mapFind (nm[0]'(by omega)) (slE es) 0)) := by
  cases h : mapFind (nm[0]'(by omega)) (slE es) 0 with
  | none =>
    rw [find_none] at h
    refine .none fun e he q => ?_
    refine h (nm[0]'(by omega), ptr e.2) (List.mem_flatMap.2 ⟨e, he, ?_⟩) rfl
    obtain ⟨rfl, -⟩ := q
    rw [firstB_some (by omega)]
    simp
  | some q =>
    obtain ⟨j, v⟩ := q
    obtain ⟨e, he, hy⟩ := List.mem_flatMap.1 (find_mem _ _ _ _ _ h)
    have he1 : e.1.sh.size ≤ 1 := allOk_le hok _ (List.mem_map.2 ⟨e, he, rfl⟩)
    by_cases h0 : e.1.sh.size = 0
    · rw [firstB_none h0] at hy; simp at hy
    · rw [firstB_some (by omega)] at hy
      simp only [Option.map_some, Option.toList_some, List.mem_singleton] at hy
      rw [Prod.mk.injEq] at hy
      obtain ⟨e1, rfl⟩ := hy
      exact .some e he (one_byte (by omega) h1 e1.symm) (by omega)

set_option maxRecDepth 100000 in
theorem shortLook_ok {w0 w : World} {F : Nat} {es : List (DefD × Nat)} (h : ManyE w0 F es w) (hok : AllOk (es.map (·.1))) (nm : ByteArray) (h1 : nm.size ≤ 1) :
    Calls Try.prog 22 #[ptr F, .string nm] w fun e w' => ∃ v, e = .returned v ∧ Found es nm v ∧ w' = w := by
  unfold ptr
  by_cases h0 : nm.size = 0
  · have hq : (nm.toList == ([] : List UInt8)) = true := by rw [emptyB]; exact decide_eq_true h0
    have hqe : nm.toList.isEmpty = true := by rw [isEmptyB]; exact decide_eq_true h0
    have HF := Lib.hid (show Found es nm (.pointer none) from .none fun e _ q => q.2 h0)
    go_enter Try.func22, Try.ntmps22
    go_wp2_with fail
    go_ret
    exact ⟨_, rfl, HF.out, rfl⟩
  · have hq : (nm.toList == ([] : List UInt8)) = false := by rw [emptyB]; exact decide_eq_false h0
    have hqe : nm.toList.isEmpty = false := by rw [isEmptyB]; exact decide_eq_false h0
    have hs : nm.size = 1 := by omega
    have HF := Lib.hid (found_of hok hs)
    obtain ⟨fm, sm, ofv, h⟩ := h
    have q1 : ¬ (1 : Int) < (nm.size : Int) := by omega
    have q0 : (0 : Int) < (nm.size : Int) := by omega
    have hlk := h.hsm.lookC (nm[0]'(by omega)) false
    have c11 := h.cF 11 (.map sm) rfl
    obtain ⟨c, hc⟩ : ∃ c, nm[0]'(by omega) = c := ⟨_, rfl⟩
    rw [hc] at hlk HF
    generalize lookedUp (.pointer none) false (mapFind c (slE es) 0) = v at *
    clear h
    go_enter Try.func22, Try.ntmps22
    go_wp2_with fail
    go_ret
    exact ⟨_, rfl, HF.out, rfl⟩
set_option maxRecDepth 100000 in
theorem shortLook_bad (F : Nat) (w : World) (nm : ByteArray) (h1 : 1 < nm.size) (h2 : nm.size ≤ 2147483647) :
    Calls Try.prog 22 #[ptr F, .string nm] w fun e w' => Dies e ∧ w' = w := by
  unfold ptr
  have hq : (nm.toList == ([] : List UInt8)) = false := by rw [emptyB]; exact decide_eq_false (by omega)
  have hqe : nm.toList.isEmpty = false := by rw [isEmptyB]; exact decide_eq_false (by omega)
  have q1 : (1 : Int) < (nm.size : Int) := by omega
  go_enter Try.func22, Try.ntmps22
  go_wp2_with fail
  exact ⟨rfl, ⟨_, _, rfl⟩, rfl⟩

set_option maxRecDepth 100000 in
set_option maxHeartbeats 1600000 in
theorem short1_ok (v : Value) (l : List DefD) (w : World) (nm : ByteArray) (hv : Defs w v l) (hok : AllOk l) (hl : l.length ≤ 16) (hx : ∀ x ∈ l, (x.k = 0 ∨ x.k = 1) ∧ x.sh.size ≤ 60) (h1 : nm.size ≤ 1) {D S X : Nat} {x0 : Value}
    (hD : w.heap[D]? = some (.cells #[v] 22 (0, 0))) (hS : w.heap[S]? = some (.cells #[.string nm] 9 (0, 0))) (hX : w.heap[X]? = some (.cells #[x0] 52 (0, 0))) :
    Calls Try.prog 20 #[.pointer (some ⟨D, 0, none⟩), .pointer (some ⟨S, 0, none⟩), .pointer (some ⟨X, 0, none⟩)] w fun e w' => e = .returned (.tuple #[]) ∧ ∃ wb F es u w1, es.map (·.1) = l ∧ ManyE wb F es w1 ∧ Below w.heap.size w w1 ∧ Found es nm u ∧ w' = w1.setCell ⟨X, 0, none⟩ u := by
  have C1 := Lib.hid (fun W (hb : Below w.heap.size w W) => And.intro (flagsOf_any v l W (hv.later hb) hok hl hx) hb)
  have HL := Lib.hid (fun F (es : List (DefD × Nat)) w1 (wb : World) (h : ManyE wb F es w1) (e : es.map (·.1) = l) => shortLook_ok h (by rw [e]; exact hok) nm h1)
  have HK := Lib.hid (fun w1 (hb : Below w.heap.size w w1) => And.intro (cell_of_one ((hb.block _ (lt_of_block hS)).trans hS)) (And.intro (cell_of_one ((hb.block _ (lt_of_block hX)).trans hX)) (And.intro (free_of_one ((hb.block _ (lt_of_block hX)).trans hX)) (Nat.lt_of_lt_of_le (lt_of_block hX) hb.size))))
  have d0 := cell_of_one hD
  have s0 := cell_of_one hS
  have lD := lt_of_block hD
  have lS := lt_of_block hS
  obtain ⟨a, cap, rfl, -⟩ := hv.len
  clear hv hok hx hD hS hX
  unfold ptr at C1 HL
  go_enter Try.func20, Try.ntmps20
  have HBD : Hid (Below w.heap.size w w.drew) := Lib.hid (Below.refl _ _).drew
  go_region_with (first
    | (go_at_call 21; refine (C1.out _ HBD.out).1.mono ?_; rintro e w1 ⟨F, es, rfl, hes, hm⟩; have hb1 : Below w.heap.size w w1 := HBD.out.trans hm.bel; obtain ⟨k1, k2, k3, k4⟩ := HK.out w1 hb1; have CS := Lib.hid (HL.out F es w1 _ hm hes))
    | (go_at_call 22; refine CS.out.mono ?_; rintro e w2 ⟨u, rfl, hf, rfl⟩; obtain ⟨pu, rfl⟩ := hf.pointer))
  all_goals
    go_end0
    exact ⟨rfl, _, F, es, _, _, hes, hm, hb1, hf, rfl⟩
theorem og_callQ {P : Program} {Q : Exit → Act → World → Prop} {o : Oper} {K : Act → World → Prop} {a : Act} {w : World} {g : FuncId} {args : Array Value} (h : (execOp a.eval o).run P w = .ok (.enter g args) w) (hk : Calls P g args w fun e w' => (∃ v, e = .returned v ∧ K (a.put o.dst v) w') ∨ ∃ ch, e = .panicked ch ∧ Q (.panic ch) a w') : o.wp P a w K Q := by
  unfold Oper.wp
  rw [h]
  refine Calls.mono hk ?_
  rintro e w' (⟨v, rfl, hv⟩ | ⟨ch, rfl, hv⟩)
  · exact hv
  · exact hv
theorem run_loadSl {ρ : Operand → Value} {d : Option Tmp} {ty : TypeId} {pos : String} {af : Array Edge} {g : Option (Nat × Bool)} {x : Tmp} {w : World} {B : Nat} {a : Option Addr} {n c : Nat} (h : ρ (.tmp x) = .pointer (some ⟨B, 0, none⟩)) (hc : w.cell? ⟨B, 0, none⟩ = some (.slice a n c)) :
    (execOp ρ ⟨d, .load 22 (.tmp x), ty, pos, af, g⟩).run Try.prog w = .ok (.value (.slice a n c)) w := by
  go_simp
set_option maxRecDepth 100000 in
set_option maxHeartbeats 1600000 in
theorem short1_bad (v : Value) (l : List DefD) (w : World) (nm : ByteArray) (hv : Defs w v l) (hok : AllOk l) (hl : l.length ≤ 16) (hx : ∀ x ∈ l, (x.k = 0 ∨ x.k = 1) ∧ x.sh.size ≤ 60) (h1 : 1 < nm.size) (h2 : nm.size ≤ 60) {D S X : Nat}
    (hD : w.heap[D]? = some (.cells #[v] 22 (0, 0))) (hS : w.heap[S]? = some (.cells #[.string nm] 9 (0, 0))) :
    Calls Try.prog 20 #[.pointer (some ⟨D, 0, none⟩), .pointer (some ⟨S, 0, none⟩), .pointer (some ⟨X, 0, none⟩)] w fun e w' => Dies e ∧ Below w.heap.size w w' := by
  have C1 := Lib.hid (fun W (hb : Below w.heap.size w W) => flagsOf_any v l W (hv.later hb) hok hl hx)
  have HD := Lib.hid (fun w1 (hb : Below w.heap.size w w1) => cell_of_one ((hb.block _ (lt_of_block hD)).trans hD))
  have HS := Lib.hid (fun w1 (hb : Below w.heap.size w w1) => cell_of_one ((hb.block _ (lt_of_block hS)).trans hS))
  obtain ⟨a, cap, rfl, -⟩ := hv.len
  clear hv hok hx hD hS
  unfold ptr at C1
  go_enter Try.func20, Try.ntmps20
  refine wp_region_og [3, 4, 5, 6] (fun L f wz => Below w.heap.size w wz ∧ L 3 = false ∧ (L 0 = true → f 3 = .slice a l.length cap) ∧ (L 1 = true → ∃ F, f 4 = .pointer (some ⟨F, 0, none⟩)) ∧ (L 2 = true → f 5 = .string nm)) (by kernel_rfl) (by kernel_rfl) ⟨(Below.refl _ _).drew, rfl, (fun h => by cases h), (fun h => by cases h), (fun h => by cases h)⟩ ?_ ?_
  · intro i o ho L f wz hl hp hI
    obtain ⟨hb, i3, i0, i1, i2⟩ := hI
    have hi : i < 5 := (Array.getElem?_eq_some_iff.1 ho).1
    obtain rfl | rfl | rfl | rfl | rfl : i = 0 ∨ i = 1 ∨ i = 2 ∨ i = 3 ∨ i = 4 := by omega
    all_goals obtain rfl := Option.some.inj ho
    · refine og_op rfl rfl (og_value (run_loadSl ((over_eval_out _ _ _ (by decide)).trans rfl) (HD.out wz hb)) ⟨_, over_put _ _ _ (by decide) _, hb, i3, (fun _ => upd_same _ _ _), (fun h => ?_), (fun h => ?_)⟩)
      · obtain ⟨F, e⟩ := i1 h
        exact ⟨F, by rw [upd_ne _ _ (by decide)]; exact e⟩
      · rw [upd_ne _ _ (by decide)]; exact i2 h
    · have e0 := i0 (hp ⟨0, .data⟩ (by simp) rfl)
      refine og_op rfl rfl (og_call (run_call2 (v := .slice none 0 0) rfl ((over_eval _ _ _ (by decide) (by show 3 < 7; omega)).trans e0) rfl (fun args => by simp [go_sem])) ?_)
      refine (C1.out wz hb).mono ?_
      rintro e w' ⟨F, es, rfl, -, hm⟩
      refine ⟨_, rfl, ⟨_, over_put _ _ _ (by decide) _, hb.trans (hm.bel.mono hb.size), i3, (fun h => ?_), (fun _ => ⟨F, upd_same _ _ _⟩), (fun h => ?_)⟩⟩
      · rw [upd_ne _ _ (by decide)]; exact e0
      · rw [upd_ne _ _ (by decide)]; exact i2 h
    · refine og_op rfl rfl (og_value (run_loadS ((over_eval_out _ _ _ (by decide)).trans rfl) (HS.out wz hb)) ⟨_, over_put _ _ _ (by decide) _, hb, i3, (fun h => ?_), (fun h => ?_), (fun _ => upd_same _ _ _)⟩)
      · rw [upd_ne _ _ (by decide)]; exact i0 h
      · obtain ⟨F, e⟩ := i1 h
        exact ⟨F, by rw [upd_ne _ _ (by decide)]; exact e⟩
    · obtain ⟨F, e1⟩ := i1 (hp ⟨1, .data⟩ (by simp) rfl)
      have e2 := i2 (hp ⟨2, .data⟩ (by simp) rfl)
      refine og_op rfl rfl (og_callQ (run_call2 ((over_eval _ _ _ (by decide) (by show 4 < 7; omega)).trans e1) ((over_eval _ _ _ (by decide) (by show 5 < 7; omega)).trans e2) rfl (fun args => by simp [go_sem])) ?_)
      refine (shortLook_bad F wz nm h1 (by omega)).mono ?_
      rintro e w' ⟨⟨u, pv, rfl⟩, rfl⟩
      exact .inr ⟨_, rfl, rfl, ⟨_, _, rfl⟩, hb⟩
    · exact absurd ((hp ⟨3, .data⟩ (by simp) rfl).symm.trans i3) (by decide)
  · intro L f wz hl hI
    exact absurd ((hl 3 (by show 3 < 5; omega)).symm.trans hI.2.1) (by decide)
end Go.Proofs.Ytojmhahdmlmglaa
