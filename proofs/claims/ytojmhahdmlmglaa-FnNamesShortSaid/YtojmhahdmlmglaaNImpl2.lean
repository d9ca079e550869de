/- impl.Defined: how many can be defined. -/
import Derived.Test.YtojmhahdmlmglaaNImpl
import Derived.Test.YtojmhahdmlmglaaNGuard
namespace Go.Proofs.Ytojmhahdmlmglaa
open Go.RowKit
set_option linter.unusedVariables false
set_option linter.unusedSimpArgs false

/-- All up to n can be defined, and no further one. -/
def Stops (l : List DefD) (n : Nat) : Prop := n ≤ l.length ∧ AllOk (l.take n) ∧ ∀ h : n < l.length, ¬ okP l[n] (l.take n)
theorem Stops.unique {l : List DefD} {n m : Nat} (h : Stops l n) (k : Stops l m) : n = m := by
  have key : ∀ {a b : Nat}, Stops l a → Stops l b → ¬ a < b := fun {a b} h k hlt => by
    have hb := k.1
    have := k.2.1 a (by rw [List.length_take]; omega)
    simp only [List.getElem_take, List.take_take, Nat.min_eq_left (Nat.le_of_lt hlt)] at this
    exact h.2.2 (by omega) this
  have h1 := key h k
  have h2 := key k h
  omega

set_option maxRecDepth 100000 in
theorem defined1_any {w0 w : World} {F : Nat} {es : List (DefD × Nat)} (h : ManyE w0 F es w) (hok : AllOk (es.map (·.1))) (x : DefD) (hk : x.k = 0 ∨ x.k = 1) (hsz : x.sh.size ≤ 60) (hes : es.length ≤ 1099511627776) {P D : Nat}
    (hP : w.heap[P]? = some (.cells #[ptr F] 43 (0, 0))) (hD : w.heap[D]? = some (.cells #[.string x.nm, .string x.sh, .int .i64 x.k, .bool x.on, .int .i64 x.n, .string x.tx] 39 (0, 0))) :
    Calls Try.prog 16 #[.pointer (some ⟨P, 0, none⟩), .pointer (some ⟨D, 0, none⟩)] w (EndE w0 w F x es) := by
  have C := Lib.hid (define_any h hok x hk hsz hes)
  clear h hok
  obtain ⟨nm, sh, k, on, n, tx⟩ := x
  simp only at hk hsz C hD
  have c0 := cell_of_one hP
  have d0 := cell_of hD 0 (.string nm) rfl
  have d1 := cell_of hD 1 (.string sh) rfl
  have d2 := cell_of hD 2 (.int .i64 k) rfl
  have d3 := cell_of hD 3 (.bool on) rfl
  have d4 := cell_of hD 4 (.int .i64 n) rfl
  have d5 := cell_of hD 5 (.string tx) rfl
  clear hP hD
  unfold ptr at *
  go_enter Try.func16, Try.ntmps16
  go_wp2_with fail
  refine C.out.mono ?_
  intro e w3 h3
  have H3 := Lib.hid h3
  clear C c0 d0 d1 d2 d3 d4 d5
  by_cases ok : okP ⟨nm, sh, k, on, n, tx⟩ (es.map (·.1))
  · obtain ⟨rfl, hg⟩ := h3.good ok
    have HG := Lib.hid hg
    clear h3 hg
    go_wp2_with fail
    go_end0
    exact ⟨H3.out.keep, H3.out.bel, fun _ => ⟨rfl, HG.out⟩, fun hh => absurd ok hh⟩
  · obtain ⟨u, pv, rfl⟩ := h3.bad ok
    clear h3
    go_wp2_with fail
    exact ⟨rfl, H3.out.keep, H3.out.bel, fun hh => absurd hh ok, fun _ => ⟨_, _, rfl⟩⟩

/-- The set, empty. -/
theorem many_nil (w0 w : World) (hb : Below w0.heap.size w0 w) : ManyE w0 w.heap.size [] (w.alloc (.cells (fsN none (.slice none 0 0) none) 68)) :=
  ⟨none, none, .slice none 0 0, hb.alloc hb.size _, heap_at _ _ _ rfl, .inl ⟨rfl, rfl⟩, .inl ⟨rfl, rfl⟩, World.ownsRow_nil _ _ _ _, fun x hx => (by simp [flE] at hx), hb.size, fun b e => (by cases e), fun b e => (by cases e)⟩

/-- The guarded definition. -/
theorem guardedDef_ok {w0 w : World} {F : Nat} {es : List (DefD × Nat)} (h : ManyE w0 F es w) (hok : AllOk (es.map (·.1))) (x : DefD) (hk : x.k = 0 ∨ x.k = 1) (hsz : x.sh.size ≤ 60) (hes : es.length ≤ 1099511627776) {P D : Nat}
    (hP : w.heap[P]? = some (.cells #[ptr F] 43 (0, 0))) (hD : w.heap[D]? = some (.cells #[.string x.nm, .string x.sh, .int .i64 x.k, .bool x.on, .int .i64 x.n, .string x.tx] 39 (0, 0))) (ok : okP x (es.map (·.1))) :
    Calls Try.prog 15 #[.func (.func 16) #[] #[.pointer (some ⟨P, 0, none⟩), .pointer (some ⟨D, 0, none⟩)]] w fun e w' => e = .returned (.bool false) ∧ w'.heap[P]? = some (.cells #[ptr F] 43 (0, 0)) ∧ ∃ G, ManyE w0 F (es ++ [(x, G)]) w' := by
  have hb := (Below.refl _ w).alloc (Nat.le_refl _) (.cells #[.bool false] 4)
  have hP' := heap_past' (o := .cells #[.bool false] 4) (lt_of_block hP) hP
  refine (guarded_ok 16 _ w (fun w' => KeepT (w.alloc (.cells #[.bool false] 4)) w' ∧ ∃ G, ManyE w0 F (es ++ [(x, G)]) w') _ rfl (fun _ => by go_simp) ?_ ?_).mono ?_
  · refine (defined1_any (h.later hb) hok x hk hsz hes hP' (heap_past' (lt_of_block hD) hD)).mono ?_
    intro e w' h'
    obtain ⟨e1, G, _, _, hM⟩ := h'.good ok
    exact ⟨e1, h'.keep, G, hM⟩
  · rintro w' ⟨hk, _⟩
    exact hk.cells _ _ _ _ (heap_at _ _ _ rfl) (by decide) (by decide) (by decide)
  · rintro e w' ⟨rfl, hk, hG⟩
    exact ⟨rfl, hk.cells _ _ _ _ hP' (by decide) (by decide) (by decide), hG⟩
theorem guardedDef_bad {w0 w : World} {F : Nat} {es : List (DefD × Nat)} (h : ManyE w0 F es w) (hok : AllOk (es.map (·.1))) (x : DefD) (hk : x.k = 0 ∨ x.k = 1) (hsz : x.sh.size ≤ 60) (hes : es.length ≤ 1099511627776) {P D : Nat}
    (hP : w.heap[P]? = some (.cells #[ptr F] 43 (0, 0))) (hD : w.heap[D]? = some (.cells #[.string x.nm, .string x.sh, .int .i64 x.k, .bool x.on, .int .i64 x.n, .string x.tx] 39 (0, 0))) (ok : ¬ okP x (es.map (·.1))) :
    Calls Try.prog 15 #[.func (.func 16) #[] #[.pointer (some ⟨P, 0, none⟩), .pointer (some ⟨D, 0, none⟩)]] w fun e w' => e = .returned (.bool true) ∧ Below w0.heap.size w0 w' := by
  have hb := (Below.refl _ w).alloc (Nat.le_refl _) (.cells #[.bool false] 4)
  have hP' := heap_past' (o := .cells #[.bool false] 4) (lt_of_block hP) hP
  refine (guarded_bad 16 _ w (fun w' => KeepT (w.alloc (.cells #[.bool false] 4)) w' ∧ Below w0.heap.size w0 w') _ rfl (fun _ => by go_simp) ?_ ?_).mono ?_
  · refine (defined1_any (h.later hb) hok x hk hsz hes hP' (heap_past' (lt_of_block hD) hD)).mono ?_
    intro e w' h'
    exact ⟨h'.bad ok, h'.keep, h'.bel⟩
  · rintro w' ⟨hk, _⟩
    exact hk.cells _ _ _ _ (heap_at _ _ _ rfl) (by decide) (by decide) (by decide)
  · rintro e w' ⟨rfl, w1, ⟨_, hB⟩, rfl⟩
    exact ⟨rfl, hB.setCell h.bel.size _⟩

set_option maxRecDepth 100000 in
set_option maxHeartbeats 1600000 in
theorem defined_any (v : Value) (l : List DefD) (w : World) (hv : Defs w v l) (hl : l.length ≤ 16) (hx : ∀ x ∈ l, (x.k = 0 ∨ x.k = 1) ∧ x.sh.size ≤ 60) :
    Calls Try.prog 7 #[v] w fun e w' => ∃ n : Nat, e = .returned (.int .i64 n) ∧ Stops l n ∧ Below w.heap.size w w' := by
  have hmf : ∀ (fn : Fn) (first cap : Array Value) (w : World), (Instr.makeFunc fn first cap).run Try.prog w = .ok (.func fn first cap) w := fun _ _ _ _ => rfl
  obtain ⟨a, cap, rfl, hcap⟩ := hv.len
  have HV := Lib.hid (fun W (h : Below w.heap.size w W) => hv.later h)
  have HX := Lib.hid hx
  clear hv hx hcap
  have CN := Lib.hid (newFS_any)
  unfold ptr at CN
  go_enter Try.func7, Try.ntmps7
  go_wp2_with fail
  refine (CN.out _).mono ?_
  rintro e w1 ⟨rfl, rfl⟩
  have HM := Lib.hid (many_nil w w (Below.refl _ _))
  go_wp2_with fail
  have H0 : Hid (ManyE w w.heap.size [] ((w.alloc (.cells (fsN none (.slice none 0 0) none) 68)).alloc (.cells #[.pointer (some ⟨w.heap.size, 0, none⟩)] 43)) ∧ ((w.alloc (.cells (fsN none (.slice none 0 0) none) 68)).alloc (.cells #[.pointer (some ⟨w.heap.size, 0, none⟩)] 43)).heap[w.heap.size + 1]? = some (.cells #[.pointer (some ⟨w.heap.size, 0, none⟩)] 43 (0, 0))) := Lib.hid
    ⟨HM.out.later ((Below.refl _ _).alloc (Nat.le_refl _) _), heap_at _ _ _ (by simp only [World.size_alloc])⟩
  clear CN HM
  go_loopw [9] (fun vi wr => ∃ k : Nat, k ≤ l.length ∧ vi = .int .i64 k ∧ AllOk (l.take k) ∧ (∃ es : List (DefD × Nat), es.map (·.1) = l.take k ∧ ManyE w w.heap.size es wr) ∧ wr.heap[w.heap.size + 1]? = some (.cells #[.pointer (some ⟨w.heap.size, 0, none⟩)] 43 (0, 0))) (fun vi _ => l.length - (intOf vi).toNat)
  case atStart => exact ⟨0, Nat.zero_le _, rfl, fun i hi => by simp at hi, ⟨[], rfl, H0.out.1⟩, H0.out.2⟩
  case round =>
    obtain ⟨k, hk, rfl, hall, ⟨es, hes, hm⟩, hp⟩ := hrel
    have HA := Lib.hid hall
    have HM := Lib.hid hm
    have HES := Lib.hid hes
    have HP := Lib.hid hp
    clear hall hm hes hp
    by_cases hlt : k < l.length
    case neg =>
      have HF : Hid (Stops l l.length) := Lib.hid (by
        refine ⟨Nat.le_refl _, ?_, fun h => absurd h (Nat.lt_irrefl _)⟩
        obtain rfl : k = l.length := by omega
        exact HA.out)
      go_wp2_with fail
      go_ret
      exact ⟨_, rfl, HF.out, HM.out.bel⟩
    obtain ⟨b, of, rfl, hd⟩ := (HV.out wr HM.out.bel).at k hlt
    obtain ⟨xk, xs⟩ := HX.out _ (List.getElem_mem hlt)
    have HT := Lib.hid (show l.take (k + 1) = l.take k ++ [l[k]] from List.take_succ_eq_append_getElem hlt)
    have HST := Lib.hid (fun (h : ¬ okP l[k] (l.take k)) => (⟨by omega, HA.out, fun _ => h⟩ : Stops l k))
    generalize l[k] = x at *
    obtain ⟨nm, sh, kd, on, n, tx⟩ := x
    simp only at xk xs
    obtain ⟨d0, d1, d2, d3, d4, d5⟩ := hd
    simp only at d0 d1 d2 d3 d4 d5
    have blt := lt_of_cell d0
    have hlen : es.length ≤ 1099511627776 := by
      have := congrArg List.length HES.out
      rw [List.length_map, List.length_take] at this
      omega
    have hD : (wr.alloc (.cells #[.string nm, .string sh, .int .i64 kd, .bool on, .int .i64 n, .string tx] 39)).heap[wr.heap.size]? = some (.cells #[.string nm, .string sh, .int .i64 kd, .bool on, .int .i64 n, .string tx] 39 (0, 0)) := heap_at _ _ _ rfl
    have hP := heap_past' (o := .cells #[.string nm, .string sh, .int .i64 kd, .bool on, .int .i64 n, .string tx] 39) (lt_of_block HP.out) HP.out
    have hM := HM.out.later ((Below.refl _ _).alloc (Nat.le_refl _) (.cells #[.string nm, .string sh, .int .i64 kd, .bool on, .int .i64 n, .string tx] 39))
    by_cases ok : okP ⟨nm, sh, kd, on, n, tx⟩ (l.take k)
    · have C := Lib.hid (guardedDef_ok hM (by rw [HES.out]; exact HA.out) ⟨nm, sh, kd, on, n, tx⟩ xk xs hlen hP hD (by rw [HES.out]; exact ok))
      clear hD hP hM
      go_wp2_with fail
      refine C.out.mono ?_
      rintro e w4 ⟨rfl, hP4, G, hM4⟩
      have HP4 := Lib.hid hP4
      have HM4 := Lib.hid hM4
      clear hP4 hM4 C
      go_wp2_with fail
      go_roundw
      case rel =>
        refine ⟨k + 1, by omega, by go_num, ?_, ⟨_, ?_, HM4.out⟩, HP4.out⟩
        · rw [HT.out]; exact allOk_snoc HA.out ok
        · rw [HT.out, List.map_append, HES.out]; rfl
      case measure => simp [intOf]; omega
    · have C := Lib.hid (guardedDef_bad hM (by rw [HES.out]; exact HA.out) ⟨nm, sh, kd, on, n, tx⟩ xk xs hlen hP hD (by rw [HES.out]; exact ok))
      have HF := Lib.hid (HST.out ok)
      clear hD hP hM
      go_wp2_with fail
      refine C.out.mono ?_
      rintro e w4 ⟨rfl, hb4⟩
      have HB4 := Lib.hid hb4
      clear hb4 C
      go_wp2_with fail
      go_ret
      exact ⟨_, rfl, HF.out, HB4.out⟩
end Go.Proofs.Ytojmhahdmlmglaa
