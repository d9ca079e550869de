/- impl.flagsOf where all can be defined: each flag as it lies. -/
import Derived.Test.YtmmkebdaijmpiaaGreatNNew
namespace Go.Proofs.YtmmkebdaijmpiaaGreat
open Go.RowKit
set_option linter.unusedVariables false
set_option linter.unusedSimpArgs false

theorem FlagIs.keep {tP : TypeId} {w0 w w' : World} {nm sh : ByteArray} {iv : Nat → Value} {df no : ByteArray} {v : Value} {G : Nat} (h : FlagIs tP w0 nm sh iv df no v G w) (hk : KeepT w w') (h1 : tP ≠ 75) (h2 : tP ≠ 80) : FlagIs tP w0 nm sh iv df no v G w' := by
  obtain ⟨P, lP, hG, hP⟩ := h.val
  exact ⟨P, lP, hk.cells _ _ _ _ hG (by decide) (by decide), hk.cells _ _ _ _ hP h1 h2⟩
theorem FlagD.keep {w0 w w' : World} {nm sh : ByteArray} {k : Int} {on : Bool} {tx : ByteArray} {G : Nat} (h : FlagD w0 nm sh k on tx G w) (hk : KeepT w w') : FlagD w0 nm sh k on tx G w' := by
  rcases h with ⟨e, h⟩ | ⟨e, h⟩
  · exact .inl ⟨e, h.keep hk (by decide) (by decide)⟩
  · exact .inr ⟨e, h.keep hk (by decide) (by decide)⟩
theorem FlagD.lt {w0 w : World} {nm sh : ByteArray} {k : Int} {on : Bool} {tx : ByteArray} {G : Nat} (h : FlagD w0 nm sh k on tx G w) : G < w.heap.size := by
  rcases h with ⟨e, h⟩ | ⟨e, h⟩
  · obtain ⟨P, lP, hG, hP⟩ := h.val
    exact lt_of_block hG
  · obtain ⟨P, lP, hG, hP⟩ := h.val
    exact lt_of_block hG
/-- All flags as they lie, each in a block of its own. -/
structure AllF (w0 : World) (es : List (DefD × Nat)) (w : World) : Prop where
  flag : ∀ e ∈ es, FlagD w0 e.1.nm e.1.sh e.1.k e.1.on e.1.tx e.2 w
  nodup : (es.map (·.2)).Nodup
theorem AllF.nil (w0 w : World) : AllF w0 [] w := ⟨fun e he => (by simp at he), by simp⟩
theorem AllF.keep {w0 w w' : World} {es : List (DefD × Nat)} (h : AllF w0 es w) (hk : KeepT w w') : AllF w0 es w' := ⟨fun e he => (h.flag e he).keep hk, h.nodup⟩
theorem AllF.lt {w0 w : World} {es : List (DefD × Nat)} (h : AllF w0 es w) (e : DefD × Nat) (he : e ∈ es) : e.2 < w.heap.size := (h.flag e he).lt
theorem AllF.snoc {w0 w : World} {es : List (DefD × Nat)} (h : AllF w0 es w) (x : DefD) {G : Nat} (hx : FlagD w0 x.nm x.sh x.k x.on x.tx G w) (hn : ∀ e ∈ es, e.2 < G) : AllF w0 (es ++ [(x, G)]) w := by
  refine ⟨fun e he => ?_, ?_⟩
  · rcases List.mem_append.1 he with he | he
    · exact h.flag e he
    · rw [List.mem_singleton.1 he]; exact hx
  · rw [List.map_append, List.nodup_append]
    refine ⟨h.nodup, by simp, ?_⟩
    intro a ha b hb e
    simp only [List.map_cons, List.map_nil, List.mem_singleton] at hb
    obtain ⟨x, hx, rfl⟩ := List.mem_map.1 ha
    have := hn x hx
    omega

set_option maxRecDepth 100000 in
set_option maxHeartbeats 1600000 in
theorem flagsOfV_any (v : Value) (l : List DefD) (w : World) (hv : Defs w v l) (hok : AllOk l) (hl : l.length ≤ 16) (hx : ∀ x ∈ l, (x.k = 0 ∨ x.k = 1) ∧ x.sh.size ≤ 60) :
    Calls Tryz.prog 26 #[.slice none 0 0, v] w fun e w' => ∃ F es, e = .returned (ptr F) ∧ es.map (·.1) = l ∧ ManyE w F es w' ∧ AllF w es w' := by
  obtain ⟨a, cap, rfl, hcap⟩ := hv.len
  have HV := Lib.hid (fun W (h : Below w.heap.size w W) => hv.later h)
  have HX := Lib.hid hx
  have HOK := Lib.hid hok
  clear hv hx hcap hok
  have CN := Lib.hid (newFS_any)
  unfold ptr at CN ⊢
  go_enter Tryz.func26, Tryz.ntmps26
  go_wp2_with fail
  refine (CN.out _).mono ?_
  rintro e w1 ⟨rfl, rfl⟩
  have H0 := Lib.hid (many_nil w w (Below.refl _ _))
  clear CN
  go_wp2_with fail
  go_loopw [18] (fun vi wr => ∃ k : Nat, k ≤ l.length ∧ vi = .int .i64 k ∧ ∃ es : List (DefD × Nat), es.map (·.1) = l.take k ∧ ManyE w w.heap.size es wr ∧ AllF w es wr) (fun vi _ => l.length - (intOf vi).toNat)
  case atStart => exact ⟨0, Nat.zero_le _, rfl, [], rfl, H0.out, AllF.nil _ _⟩
  case round =>
    obtain ⟨k, hk, rfl, es, hes, hm, hall⟩ := hrel
    have HALL := Lib.hid hall
    clear hall
    have HM := Lib.hid hm
    have HES := Lib.hid hes
    clear hm hes
    by_cases hlt : k < l.length
    case neg =>
      have HF : Hid (es.map (·.1) = l) := Lib.hid (by rw [HES.out, List.take_of_length_le (by omega)])
      go_wp2_with fail
      go_ret
      exact ⟨_, es, rfl, HF.out, HM.out, HALL.out⟩
    obtain ⟨b, of, rfl, hd⟩ := (HV.out wr HM.out.bel).at k hlt
    obtain ⟨xk, xs⟩ := HX.out _ (List.getElem_mem hlt)
    have HT := Lib.hid (show l.take (k + 1) = l.take k ++ [l[k]] from List.take_succ_eq_append_getElem hlt)
    have HP := Lib.hid (allOk_at HOK.out k hlt)
    generalize l[k] = x at *
    obtain ⟨nm, sh, kd, on, n, tx⟩ := x
    simp only at xk xs
    obtain ⟨d0, d1, d2, d3, d4, d5⟩ := hd
    simp only at d0 d1 d2 d3 d4 d5
    have blt := lt_of_cell d0
    have hlen : es.length ≤ 1099511627776 := by
      have := congrArg List.length HES.out
      rw [List.length_map, List.length_take] at this
      omega
    have hM := HM.out.later ((Below.refl _ _).alloc (Nat.le_refl _) (.cells #[.string nm, .string sh, .int .i64 kd, .bool on, .int .i64 n, .string tx] 50))
    have hA := HALL.out.keep (KeepT.below ((Below.refl _ wr).alloc (Nat.le_refl _) (.cells #[.string nm, .string sh, .int .i64 kd, .bool on, .int .i64 n, .string tx] 50)))
    have HA := Lib.hid hA
    clear hA
    have C := Lib.hid (define_any hM (by rw [HES.out]; exact allOk_take HOK.out k) ⟨nm, sh, kd, on, n, tx⟩ xk xs hlen)
    clear hM
    unfold ptr at C
    go_wp2_with fail
    refine C.out.mono ?_
    intro e w4 h4
    obtain ⟨rfl, G, lW, lG, hF, hM4⟩ := h4.good (by rw [HES.out]; exact HP.out)
    have HA4 := Lib.hid ((HA.out.keep h4.keep).snoc ⟨nm, sh, kd, on, n, tx⟩ hF (fun e he => Nat.lt_of_lt_of_le (HA.out.lt e he) lW))
    have HM4 := Lib.hid hM4
    clear hM4 hF C h4
    go_wp2_with fail
    go_roundw
    case rel => exact ⟨k + 1, by omega, by go_num, _, by rw [HT.out, List.map_append, HES.out]; rfl, HM4.out, HA4.out⟩
    case measure => simp [intOf]; omega

end Go.Proofs.YtmmkebdaijmpiaaGreat
