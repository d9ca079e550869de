/- The reference's Define: how many can be defined. -/
import Derived.Test.YtmmkebdaijmpiaaGreatNStops
import Derived.Test.YtmmkebdaijmpiaaGreatNAddS
namespace Go.Proofs.YtmmkebdaijmpiaaGreat
open Go.RowKit
set_option linter.unusedVariables false
set_option linter.unusedSimpArgs false

theorem okS_iff (x : DefD) (l : List DefD) : okS (firstF x) (l.map firstF) ↔ okP x l := by
  unfold okS okP
  simp only [firstF, List.mem_map, forall_exists_index, and_imp, forall_apply_eq_imp_iff₂]
  refine and_congr Iff.rfl ?_
  constructor
  · rintro ⟨h1, h2⟩
    by_cases h0 : x.sh.size = 0
    · exact .inl h0
    · exact .inr ⟨by omega, fun y hy e => h2 y hy ⟨e, h0⟩⟩
  · rintro (h | ⟨h1, h2⟩)
    · exact ⟨by omega, fun y hy e => e.2 h⟩
    · exact ⟨by omega, fun y hy e => h2 y hy e.1⟩

set_option maxRecDepth 100000 in
set_option maxHeartbeats 1600000 in
theorem defineS_any {w0 w : World} {N : Nat} {sv : Value} {pl : Bool} (h : NSet w0 N (.slice none 0 0) pl sv [] w) (v : Value) (l : List DefD) (hv : Defs w0 v l) (hl : l.length ≤ 16) (hx : ∀ x ∈ l, (x.k = 0 ∨ x.k = 1) ∧ x.sh.size ≤ 60) :
    Calls Tryz.prog 17 #[.pointer (some ⟨N, 0, none⟩), v] w fun e w' => ∃ n : Nat, e = .returned (.int .i64 n) ∧ Stops l n ∧ ∃ fv, NSet w0 N fv pl sv ((l.take n).map firstF) w' := by
  obtain ⟨a, cap, rfl, hcap⟩ := hv.len
  have HV := Lib.hid (fun W (h : Below w0.heap.size w0 W) => hv.later h)
  have HX := Lib.hid hx
  have H0 := Lib.hid h
  clear hv hx hcap h
  go_enter Tryz.func17, Tryz.ntmps17
  go_wp2_with fail
  go_loopw [9] (fun vi wr => ∃ k : Nat, k ≤ l.length ∧ vi = .int .i64 k ∧ AllOk (l.take k) ∧ ∃ fv, NSet w0 N fv pl sv ((l.take k).map firstF) wr) (fun vi _ => l.length - (intOf vi).toNat)
  case atStart => exact ⟨0, Nat.zero_le _, rfl, fun i hi => (by simp at hi), ⟨_, H0.out⟩⟩
  case round =>
    obtain ⟨k, hk, rfl, hall, fv, hm⟩ := hrel
    have HA := Lib.hid hall
    have HM := Lib.hid hm
    clear hall hm
    by_cases hlt : k < l.length
    case neg =>
      have HF : Hid (Stops l l.length ∧ ∃ fv, NSet w0 N fv pl sv ((l.take l.length).map firstF) wr) := Lib.hid (by
        obtain rfl : k = l.length := by omega
        exact ⟨⟨Nat.le_refl _, HA.out, fun h => absurd h (Nat.lt_irrefl _)⟩, _, HM.out⟩)
      go_wp2_with fail
      go_ret
      exact ⟨_, rfl, HF.out⟩
    obtain ⟨b, of, rfl, hd⟩ := (HV.out wr HM.out.bel).at k hlt
    obtain ⟨xk, xs⟩ := HX.out _ (List.getElem_mem hlt)
    have HT := Lib.hid (show l.take (k + 1) = l.take k ++ [l[k]] from List.take_succ_eq_append_getElem hlt)
    have HST := Lib.hid (fun (h : ¬ okP l[k] (l.take k)) => (⟨by omega, HA.out, fun _ => h⟩ : Stops l k))
    generalize l[k] = x at *
    have CF := Lib.hid (fun W => first_any x W xk)
    have HOK := Lib.hid (okS_iff x (l.take k))
    have CA := Lib.hid (fun W (h : Below wr.heap.size wr W) => add_any (HM.out.later h) (firstF x) (by rw [List.length_map, List.length_take]; omega) (by show x.sh.size ≤ _; omega))
    obtain ⟨nm, sh, kd, on, n, tx⟩ := x
    simp only at xk xs
    obtain ⟨d0, d1, d2, d3, d4, d5⟩ := hd
    simp only at d0 d1 d2 d3 d4 d5
    have blt := lt_of_cell d0
    simp only [NFlag.cells, DefD.cells, firstF, List.cons_append, List.nil_append] at CF CA
    obtain ⟨val, hval⟩ : ∃ val, valF ⟨nm, sh, kd, on, n, tx⟩ = val := ⟨_, rfl⟩
    rw [hval] at CA
    have CF := Lib.hid (fun W => by have := CF.out W; rw [hval] at this; exact this)
    have HVAL := Lib.hid hval
    clear hval
    have HB : Hid (Below wr.heap.size wr (wr.alloc (.cells #[.string nm, .string sh, .int .i64 kd, .bool on, .int .i64 n, .string tx] 50))) := Lib.hid ((Below.refl _ _).alloc (Nat.le_refl _) _)
    go_wp2_with fail
    refine (CF.out _).mono ?_
    rintro e w2 ⟨rfl, hb2⟩
    have hb2' : Below wr.heap.size wr w2 := HB.out.trans (hb2.mono HB.out.size)
    have CA2 := Lib.hid (CA.out _ hb2')
    clear CA CF hb2 hb2' d0 d1 d2 d3 d4 d5 blt
    go_wp2_with fail
    refine CA2.out.mono ?_
    rintro e w4 ⟨hy, hn⟩
    by_cases ok : okP ⟨nm, sh, kd, on, n, tx⟩ (l.take k)
    · obtain ⟨rfl, fv', h4⟩ := hy (HOK.out.2 ok)
      have H4 := Lib.hid h4
      clear hy hn h4 CA2
      go_wp2_with fail
      go_roundw
      case rel =>
        refine ⟨k + 1, by omega, by go_num, ?_, fv', ?_⟩
        · rw [HT.out]; exact allOk_snoc HA.out ok
        · rw [HT.out, List.map_append]
          have := H4.out
          rw [← HVAL.out] at this
          exact this
      case measure => simp [intOf]; omega
    · obtain ⟨rfl, h4⟩ := hn (fun h => ok (HOK.out.1 h))
      have H4 := Lib.hid (show Stops l k ∧ ∃ fv, NSet w0 N fv pl sv ((l.take k).map firstF) w4 from ⟨HST.out ok, _, h4⟩)
      clear hy hn h4 CA2
      go_wp2_with fail
      go_ret
      exact ⟨_, rfl, H4.out⟩
end Go.Proofs.YtmmkebdaijmpiaaGreat
