/- Small functions of the laws: lists of texts behind each other, a flag's place, its long argument. -/
import Derived.Test.YtcpjdgbnfjdakaaSameL
import Derived.Deep.RegionHeld3
namespace Go.Proofs.Ytcpjdgbnfjdakaa
open Go.RowKit
set_option linter.unusedVariables false
set_option linter.unusedSimpArgs false

/-- Nothing is appended from a nil slice. -/
theorem run_append_none {P : Program} {w : World} (t ty : TypeId) (base : Nat) (e : TypeId) (i : TypeInfo) (ht : P.underlying t = some (.slice e)) (hi : P.info? e = some i) (size : Nat) (v : Value) (n : Nat) (xs : List Value) (hown : w.ownsRow base e size v n xs) (c : Nat) :
    (Builtin.append_ #[t, t] ty #[v, .slice none 0 c]).run P w = .ok v w := by
  rcases hown.2 with ⟨rfl, rfl⟩ | ⟨g, cap, cur, rfl, hbg, hg, hnc, hcm, hcs, htake⟩
  · simp [Builtin.append_, run_underlying ht, sizeOf, typeInfo, hi, Builtin.lenOf, Builtin.firstCells]
  · simp [Builtin.append_, run_underlying ht, sizeOf, typeInfo, hi, Builtin.lenOf, Builtin.firstCells, hnc, storeCells]

/-- An append of a row of texts to a row of one's own. -/
theorem wpList_append_strs {P : Program} {w : World} {ops : Array Oper} {rest : List Oper} {o : Oper} {a : Act} {Q : Exit → Act → World → Prop} (hgd : o.guard = none) (s x : Operand) (t : TypeId)
    (ho : o.op = .call { callee := .builtin .append, args := #[s, x], argTypes := #[t, t] })
    (base : Nat) (e : TypeId) (i : TypeInfo) (z : Value) (bytes : Nat) (ht : P.underlying t = some (.slice e)) (hi : P.info? e = some i) (hz : i.zero = some z)
    (hsize : i.size = 1) (hby : i.bytes = bytes) (hzs : z.cells.size = 1)
    (v : Value) (n : Nat) (xs : List Value) (hs : a.eval s = v) (hown : w.ownsRow base e 1 v n xs)
    (xv : Value) (l : List ByteArray) (hx : a.eval x = xv) (hS : Strs w xv l)
    (h63 : n + l.length ≤ maxLen) (hbytes : (n + l.length) * bytes ≤ 140737488355328) (hbase : base ≤ w.heap.size)
    (h : ∀ v' w', w'.ownsRow base e 1 v' (n + l.length) (xs ++ l.map .string) → w.grownBy w' v.ownBlock → wpList P ops Q rest (a.put o.dst v') w') :
    wpList P ops Q (o :: rest) a w := by
  obtain ⟨a0, cap, rfl, hS⟩ := hS
  rcases hS with rfl | ⟨b, off, cs, ty, fz, rfl, hb, hc⟩
  · cases a0 with
    | some A => exact wpList_append_own_at w hgd s x t ho base e i z 1 bytes ht hi hz hsize hby hzs (by omega) v n xs hs hown A 0 cap [] hx (by simp) (by intro j u hj; simp at hj) (by simp) (by simpa using h63) (by simpa using hbytes) hbase (fun v' w' h1 h2 _ _ => h v' w' h1 h2)
    | none =>
      refine wpList_plain hgd fun K hK => ?_
      have hr := run_append_none (P := P) (w := w) t o.type base e i ht hi 1 v n xs hown cap
      unfold Oper.wp execOp
      simp only [ho, resolve, invoke, builtin, Sem.run_bind, Sem.run_pure, Result.andThen_ok, List.map_toArray, List.map_cons, List.map_nil, hs, hx, hr, List.length_nil]
      exact hK _ _ (h v w (by simpa using hown) ⟨rfl, rfl, rfl, Nat.le_refl _, fun _ _ _ => rfl⟩)
  · refine wpList_append_own_at w hgd s x t ho base e i z 1 bytes ht hi hz hsize hby hzs (by omega) v n xs hs hown ⟨b, off, none⟩ l.length cap (l.map .string) hx (by simp) ?_ (texts_oneCell l) h63 hbytes hbase (fun v' w' h1 h2 _ _ => h v' w' h1 h2)
    intro j u hj
    have hlt : j < l.length := by
      have := (List.getElem?_eq_some_iff.1 hj).1
      simpa using this
    rw [List.getElem?_map, List.getElem?_eq_getElem hlt] at hj
    cases hj
    have : (⟨b, off, none⟩ : Addr).add j = ⟨b, off + j, none⟩ := by simp [Addr.add]
    rw [this]
    simp [World.cell?, hb, hc j hlt]

theorem grown_below {base : Nat} {w w1 w2 : World} {e : TypeId} {size n : Nat} {v : Value} {xs : List Value} (hb : Below base w w1) (hs : base ≤ w1.heap.size) (hrow : w1.ownsRow base e size v n xs) (hg : w1.grownBy w2 v.ownBlock) : Below base w w2 :=
  hb.trans (grownBy_below hg (fun b hb => (ownsRow_cells hrow hb).1) hs)

set_option maxRecDepth 100000 in
set_option maxHeartbeats 400000 in
theorem list14_any (v : Value) (ls : List (List ByteArray)) (w : World) (hv : StrRows w v ls) (hl : ls.length ≤ 2147483647) (hs : ls.flatten.length ≤ 1099511627776) :
    Calls Try.prog 33 #[v] w fun e w' => ∃ rv, e = .returned rv ∧ w'.ownsRow w.heap.size 9 1 rv ls.flatten.length (ls.flatten.map .string) ∧ Below w.heap.size w w' := by
  obtain ⟨a, cap, rfl, hv⟩ := hv
  obtain ⟨i0, hi0, hz0, hz1, hz2⟩ := info_parts infoS
  have hrow : ∀ w', Below w.heap.size w w' → ∀ i (h : i < ls.length), ∃ b off r, a = some ⟨b, off, none⟩ ∧ w'.cell? ⟨b, off + i, none⟩ = some r ∧ Strs w' r ls[i] := by
    intro w' hb' i h
    rcases hv with hv | ⟨b, off, cs, ty, fz, ha, hb, hc⟩
    · subst hv; simp at h
    · obtain ⟨r, h1, h2⟩ := hc i h
      have hb2 := (hb'.block b (lt_of_block hb)).trans hb
      exact ⟨b, off, r, ha, by simp [World.cell?, hb2, h1], h2.later hb'.block⟩
  have hlen : ∀ k (h : k < ls.length), (ls.take k).flatten.length + ls[k].length = (ls.take (k + 1)).flatten.length ∧ (ls.take (k + 1)).flatten.length ≤ ls.flatten.length := by
    intro k h
    have e : ls.take (k + 1) = ls.take k ++ [ls[k]] := by rw [List.take_succ_eq_append_getElem h]
    refine ⟨by rw [e, List.flatten_append, List.length_append, List.flatten_singleton], ?_⟩
    have := congrArg (fun l => l.flatten.length) (List.take_append_drop (k + 1) ls)
    simp only [List.flatten_append, List.length_append] at this
    omega
  have hflat : ∀ k (h : k < ls.length), (ls.take k).flatten.map Value.string ++ ls[k].map Value.string = (ls.take (k + 1)).flatten.map Value.string := by
    intro k h
    rw [List.take_succ_eq_append_getElem h, List.flatten_append, List.map_append, List.flatten_singleton]
  have HR := Lib.hid hrow
  have HL := Lib.hid hlen
  have HF := Lib.hid hflat
  have HS := Lib.hid hs
  clear hrow hv hlen hflat hs
  go_enter Try.func33, Try.ntmps33
  go_wp2_with fail
  go_loopw [3, 8] (fun vo vi w1 => ∃ k : Nat, k ≤ ls.length ∧ vi = .int .i64 k ∧ Below w.heap.size w w1 ∧ w1.ownsRow w.heap.size 9 1 vo (ls.take k).flatten.length ((ls.take k).flatten.map .string)) (fun _ vi _ => ls.length - (intOf vi).toNat)
  case atStart => exact ⟨0, Nat.zero_le _, rfl, Below.refl _ _, by simpa using World.ownsRow_nil w w.heap.size _ 1⟩
  case round =>
    obtain ⟨k, hk, rfl, hbel, hown⟩ := hrel
    obtain ⟨oa, oc, rfl⟩ := row_form hown
    have HB := Lib.hid hbel
    have HO := Lib.hid hown
    clear hbel hown
    by_cases hlt : k < ls.length
    · obtain ⟨b, off, r, rfl, hc, hr⟩ := HR.out _ HB.out k hlt
      obtain ⟨h1, h2⟩ := HL.out k hlt
      have h3 := HF.out k hlt
      have HH3 := Lib.hid h3
      have hs := HS.out
      obtain ⟨ra, rc, rfl⟩ := hr.len
      have HRR := Lib.hid hr
      have hsz := HB.out.size
      have hcl : (ls.take k).flatten.length + ls[k].length ≤ 1099511627776 := by omega
      have HH1 := Lib.hid h1
      clear hr h3 h1 h2
      generalize ls[k] = row at *
      generalize (ls.take k).flatten = pre at *
      go_wp2_with (
        at_builtin
        refine wpList_append_strs (by rfl) _ _ _ (by rfl) w.heap.size 9 i0 _ 16 Try.underlying25 hi0 hz0 hz1 hz2 rfl (.slice oa pre.length oc) pre.length (pre.map .string) (by rfl) HO.out
          (.slice ra row.length rc) row (by rfl) HRR.out (by unfold maxLen; omega) (by omega) hsz ?_
        intro nv w5 hown1 hgrow
        obtain ⟨na, nc, rfl⟩ := row_form hown1
        have HOWN := Lib.hid hown1
        have HGROW := Lib.hid hgrow
        clear hown1 hgrow)
      go_roundw
      case rel =>
        refine ⟨k + 1, by omega, by go_num, grown_below HB.out hsz HO.out HGROW.out, ?_⟩
        rw [← HH1.out, ← HH3.out]
        exact HOWN.out
      case measure => simp [intOf]; omega
    · have e : ls.take k = ls := List.take_of_length_le (by omega)
      rw [e] at HO ⊢
      have HE := Lib.hid e
      clear e
      go_wp2_with fail
      go_ret
      exact ⟨_, rfl, HO.out, HB.out⟩
end Go.Proofs.Ytcpjdgbnfjdakaa
