/- The walk of given14: lists of what was given, one behind the other; how far -- may stand. -/
import Derived.Test.YtcpjdgbnfjdakaaGrows
import Derived.Test.YtcpjdgbnfjdakaaOg
namespace Go.Proofs.Ytcpjdgbnfjdakaa
open Go.RowKit
set_option linter.unusedVariables false
set_option linter.unusedSimpArgs false

/-- An append of what was given to a row of one's own. -/
theorem wpList_append_givens {P : Program} {w : World} {ops : Array Oper} {rest : List Oper} {o : Oper} {a : Act} {Q : Exit → Act → World → Prop} (hgd : o.guard = none) (s x : Operand) (t : TypeId)
    (ho : o.op = .call { callee := .builtin .append, args := #[s, x], argTypes := #[t, t] })
    (base : Nat) (e : TypeId) (i : TypeInfo) (z : Value) (bytes : Nat) (ht : P.underlying t = some (.slice e)) (hi : P.info? e = some i) (hz : i.zero = some z)
    (hsize : i.size = 2) (hby : i.bytes = bytes) (hzs : z.cells.size = 2)
    (v : Value) (n : Nat) (xs : List Value) (hs : a.eval s = v) (hown : w.ownsRow base e 2 v n xs)
    (xv : Value) (g : List (Nat × ByteArray)) (hx : a.eval x = xv) (hS : Givens w xv g)
    (h63 : n + g.length ≤ maxLen) (hbytes : (n + g.length) * bytes ≤ 140737488355328) (hbase : base ≤ w.heap.size)
    (h : ∀ v' w', w'.ownsRow base e 2 v' (n + g.length) (xs ++ flat g) → w.grownBy w' v.ownBlock → wpList P ops Q rest (a.put o.dst v') w') :
    wpList P ops Q (o :: rest) a w := by
  obtain ⟨a0, cap, rfl, hcap, hS⟩ := hS
  have hfl := flat_length g
  rcases hS with rfl | ⟨b, off, cs, ty, fz, rfl, hb, hc⟩
  · cases a0 with
    | some A => exact wpList_append_own_at w hgd s x t ho base e i z 2 bytes ht hi hz hsize hby hzs (by omega) v n xs hs hown A 0 cap [] hx (by simp) (by intro j u hj; simp at hj) (by simp) (by simpa using h63) (by simpa using hbytes) hbase (fun v' w' h1 h2 _ _ => h v' w' h1 h2)
    | none =>
      refine wpList_plain hgd fun K hK => ?_
      have hr := run_append_none (P := P) (w := w) t o.type base e i ht hi 2 v n xs hown cap
      unfold Oper.wp execOp
      simp only [ho, resolve, invoke, builtin, Sem.run_bind, Sem.run_pure, Result.andThen_ok, List.map_toArray, List.map_cons, List.map_nil, hs, hx, hr, List.length_nil]
      exact hK _ _ (h v w (by simpa [flat] using hown) ⟨rfl, rfl, rfl, Nat.le_refl _, fun _ _ _ => rfl⟩)
  · refine wpList_append_own_at w hgd s x t ho base e i z 2 bytes ht hi hz hsize hby hzs (by omega) v n xs hs hown ⟨b, off, none⟩ g.length cap (flat g) hx hfl ?_ (flat_oneCell g) h63 hbytes hbase (fun v' w' h1 h2 _ _ => h v' w' h1 h2)
    intro j u hj
    have hlt : j < g.length * 2 := by
      have := (List.getElem?_eq_some_iff.1 hj).1
      omega
    have hadd : (⟨b, off, none⟩ : Addr).add j = ⟨b, off + j, none⟩ := by simp [Addr.add]
    rw [hadd]
    obtain ⟨q1, q2⟩ := flat_get g (j / 2) (by omega)
    obtain ⟨p1, p2⟩ := hc (j / 2) (by omega)
    rcases Nat.mod_two_eq_zero_or_one j with hm | hm
    · have e : j / 2 * 2 = j := by omega
      rw [e, hj] at q1
      rw [e] at p1
      simp [World.cell?, hb, p1, q1]
    · have e : j / 2 * 2 + 1 = j := by omega
      rw [e, hj] at q2
      rw [Nat.add_assoc, e] at p2
      simp [World.cell?, hb, p2, q2]

theorem flat_append (a b : List (Nat × ByteArray)) : flat (a ++ b) = flat a ++ flat b := by simp [flat]

/-- A slice value reads as rows of what was given. -/
def GivRows (w : World) (v : Value) (ls : List (List (Nat × ByteArray))) : Prop :=
  ∃ a cap, v = .slice a ls.length cap ∧ (ls = [] ∨ ∃ b off cs ty fz, a = some ⟨b, off, none⟩ ∧ w.heap[b]? = some (.cells cs ty fz) ∧ ∀ i (h : i < ls.length), ∃ r, cs[off + i]? = some r ∧ Givens w r ls[i])

set_option maxRecDepth 100000 in
set_option maxHeartbeats 400000 in
theorem given14_rows (v : Value) (ls : List (List (Nat × ByteArray))) (w : World) (hv : GivRows w v ls) (hl : ls.length ≤ 2147483647) (hs : ls.flatten.length ≤ 1099511627776) :
    Calls Try.prog 34 #[v] w fun e w' => ∃ rv, e = .returned rv ∧ w'.ownsRow w.heap.size 94 2 rv ls.flatten.length (flat ls.flatten) ∧ Below w.heap.size w w' := by
  obtain ⟨a, cap, rfl, hv⟩ := hv
  obtain ⟨i0, hi0, hz0, hz1, hz2⟩ := info_parts infoG
  have hrow : ∀ w', Below w.heap.size w w' → ∀ i (h : i < ls.length), ∃ b off r, a = some ⟨b, off, none⟩ ∧ w'.cell? ⟨b, off + i, none⟩ = some r ∧ Givens w' r ls[i] := by
    intro w' hb' i h
    rcases hv with hv | ⟨b, off, cs, ty, fz, ha, hb, hc⟩
    · subst hv; simp at h
    · obtain ⟨r, h1, h2⟩ := hc i h
      have hb2 := (hb'.block b (lt_of_block hb)).trans hb
      exact ⟨b, off, r, ha, by simp [World.cell?, hb2, h1], h2.later hb'.block⟩
  have hlen : ∀ k (h : k < ls.length), (ls.take k).flatten.length + ls[k].length = (ls.take (k + 1)).flatten.length ∧ (ls.take (k + 1)).flatten.length ≤ ls.flatten.length := by
    intro k h
    have e : ls.take (k + 1) = ls.take k ++ [ls[k]] := by rw [List.take_succ_eq_append_getElem h]
    refine ⟨by rw [e, List.flatten_append, List.length_append, List.flatten_singleton], ?_⟩
    have := congrArg (fun l => l.flatten.length) (List.take_append_drop (k + 1) ls)
    simp only [List.flatten_append, List.length_append] at this
    omega
  have hflat : ∀ k (h : k < ls.length), flat (ls.take k).flatten ++ flat ls[k] = flat (ls.take (k + 1)).flatten := by
    intro k h
    rw [List.take_succ_eq_append_getElem h, List.flatten_append, flat_append, List.flatten_singleton]
  have HR := Lib.hid hrow
  have HL := Lib.hid hlen
  have HF := Lib.hid hflat
  have HS := Lib.hid hs
  clear hrow hv hlen hflat hs
  go_enter Try.func34, Try.ntmps34
  go_wp2_with fail
  go_loopw [3, 8] (fun vo vi w1 => ∃ k : Nat, k ≤ ls.length ∧ vi = .int .i64 k ∧ Below w.heap.size w w1 ∧ w1.ownsRow w.heap.size 94 2 vo (ls.take k).flatten.length (flat (ls.take k).flatten)) (fun _ vi _ => ls.length - (intOf vi).toNat)
  case atStart => exact ⟨0, Nat.zero_le _, rfl, Below.refl _ _, by simpa [flat] using World.ownsRow_nil w w.heap.size _ 2⟩
  case round =>
    obtain ⟨k, hk, rfl, hbel, hown⟩ := hrel
    obtain ⟨oa, oc, rfl⟩ := row_form hown
    have HB := Lib.hid hbel
    have HO := Lib.hid hown
    clear hbel hown
    by_cases hlt : k < ls.length
    · obtain ⟨b, off, r, rfl, hc, hr⟩ := HR.out _ HB.out k hlt
      obtain ⟨h1, h2⟩ := HL.out k hlt
      have h3 := HF.out k hlt
      have HH3 := Lib.hid h3
      have hs := HS.out
      obtain ⟨ra, rc, rfl, hrc⟩ := hr.len
      have HRR := Lib.hid hr
      have hsz := HB.out.size
      have hcl : (ls.take k).flatten.length + ls[k].length ≤ 1099511627776 := by omega
      have HH1 := Lib.hid h1
      clear hr hrc h3 h1 h2
      generalize ls[k] = row at *
      generalize (ls.take k).flatten = pre at *
      go_wp2_with (
        at_builtin
        refine wpList_append_givens (by rfl) _ _ _ (by rfl) w.heap.size 94 i0 _ 24 Try.underlying30 hi0 hz0 hz1 hz2 rfl (.slice oa pre.length oc) pre.length (flat pre) (by rfl) HO.out
          (.slice ra row.length rc) row (by rfl) HRR.out (by unfold maxLen; omega) (by omega) hsz ?_
        intro nv w5 hown1 hgrow
        obtain ⟨na, nc, rfl⟩ := row_form hown1
        have HOWN := Lib.hid hown1
        have HGROW := Lib.hid hgrow
        clear hown1 hgrow)
      go_roundw
      case rel =>
        refine ⟨k + 1, by omega, by go_num, grown_below HB.out hsz HO.out HGROW.out, ?_⟩
        rw [← HH1.out, ← HH3.out]
        exact HOWN.out
      case measure => simp [intOf]; omega
    · have e : ls.take k = ls := List.take_of_length_le (by omega)
      rw [e] at HO ⊢
      have HE := Lib.hid e
      clear e
      go_wp2_with fail
      go_ret
      exact ⟨_, rfl, HO.out, HB.out⟩

/-- given14 of two lists. -/
theorem given14_any (p : Nat) (g h : List (Nat × ByteArray)) (va vb : Value) (w : World) {fz : Nat × Nat} {ty : TypeId} (hp : w.heap[p]? = some (.cells #[va, vb] ty fz)) (hA : Givens w va g) (hB : Givens w vb h) (hl : (g ++ h).length ≤ 1099511627776) :
    Calls Try.prog 34 #[.slice (some ⟨p, 0, none⟩) 2 2] w fun e w' => ∃ rv, e = .returned rv ∧ w'.ownsRow w.heap.size 94 2 rv (g ++ h).length (flat (g ++ h)) ∧ Below w.heap.size w w' := by
  have e : [g, h].flatten = g ++ h := by simp
  have q := given14_rows (.slice (some ⟨p, 0, none⟩) 2 2) [g, h] w ⟨_, _, rfl, .inr ⟨p, 0, _, ty, fz, rfl, hp, fun i hi => by
    match i, hi with
    | 0, _ => exact ⟨va, rfl, hA⟩
    | 1, _ => exact ⟨vb, rfl, hB⟩⟩⟩ (by simp) (by rw [e]; exact hl)
  rw [e] at q
  exact q

theorem goesN_dash_le (s : SetD) (w : Way) : ∀ (n : Nat) (l) (r : RunD), r.dash ≤ (r.args.length : Int) → (goesN s w n l r).dash ≤ ((goesN s w n l r).args.length : Int)
  | 0, l, r, h => by cases l <;> exact h
  | n + 1, [], r, h => h
  | n + 1, x :: l, r, h => by
    have hs := goesN_dash_le s w n l { r with args := r.args ++ [x] } (by simp only [List.length_append, List.length_singleton]; omega)
    have hl := goesN_dash_le s w n (longF s w x l r).2 (longF s w x l r).1 (by rw [longF_dash, longF_args]; exact h)
    have hh := goesN_dash_le s w n (shortsF s w (x.extract 1 x.size) l r).2 (shortsF s w (x.extract 1 x.size) l r).1 (by rw [shortsF_dash, show (shortsF s w (x.extract 1 x.size) l r).1.args = r.args from shortsN_args s w l _ _ _ _]; exact h)
    rw [goesN]
    split
    · exact h
    · split
      · split
        · simp only [List.length_append, List.length_cons]; omega
        · exact hs
      · split
        · split
          · simp only [List.length_append]; omega
          · exact hl
        · exact hh
end Go.Proofs.Ytcpjdgbnfjdakaa
