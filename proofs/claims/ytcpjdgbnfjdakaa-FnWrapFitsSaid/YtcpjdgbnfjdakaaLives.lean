/- Small functions of the laws; variables that hold what was heard. -/
import Derived.Test.YtcpjdgbnfjdakaaSameL
import Derived.Deep.RegionHeld3
import Derived.Test.YtcpjdgbnfjdakaaImplQ
namespace Go.Proofs.Ytcpjdgbnfjdakaa
open Go.RowKit
set_option linter.unusedVariables false
set_option linter.unusedSimpArgs false

/-- Nothing is appended from a nil slice. -/
theorem run_append_none {P : Program} {w : World} (t ty : TypeId) (base : Nat) (e : TypeId) (i : TypeInfo) (ht : P.underlying t = some (.slice e)) (hi : P.info? e = some i) (size : Nat) (v : Value) (n : Nat) (xs : List Value) (hown : w.ownsRow base e size v n xs) (c : Nat) :
    (Builtin.append_ #[t, t] ty #[v, .slice none 0 c]).run P w = .ok v w := by
  rcases hown.2 with ⟨rfl, rfl⟩ | ⟨g, cap, cur, rfl, hbg, hg, hnc, hcm, hcs, htake⟩
  · simp [Builtin.append_, run_underlying ht, sizeOf, typeInfo, hi, Builtin.lenOf, Builtin.firstCells]
  · simp [Builtin.append_, run_underlying ht, sizeOf, typeInfo, hi, Builtin.lenOf, Builtin.firstCells, hnc, storeCells]

/-- An append of a row of texts to a row of one's own. -/
theorem wpList_append_strs {P : Program} {w : World} {ops : Array Oper} {rest : List Oper} {o : Oper} {a : Act} {Q : Exit → Act → World → Prop} (hgd : o.guard = none) (s x : Operand) (t : TypeId)
    (ho : o.op = .call { callee := .builtin .append, args := #[s, x], argTypes := #[t, t] })
    (base : Nat) (e : TypeId) (i : TypeInfo) (z : Value) (bytes : Nat) (ht : P.underlying t = some (.slice e)) (hi : P.info? e = some i) (hz : i.zero = some z)
    (hsize : i.size = 1) (hby : i.bytes = bytes) (hzs : z.cells.size = 1)
    (v : Value) (n : Nat) (xs : List Value) (hs : a.eval s = v) (hown : w.ownsRow base e 1 v n xs)
    (xv : Value) (l : List ByteArray) (hx : a.eval x = xv) (hS : Strs w xv l)
    (h63 : n + l.length ≤ maxLen) (hbytes : (n + l.length) * bytes ≤ 140737488355328) (hbase : base ≤ w.heap.size)
    (h : ∀ v' w', w'.ownsRow base e 1 v' (n + l.length) (xs ++ l.map .string) → w.grownBy w' v.ownBlock → wpList P ops Q rest (a.put o.dst v') w') :
    wpList P ops Q (o :: rest) a w := by
  obtain ⟨a0, cap, rfl, hS⟩ := hS
  rcases hS with rfl | ⟨b, off, cs, ty, fz, rfl, hb, hc⟩
  · cases a0 with
    | some A => exact wpList_append_own_at w hgd s x t ho base e i z 1 bytes ht hi hz hsize hby hzs (by omega) v n xs hs hown A 0 cap [] hx (by simp) (by intro j u hj; simp at hj) (by simp) (by simpa using h63) (by simpa using hbytes) hbase (fun v' w' h1 h2 _ _ => h v' w' h1 h2)
    | none =>
      refine wpList_plain hgd fun K hK => ?_
      have hr := run_append_none (P := P) (w := w) t o.type base e i ht hi 1 v n xs hown cap
      unfold Oper.wp execOp
      simp only [ho, resolve, invoke, builtin, Sem.run_bind, Sem.run_pure, Result.andThen_ok, List.map_toArray, List.map_cons, List.map_nil, hs, hx, hr, List.length_nil]
      exact hK _ _ (h v w (by simpa using hown) ⟨rfl, rfl, rfl, Nat.le_refl _, fun _ _ _ => rfl⟩)
  · refine wpList_append_own_at w hgd s x t ho base e i z 1 bytes ht hi hz hsize hby hzs (by omega) v n xs hs hown ⟨b, off, none⟩ l.length cap (l.map .string) hx (by simp) ?_ (texts_oneCell l) h63 hbytes hbase (fun v' w' h1 h2 _ _ => h v' w' h1 h2)
    intro j u hj
    have hlt : j < l.length := by
      have := (List.getElem?_eq_some_iff.1 hj).1
      simpa using this
    rw [List.getElem?_map, List.getElem?_eq_getElem hlt] at hj
    cases hj
    have : (⟨b, off, none⟩ : Addr).add j = ⟨b, off + j, none⟩ := by simp [Addr.add]
    rw [this]
    simp [World.cell?, hb, hc j hlt]

theorem grown_below {base : Nat} {w w1 w2 : World} {e : TypeId} {size n : Nat} {v : Value} {xs : List Value} (hb : Below base w w1) (hs : base ≤ w1.heap.size) (hrow : w1.ownsRow base e size v n xs) (hg : w1.grownBy w2 v.ownBlock) : Below base w w2 :=
  hb.trans (grownBy_below hg (fun b hb => (ownsRow_cells hrow hb).1) hs)

set_option maxRecDepth 100000 in
set_option maxHeartbeats 400000 in
theorem list14_any (v : Value) (ls : List (List ByteArray)) (w : World) (hv : StrRows w v ls) (hl : ls.length ≤ 2147483647) (hs : ls.flatten.length ≤ 1099511627776) :
    Calls Try.prog 33 #[v] w fun e w' => ∃ rv, e = .returned rv ∧ w'.ownsRow w.heap.size 9 1 rv ls.flatten.length (ls.flatten.map .string) ∧ Below w.heap.size w w' := by
  obtain ⟨a, cap, rfl, hv⟩ := hv
  obtain ⟨i0, hi0, hz0, hz1, hz2⟩ := info_parts infoS
  have hrow : ∀ w', Below w.heap.size w w' → ∀ i (h : i < ls.length), ∃ b off r, a = some ⟨b, off, none⟩ ∧ w'.cell? ⟨b, off + i, none⟩ = some r ∧ Strs w' r ls[i] := by
    intro w' hb' i h
    rcases hv with hv | ⟨b, off, cs, ty, fz, ha, hb, hc⟩
    · subst hv; simp at h
    · obtain ⟨r, h1, h2⟩ := hc i h
      have hb2 := (hb'.block b (lt_of_block hb)).trans hb
      exact ⟨b, off, r, ha, by simp [World.cell?, hb2, h1], h2.later hb'.block⟩
  have hlen : ∀ k (h : k < ls.length), (ls.take k).flatten.length + ls[k].length = (ls.take (k + 1)).flatten.length ∧ (ls.take (k + 1)).flatten.length ≤ ls.flatten.length := by
    intro k h
    have e : ls.take (k + 1) = ls.take k ++ [ls[k]] := by rw [List.take_succ_eq_append_getElem h]
    refine ⟨by rw [e, List.flatten_append, List.length_append, List.flatten_singleton], ?_⟩
    have := congrArg (fun l => l.flatten.length) (List.take_append_drop (k + 1) ls)
    simp only [List.flatten_append, List.length_append] at this
    omega
  have hflat : ∀ k (h : k < ls.length), (ls.take k).flatten.map Value.string ++ ls[k].map Value.string = (ls.take (k + 1)).flatten.map Value.string := by
    intro k h
    rw [List.take_succ_eq_append_getElem h, List.flatten_append, List.map_append, List.flatten_singleton]
  have HR := Lib.hid hrow
  have HL := Lib.hid hlen
  have HF := Lib.hid hflat
  have HS := Lib.hid hs
  clear hrow hv hlen hflat hs
  go_enter Try.func33, Try.ntmps33
  go_wp2_with fail
  go_loopw [3, 8] (fun vo vi w1 => ∃ k : Nat, k ≤ ls.length ∧ vi = .int .i64 k ∧ Below w.heap.size w w1 ∧ w1.ownsRow w.heap.size 9 1 vo (ls.take k).flatten.length ((ls.take k).flatten.map .string)) (fun _ vi _ => ls.length - (intOf vi).toNat)
  case atStart => exact ⟨0, Nat.zero_le _, rfl, Below.refl _ _, by simpa using World.ownsRow_nil w w.heap.size _ 1⟩
  case round =>
    obtain ⟨k, hk, rfl, hbel, hown⟩ := hrel
    obtain ⟨oa, oc, rfl⟩ := row_form hown
    have HB := Lib.hid hbel
    have HO := Lib.hid hown
    clear hbel hown
    by_cases hlt : k < ls.length
    · obtain ⟨b, off, r, rfl, hc, hr⟩ := HR.out _ HB.out k hlt
      obtain ⟨h1, h2⟩ := HL.out k hlt
      have h3 := HF.out k hlt
      have HH3 := Lib.hid h3
      have hs := HS.out
      obtain ⟨ra, rc, rfl⟩ := hr.len
      have HRR := Lib.hid hr
      have hsz := HB.out.size
      have hcl : (ls.take k).flatten.length + ls[k].length ≤ 1099511627776 := by omega
      have HH1 := Lib.hid h1
      clear hr h3 h1 h2
      generalize ls[k] = row at *
      generalize (ls.take k).flatten = pre at *
      go_wp2_with (
        at_builtin
        refine wpList_append_strs (by rfl) _ _ _ (by rfl) w.heap.size 9 i0 _ 16 Try.underlying25 hi0 hz0 hz1 hz2 rfl (.slice oa pre.length oc) pre.length (pre.map .string) (by rfl) HO.out
          (.slice ra row.length rc) row (by rfl) HRR.out (by unfold maxLen; omega) (by omega) hsz ?_
        intro nv w5 hown1 hgrow
        obtain ⟨na, nc, rfl⟩ := row_form hown1
        have HOWN := Lib.hid hown1
        have HGROW := Lib.hid hgrow
        clear hown1 hgrow)
      go_roundw
      case rel =>
        refine ⟨k + 1, by omega, by go_num, grown_below HB.out hsz HO.out HGROW.out, ?_⟩
        rw [← HH1.out, ← HH3.out]
        exact HOWN.out
      case measure => simp [intOf]; omega
    · have e : ls.take k = ls := List.take_of_length_le (by omega)
      rw [e] at HO ⊢
      have HE := Lib.hid e
      clear e
      go_wp2_with fail
      go_ret
      exact ⟨_, rfl, HO.out, HB.out⟩

theorem flag14_any (fa : Option Addr) (n fc : Nat) (p u fold : Value) (i : Int) (w : World) (hn : n ≤ 2147483647) :
    Calls Try.prog 38 #[.agg #[.slice fa n fc, p, u, fold], .int .i64 i] w fun e w' => e = .returned (.bool (decide (0 ≤ i) && decide (i < (n : Int)))) ∧ Below w.heap.size w w' := by
  go_enter Try.func38, Try.ntmps38
  by_cases h0 : 0 ≤ i
  · by_cases h1 : i < (n : Int)
    · have e1 : decide (0 ≤ i) = true := decide_eq_true h0
      have e2 : decide (i < (n : Int)) = true := decide_eq_true h1
      rw [e1, e2]
      go_wp2_with fail
      go_ret
      exact ⟨rfl, by (repeat (first | (with_reducible exact Below.refl _ _) | (with_reducible assumption) | ((with_reducible refine Below.alloc ?_ ?_ _); rotate_left; focus ((try simp only [World.size_alloc, size_setCell, World.heap_drewN]); (try omega); done)) | ((with_reducible refine Below.setCell ?_ ?_ _); rotate_left; focus ((try simp only [World.size_alloc, size_setCell, World.heap_drewN]); (try omega); done)) | (with_reducible refine Below.drewN' ?_) | (with_reducible refine Below.drew ?_)))⟩
    · have e1 : decide (0 ≤ i) = true := decide_eq_true h0
      have e2 : decide (i < (n : Int)) = false := decide_eq_false h1
      rw [e1, e2]
      go_wp2_with fail
      go_ret
      exact ⟨rfl, by (repeat (first | (with_reducible exact Below.refl _ _) | (with_reducible assumption) | ((with_reducible refine Below.alloc ?_ ?_ _); rotate_left; focus ((try simp only [World.size_alloc, size_setCell, World.heap_drewN]); (try omega); done)) | ((with_reducible refine Below.setCell ?_ ?_ _); rotate_left; focus ((try simp only [World.size_alloc, size_setCell, World.heap_drewN]); (try omega); done)) | (with_reducible refine Below.drewN' ?_) | (with_reducible refine Below.drew ?_)))⟩
  · have e1 : decide (0 ≤ i) = false := decide_eq_false h0
    rw [e1]
    go_wp2_with fail
    go_ret
    exact ⟨rfl, by (repeat (first | (with_reducible exact Below.refl _ _) | (with_reducible assumption) | ((with_reducible refine Below.alloc ?_ ?_ _); rotate_left; focus ((try simp only [World.size_alloc, size_setCell, World.heap_drewN]); (try omega); done)) | ((with_reducible refine Below.setCell ?_ ?_ _); rotate_left; focus ((try simp only [World.size_alloc, size_setCell, World.heap_drewN]); (try omega); done)) | (with_reducible refine Below.drewN' ?_) | (with_reducible refine Below.drew ?_)))⟩

/-- The long argument that gives a flag a value. -/
def longT (name value : ByteArray) : ByteArray := ((⟨#[45, 45]⟩ ++ name) ++ ⟨#[61]⟩) ++ value

theorem long14_any (fv : Value) (fs : List FlagD) (p u fold : Value) (k : Nat) (value : ByteArray) (w : World) (hv : FlagRows w fv fs) (hk : k < fs.length) (hl : fs.length ≤ 2147483647) (hn : fs[k].name.size ≤ 2147483647) (hvs : value.size ≤ 2147483647) :
    Calls Try.prog 39 #[.agg #[fv, p, u, fold], .int .i64 k, .string value] w fun e w' => e = .returned (.string (longT fs[k].name value)) ∧ Below w.heap.size w w' := by
  obtain ⟨a, cap, rfl⟩ := hv.len
  obtain ⟨b, off, ba, bc, rfl, hb, q0, -⟩ := hv.row hk
  have q : (w.alloc (.cells #[.slice (some ⟨b, off, none⟩) fs.length cap, p, u, fold] 24)).cell? ⟨b, off + k * 4, none⟩ = some (.string fs[k].name) := (World.cell?_alloc_past _ b _ hb).trans q0
  generalize fs[k].name = name at *
  clear hv q0
  have n1 : ¬ 9223372036854775807 < 2 + name.size := by omega
  have n2 : ¬ 9223372036854775807 < 2 + name.size + 1 := by omega
  have n3 : ¬ 9223372036854775807 < 2 + name.size + 1 + value.size := by omega
  clear hn hvs
  go_enter Try.func39, Try.ntmps39
  go_wp2_with fail
  go_ret
  exact ⟨rfl, by (repeat (first | (with_reducible exact Below.refl _ _) | (with_reducible assumption) | ((with_reducible refine Below.alloc ?_ ?_ _); rotate_left; focus ((try simp only [World.size_alloc, size_setCell, World.heap_drewN]); (try omega); done)) | ((with_reducible refine Below.setCell ?_ ?_ _); rotate_left; focus ((try simp only [World.size_alloc, size_setCell, World.heap_drewN]); (try omega); done)) | (with_reducible refine Below.drewN' ?_) | (with_reducible refine Below.drew ?_)))⟩

/-- The set of lives14. -/
def livesF : FlagD := ⟨⟨#[110, 117, 109]⟩, ⟨#[110]⟩, ⟨#[]⟩, []⟩
theorem lives_goes : goesF (setD [livesF] false false 0) .sets [⟨#[45, 110, 53]⟩, ⟨#[120]⟩] begin0 = ⟨.none, [(0, ⟨#[53]⟩)], [⟨#[120]⟩], -1⟩ := by kernel_rfl

theorem byteO_one (f : ByteArray) (c : UInt8) : byteO ⟨#[c]⟩ 0 = some c := rfl

theorem lives_right : RightP (setD [livesF] false false 0) [livesF] := by
  refine ⟨fun i j f g hf hg _ => ?_, fun i f hf => ?_, fun i j f g c hf hg _ _ => ?_, fun i f hf => ?_, by decide⟩
  · have h1 := (List.getElem?_eq_some_iff.1 hf).1
    have h2 := (List.getElem?_eq_some_iff.1 hg).1
    simp only [List.length_singleton] at h1 h2; omega
  · have := List.mem_of_getElem? hf
    simp only [List.mem_singleton] at this
    subst this
    exact .inr rfl
  · have h1 := (List.getElem?_eq_some_iff.1 hf).1
    have h2 := (List.getElem?_eq_some_iff.1 hg).1
    simp only [List.length_singleton] at h1 h2; omega
  · have := List.mem_of_getElem? hf
    simp only [List.mem_singleton] at this
    subst this
    exact ⟨by decide, by decide, by decide⟩

set_option maxRecDepth 100000 in
set_option maxHeartbeats 400000 in
theorem lives14_any (w : World) : Calls Try.prog 32 #[] w fun e w' => e = .returned (.bool true) ∧ Below w.heap.size w w' := by
  obtain ⟨w1, hw1⟩ : ∃ w1, (w.alloc (.cells #[.string ⟨#[110, 117, 109]⟩, .string ⟨#[110]⟩, .string ⟨#[]⟩, .slice none 0 0] 62)).alloc (.cells #[.string ⟨#[45, 110, 53]⟩, .string ⟨#[120]⟩] 9) = w1 := ⟨_, rfl⟩
  have hb1 : Below w.heap.size w w1 := by rw [← hw1]; (repeat (first | (with_reducible exact Below.refl _ _) | (with_reducible assumption) | ((with_reducible refine Below.alloc ?_ ?_ _); rotate_left; focus ((try simp only [World.size_alloc, size_setCell, World.heap_drewN]); (try omega); done)) | ((with_reducible refine Below.setCell ?_ ?_ _); rotate_left; focus ((try simp only [World.size_alloc, size_setCell, World.heap_drewN]); (try omega); done)) | (with_reducible refine Below.drewN' ?_) | (with_reducible refine Below.drew ?_)))
  have hF : w1.heap[w.heap.size]? = some (.cells #[.string ⟨#[110, 117, 109]⟩, .string ⟨#[110]⟩, .string ⟨#[]⟩, .slice none 0 0] 62 (0, 0)) := by rw [← hw1]; (repeat (first | (with_reducible assumption) | ((with_reducible refine heap_past' ?_ ?_); focus ((try simp only [World.size_alloc, size_setCell, World.heap_drewN]); (try omega); done)) | ((with_reducible refine heap_at _ _ _ ?_); focus ((try simp only [World.size_alloc, size_setCell, World.heap_drewN]); (try omega); done)) | ((with_reducible refine heap_ne' ?_ ?_); focus ((try simp only [World.size_alloc, size_setCell, World.heap_drewN]); (try omega); done)) | (with_reducible refine heap_drew' ?_)))
  have hT : w1.heap[w.heap.size + 1]? = some (.cells #[.string ⟨#[45, 110, 53]⟩, .string ⟨#[120]⟩] 9 (0, 0)) := by rw [← hw1]; (repeat (first | (with_reducible assumption) | ((with_reducible refine heap_past' ?_ ?_); focus ((try simp only [World.size_alloc, size_setCell, World.heap_drewN]); (try omega); done)) | ((with_reducible refine heap_at _ _ _ ?_); focus ((try simp only [World.size_alloc, size_setCell, World.heap_drewN]); (try omega); done)) | ((with_reducible refine heap_ne' ?_ ?_); focus ((try simp only [World.size_alloc, size_setCell, World.heap_drewN]); (try omega); done)) | (with_reducible refine heap_drew' ?_)))
  have hFR : FlagRows w1 (.slice (some ⟨w.heap.size, 0, none⟩) 1 1) [livesF] := by
    refine ⟨_, _, rfl, .inr ⟨_, 0, _, _, _, rfl, hF, fun i f hf => ?_⟩⟩
    have h1 := (List.getElem?_eq_some_iff.1 hf).1
    have h2 := List.mem_of_getElem? hf
    simp only [List.mem_singleton] at h2
    simp only [List.length_singleton] at h1
    obtain rfl : i = 0 := by omega
    subst h2
    exact ⟨_, rfl, rfl, rfl, rfl, Strs.nil _ _ _⟩
  have hTT : Texts w1 (.slice (some ⟨w.heap.size + 1, 0, none⟩) 2 2) [⟨#[45, 110, 53]⟩, ⟨#[120]⟩] :=
    ⟨Strs.made [⟨#[45, 110, 53]⟩, ⟨#[120]⟩] 2 hT, _, _, _, rfl, Nat.le_refl _⟩
  have C := implParse_any (.slice (some ⟨w.heap.size, 0, none⟩) 1 1) (.slice (some ⟨w.heap.size + 1, 0, none⟩) 2 2) false false 0 (setD [livesF] false false 0) w1 hFR rfl rfl rfl rfl lives_right [⟨#[45, 110, 53]⟩, ⟨#[120]⟩] hTT (by decide) (by decide) (by decide)
  rw [lives_goes] at C
  have HC := Lib.hid C
  clear C hFR hTT hF hT
  go_enter Try.func32, Try.ntmps32
  go_wp2_with fail
  refine HC.out.mono ?_
  rintro e w2 ⟨⟨gv, av, cv, rfl, hg, ht, hc⟩, hb2⟩
  have hb2 := Below.after hb1 hb2
  obtain ⟨g1, g2, rfl, -⟩ := hg.len
  obtain ⟨t1, t2, rfl, -⟩ := ht.len
  obtain ⟨c1, c2, rfl⟩ := hc.len
  obtain ⟨gb, gof, rfl, q1, q2⟩ := hg.cell (i := 0) (by decide)
  obtain ⟨tb, tof, rfl, q3⟩ := ht.strs.cell (by decide)
  have q3 := q3 0 (by decide)
  have l1 := World.block_lt_of_cell? w2 _ q2
  have l2 := World.block_lt_of_cell? w2 _ q3
  simp only [hCells, List.length_singleton, Nat.zero_mul, Nat.add_zero, List.getElem_cons_zero] at q1 q2 q3 l1 l2 ⊢
  clear hg ht hc HC hw1
  go_wp2_with fail
  go_ret
  exact ⟨rfl, hb2.alloc hb2.size _⟩

theorem frozen_of {w : World} {b : Nat} {cells : Array Value} {ty : TypeId} (h : w.heap[b]? = some (.cells cells ty (0, 0))) (i : Nat) : w.frozen? ⟨b, i, none⟩ = false := by simp [World.frozen?, h]
theorem kind_none {x : ErrD} : x.kind = 0 ↔ x.isNone = true := by cases x <;> simp [ErrD.kind, ErrD.isNone]

/-- A fact is laid. -/
theorem lay {T G : Prop} (h : T) (k : T → G) : G := k h
theorem size_drew (w : World) : w.drew.heap.size = w.heap.size := rfl
theorem heap_drew1' {w : World} {n : Nat} {r : Option Obj} (k : w.heap[n]? = r) : w.drew.heap[n]? = r := k
theorem HeardRows.below {w w' : World} {base : Nat} {gv av cv : Value} {r : RunD} {ch : List Nat} (h : HeardRows w base gv av cv r ch) (hb : Below w.heap.size w w') : HeardRows w' base gv av cv r ch :=
  h.at fun b c e _ hc _ => hb.block b (lt_of_block hc)
theorem HeardRows.lower {w : World} {base base' : Nat} {gv av cv : Value} {r : RunD} {ch : List Nat} (h : HeardRows w base gv av cv r ch) (hb : base' ≤ base) : HeardRows w base' gv av cv r ch :=
  ⟨row_lower h.1 hb, row_lower h.2.1 hb, row_lower h.2.2 hb⟩

/-- A variable that holds what was heard. -/
def HeardVar (w0 : World) (base : Nat) (w : World) (v : Value) (r : RunD) (ch : List Nat) : Prop :=
  ∃ B ga gc aa ac ca cc, v = .pointer (some ⟨B, 0, none⟩) ∧ base ≤ B ∧ w.heap[B]? = some (.cells (hCells r.err r.dash true (.slice ga r.given.length gc) (.slice aa r.args.length ac) (.slice ca ch.length cc)) 33 (0, 0)) ∧ HeardRows w 0 (.slice ga r.given.length gc) (.slice aa r.args.length ac) (.slice ca ch.length cc) r ch ∧ Below base w0 w

theorem HeardVar.later {w0 w w' : World} {base : Nat} {v : Value} {r : RunD} {ch : List Nat} (h : HeardVar w0 base w v r ch) (hs : base ≤ w.heap.size) (hb : Below w.heap.size w w') : HeardVar w0 base w' v r ch := by
  obtain ⟨B, ga, gc, aa, ac, ca, cc, e, h1, h2, h3, h4⟩ := h
  exact ⟨B, ga, gc, aa, ac, ca, cc, e, h1, (hb.block _ (lt_of_block h2)).trans h2, h3.below hb, h4.trans (hb.mono hs)⟩

theorem heardVar_new {w0 w' : World} {base b0 : Nat} {r : RunD} {ch : List Nat} {ga aa ca : Option Addr} {gc ac cc : Nat} (hb : Below base w0 w') (hs : base ≤ w'.heap.size) (hr : HeardRows w' b0 (.slice ga r.given.length gc) (.slice aa r.args.length ac) (.slice ca ch.length cc) r ch) :
    HeardVar w0 base (w'.alloc (.cells #[.int .i64 r.err.kind, .string r.err.name, .string r.err.shorts, .string r.err.value, .int .i64 r.err.place, .slice ga r.given.length gc, .slice aa r.args.length ac, .int .i64 r.dash, .slice ca ch.length cc, .bool true, .bool false] 33)) (.pointer (some ⟨w'.heap.size, 0, none⟩)) r ch :=
  ⟨_, ga, gc, aa, ac, ca, cc, rfl, hs, heap_at _ _ _ rfl, (hr.below ((Below.refl _ _).alloc (Nat.le_refl _) _)).lower (Nat.zero_le _), hb.alloc hs _⟩

theorem heardVar_put {w0 w' : World} {base b0 B : Nat} {r : RunD} {ch : List Nat} {ga aa ca : Option Addr} {gc ac cc : Nat} (hb : Below base w0 w') (hB : base ≤ B) (hX : w'.heap[B]? = some (.cells zeroH 33 (0, 0))) (hr : HeardRows w' b0 (.slice ga r.given.length gc) (.slice aa r.args.length ac) (.slice ca ch.length cc) r ch) :
    HeardVar w0 base (((((((((((w'.setCell ⟨B, 0, none⟩ (.int .i64 r.err.kind)).setCell ⟨B, 1, none⟩ (.string r.err.name)).setCell ⟨B, 2, none⟩ (.string r.err.shorts)).setCell ⟨B, 3, none⟩ (.string r.err.value)).setCell ⟨B, 4, none⟩ (.int .i64 r.err.place)).setCell ⟨B, 5, none⟩ (.slice ga r.given.length gc)).setCell ⟨B, 6, none⟩ (.slice aa r.args.length ac)).setCell ⟨B, 7, none⟩ (.int .i64 r.dash)).setCell ⟨B, 8, none⟩ (.slice ca ch.length cc)).setCell ⟨B, 9, none⟩ (.bool true)).setCell ⟨B, 10, none⟩ (.bool false)) (.pointer (some ⟨B, 0, none⟩)) r ch := by
  obtain ⟨hZ, hW, hBW⟩ := put11 hX (.int .i64 r.err.kind) (.string r.err.name) (.string r.err.shorts) (.string r.err.value) (.int .i64 r.err.place) (.slice ga r.given.length gc) (.slice aa r.args.length ac) (.int .i64 r.dash) (.slice ca ch.length cc) (.bool true) (.bool false)
  refine ⟨B, ga, gc, aa, ac, ca, cc, rfl, hB, hZ, (hr.at fun b c e _ hc hne => hW b ?_).lower (Nat.zero_le _), hb.trans (hBW base hB)⟩
  intro e'
  subst e'
  rw [hX] at hc
  cases hc
  exact hne rfl

/-- What a variable that holds what was heard reads as, in later worlds. -/
theorem HeardVar.cells {w0 w : World} {base : Nat} {v : Value} {r : RunD} {ch : List Nat} (h : HeardVar w0 base w v r ch) : ∃ B ga gc aa ac ca cc, v = .pointer (some ⟨B, 0, none⟩) ∧ base ≤ B ∧ (∀ w', Below w.heap.size w w' → w'.cell? ⟨B, 0, none⟩ = some (.int .i64 r.err.kind) ∧ w'.cell? ⟨B, 1, none⟩ = some (.string r.err.name) ∧ w'.cell? ⟨B, 2, none⟩ = some (.string r.err.shorts) ∧ w'.cell? ⟨B, 3, none⟩ = some (.string r.err.value) ∧ w'.cell? ⟨B, 4, none⟩ = some (.int .i64 r.err.place) ∧ w'.cell? ⟨B, 5, none⟩ = some (.slice ga r.given.length gc) ∧ w'.cell? ⟨B, 6, none⟩ = some (.slice aa r.args.length ac) ∧ w'.cell? ⟨B, 7, none⟩ = some (.int .i64 r.dash) ∧ w'.cell? ⟨B, 8, none⟩ = some (.slice ca ch.length cc) ∧ w'.cell? ⟨B, 9, none⟩ = some (.bool true) ∧ w'.cell? ⟨B, 10, none⟩ = some (.bool false)) ∧
    (∀ w', Below w.heap.size w w' → Givens w' (.slice ga r.given.length gc) r.given ∧ Texts w' (.slice aa r.args.length ac) r.args ∧ Ints w' (.slice ca ch.length cc) ch) ∧ Below base w0 w := by
  obtain ⟨B, ga, gc, aa, ac, ca, cc, e, h1, h2, h3, h4⟩ := h
  refine ⟨B, ga, gc, aa, ac, ca, cc, e, h1, fun w' hb => ?_, fun w' hb => ?_, h4⟩
  · have q := (hb.block _ (lt_of_block h2)).trans h2
    exact ⟨cell_of q 0 _ rfl, cell_of q 1 _ rfl, cell_of q 2 _ rfl, cell_of q 3 _ rfl, cell_of q 4 _ rfl, cell_of q 5 _ rfl, cell_of q 6 _ rfl, cell_of q 7 _ rfl, cell_of q 8 _ rfl, cell_of q 9 _ rfl, cell_of q 10 _ rfl⟩
  · obtain ⟨q1, q2, q3⟩ := h3.below hb
    exact ⟨Givens.ofRow q1, Texts.ofRow q2, Ints.ofRow q3⟩

theorem StrRows.made2 {w : World} {b : Nat} {ty : TypeId} {fz : Nat × Nat} {v v' : Value} {l l' : List ByteArray} (cap : Nat) (h : w.heap[b]? = some (.cells #[v, v'] ty fz)) (hr : Strs w v l) (hr' : Strs w v' l') : StrRows w (.slice (some ⟨b, 0, none⟩) 2 cap) [l, l'] :=
  StrRows.made [v, v'] [l, l'] cap h rfl fun i h1 h2 => by
    match i, h1, h2 with
    | 0, _, _ => exact hr
    | 1, _, _ => exact hr'
theorem StrRows.made3 {w : World} {b : Nat} {ty : TypeId} {fz : Nat × Nat} {v v' v'' : Value} {l l' l'' : List ByteArray} (cap : Nat) (h : w.heap[b]? = some (.cells #[v, v', v''] ty fz)) (hr : Strs w v l) (hr' : Strs w v' l') (hr'' : Strs w v'' l'') : StrRows w (.slice (some ⟨b, 0, none⟩) 3 cap) [l, l', l''] :=
  StrRows.made [v, v', v''] [l, l', l''] cap h rfl fun i h1 h2 => by
    match i, h1, h2 with
    | 0, _, _ => exact hr
    | 1, _, _ => exact hr'
    | 2, _, _ => exact hr''
/-- list14 of two rows that lie at a block. -/
theorem list2h_any {A B : List ByteArray} (va vb : Value) (W : World) (p : Nat) {ty : TypeId} {fz : Nat × Nat} (hp : W.heap[p]? = some (.cells #[va, vb] ty fz)) (hA : Strs W va A) (hB : Strs W vb B) (hl : (A ++ B).length ≤ 1099511627776) :
    Calls Try.prog 33 #[.slice (some ⟨p, 0, none⟩) 2 2] W fun e w' => (∃ rv, e = .returned rv ∧ Texts w' rv (A ++ B)) ∧ Below W.heap.size W w' := by
  have e : [A, B].flatten = A ++ B := by simp
  refine (list14_any (.slice (some ⟨p, 0, none⟩) 2 2) [A, B] W (StrRows.made2 2 hp hA hB) (by simp) (by rw [e]; exact hl)).mono ?_
  rintro e' w' ⟨rv, rfl, h1, h2⟩
  rw [e] at h1
  exact ⟨⟨rv, rfl, Texts.ofRow h1⟩, h2⟩
theorem list3h_any {A B C : List ByteArray} (va vb vc : Value) (W : World) (p : Nat) {ty : TypeId} {fz : Nat × Nat} (hp : W.heap[p]? = some (.cells #[va, vb, vc] ty fz)) (hA : Strs W va A) (hB : Strs W vb B) (hC : Strs W vc C) (hl : (A ++ (B ++ C)).length ≤ 1099511627776) :
    Calls Try.prog 33 #[.slice (some ⟨p, 0, none⟩) 3 3] W fun e w' => (∃ rv, e = .returned rv ∧ Texts w' rv (A ++ (B ++ C))) ∧ Below W.heap.size W w' := by
  have e : [A, B, C].flatten = A ++ (B ++ C) := by simp
  refine (list14_any (.slice (some ⟨p, 0, none⟩) 3 3) [A, B, C] W (StrRows.made3 3 hp hA hB hC) (by simp) (by rw [e]; exact hl)).mono ?_
  rintro e' w' ⟨rv, rfl, h1, h2⟩
  rw [e] at h1
  exact ⟨⟨rv, rfl, Texts.ofRow h1⟩, h2⟩
theorem below_alloc1 {w1 w2 : World} (h : Below w1.heap.size w1 w2) (o : Obj) : Below w1.heap.size w1 (w2.alloc o) := h.alloc h.size o
theorem fits_two {l m : List ByteArray} (h : fitsF [l, m] = true) : bytesOf l ≤ 1048576 ∧ bytesOf m ≤ 1048576 := by
  have : bytesOf l + bytesOf m ≤ 1048576 := by simpa [fitsF, bytesOfAll] using h
  omega
theorem bytesOf_append (a b : List ByteArray) : bytesOf (a ++ b) = bytesOf a + bytesOf b := by simp [bytesOf]
end Go.Proofs.Ytcpjdgbnfjdakaa
