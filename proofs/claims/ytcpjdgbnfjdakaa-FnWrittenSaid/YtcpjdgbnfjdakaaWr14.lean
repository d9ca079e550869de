/- The walk of written14: what is written as arguments. (Printed by gen_wr14.py.) -/
import Derived.Test.YtcpjdgbnfjdakaaSaid
import Derived.Deep.RegionHeld3
import Derived.Deep.AppendLies
import Derived.Deep.CutRange
namespace Go.Proofs.Ytcpjdgbnfjdakaa
open Go.RowKit
set_option linter.unusedVariables false
set_option linter.unusedSimpArgs false

/-- The three lists that written14 makes. -/
structure Rows3 (w0 w : World) (va vl vg : Value) (A L : List ByteArray) (G : List (Nat × ByteArray)) : Prop where
  bel : Below w0.heap.size w0 w
  a : w.ownsRow w0.heap.size 9 1 va A.length (A.map .string)
  l : w.ownsRow w0.heap.size 9 1 vl L.length (L.map .string)
  g : w.ownsRow w0.heap.size 94 2 vg G.length (flat G)
  ne : ∀ x, va.ownBlock = some x → vl.ownBlock ≠ some x
theorem Rows3.grow {w0 w w' : World} {va vl vg : Value} {A L : List ByteArray} {G : List (Nat × ByteArray)} (h : Rows3 w0 w va vl vg A L G) (hb : Below w.heap.size w w') : Rows3 w0 w' va vl vg A L G where
  bel := Below.after h.bel hb
  a := ownsRow_at h.a fun g hg => by obtain ⟨_, c, hc⟩ := ownsRow_cells h.a hg; exact hb.block g (lt_of_block hc)
  l := ownsRow_at h.l fun g hg => by obtain ⟨_, c, hc⟩ := ownsRow_cells h.l hg; exact hb.block g (lt_of_block hc)
  g := ownsRow_at h.g fun g hg => by obtain ⟨_, c, hc⟩ := ownsRow_cells h.g hg; exact hb.block g (lt_of_block hc)
  ne := h.ne
theorem own_some (g n c : Nat) : (Value.slice (some ⟨g, 0, none⟩) n c).ownBlock = some g := rfl
theorem Rows3.appA {w0 w w' : World} {va vl vg : Value} {A L : List ByteArray} {G : List (Nat × ByteArray)} (h : Rows3 w0 w va vl vg A L G) {g c m : Nat} (xs : List ByteArray) (hm : xs.length = m) (ho : w'.ownsRow w0.heap.size 9 1 (.slice (some ⟨g, 0, none⟩) (A.length + m) c) (A.length + m) (A.map .string ++ xs.map .string)) (hg : w.grownBy w' va.ownBlock) (hl : va.ownBlock = some g ∨ g = w.heap.size) : Rows3 w0 w' (.slice (some ⟨g, 0, none⟩) (A ++ xs).length c) vl vg (A ++ xs) L G where
  bel := grown_below h.bel h.bel.size h.a hg
  a := by
    rw [List.map_append, List.length_append, hm]
    exact ho
  l := ownsRow_at h.l fun b hb => by
    obtain ⟨_, c, hc⟩ := ownsRow_cells h.l hb
    exact hg.block b (lt_of_block hc) (fun e => h.ne b e.symm hb)
  g := ownsRow_at h.g fun b hb => by
    obtain ⟨_, c, hc⟩ := ownsRow_cells h.g hb
    exact hg.block b (lt_of_block hc) (fun e => by
      obtain ⟨_, c', hc'⟩ := ownsRow_cells h.a e.symm
      rw [hc] at hc'; cases hc')
  ne := fun x hx hl' => by
    rw [own_some] at hx
    cases hx
    rcases hl with q | q
    · exact h.ne _ q hl'
    · obtain ⟨_, c, hc⟩ := ownsRow_cells h.l hl'
      have := lt_of_block hc
      omega
theorem Rows3.appL {w0 w w' : World} {va vl vg : Value} {A L : List ByteArray} {G : List (Nat × ByteArray)} (h : Rows3 w0 w va vl vg A L G) {g c m : Nat} (xs : List ByteArray) (hm : xs.length = m) (ho : w'.ownsRow w0.heap.size 9 1 (.slice (some ⟨g, 0, none⟩) (L.length + m) c) (L.length + m) (L.map .string ++ xs.map .string)) (hg : w.grownBy w' vl.ownBlock) (hl : vl.ownBlock = some g ∨ g = w.heap.size) : Rows3 w0 w' va (.slice (some ⟨g, 0, none⟩) (L ++ xs).length c) vg A (L ++ xs) G where
  bel := grown_below h.bel h.bel.size h.l hg
  a := ownsRow_at h.a fun b hb => by
    obtain ⟨_, c, hc⟩ := ownsRow_cells h.a hb
    exact hg.block b (lt_of_block hc) (fun e => h.ne b hb e.symm)
  l := by
    rw [List.map_append, List.length_append, hm]
    exact ho
  g := ownsRow_at h.g fun b hb => by
    obtain ⟨_, c, hc⟩ := ownsRow_cells h.g hb
    exact hg.block b (lt_of_block hc) (fun e => by
      obtain ⟨_, c', hc'⟩ := ownsRow_cells h.l e.symm
      rw [hc] at hc'; cases hc')
  ne := fun x hx hl' => by
    rw [own_some] at hl'
    cases hl'
    rcases hl with q | q
    · exact h.ne _ hx q
    · obtain ⟨_, c, hc⟩ := ownsRow_cells h.a hx
      have := lt_of_block hc
      omega
theorem Rows3.appG {w0 w w' : World} {va vl vg : Value} {A L : List ByteArray} {G : List (Nat × ByteArray)} (h : Rows3 w0 w va vl vg A L G) {g c : Nat} (x : Nat × ByteArray) (ho : w'.ownsRow w0.heap.size 94 2 (.slice (some ⟨g, 0, none⟩) (G.length + 1) c) (G.length + 1) (flat G ++ [.int .i64 x.1, .string x.2])) (hg : w.grownBy w' vg.ownBlock) : Rows3 w0 w' va vl (.slice (some ⟨g, 0, none⟩) (G ++ [x]).length c) A L (G ++ [x]) where
  bel := grown_below h.bel h.bel.size h.g hg
  a := ownsRow_at h.a fun b hb => by
    obtain ⟨_, c, hc⟩ := ownsRow_cells h.a hb
    exact hg.block b (lt_of_block hc) (fun e => by
      obtain ⟨_, c', hc'⟩ := ownsRow_cells h.g e.symm
      rw [hc] at hc'; cases hc')
  l := ownsRow_at h.l fun b hb => by
    obtain ⟨_, c, hc⟩ := ownsRow_cells h.l hb
    exact hg.block b (lt_of_block hc) (fun e => by
      obtain ⟨_, c', hc'⟩ := ownsRow_cells h.g e.symm
      rw [hc] at hc'; cases hc')
  g := by
    have e : flat (G ++ [x]) = flat G ++ [.int .i64 x.1, .string x.2] := by simp [flat]
    rw [e, List.length_append]
    exact ho
  ne := h.ne
/-- A block of another type behind an append. -/
theorem grown_other {w0 w w' : World} {e : TypeId} {size n : Nat} {v : Value} {xs : List Value} (ho : w.ownsRow w0.heap.size e size v n xs) (hg : w.grownBy w' v.ownBlock) {b : Nat} {c : Array Value} {t : TypeId} {z : Nat × Nat} (hb : w.heap[b]? = some (.cells c t z)) (hne : t ≠ e) : w'.heap[b]? = some (.cells c t z) :=
  (hg.block b (lt_of_block hb) (fun q => row_ne hb ho hne q.symm)).trans hb

/-- Blocks of another type, and new ones, stay. -/
def Keeps (ty : TypeId) (n : Nat) (w w' : World) : Prop := ∀ (b : Nat) (c : Array Value) (t : TypeId) (z : Nat × Nat), w.heap[b]? = some (.cells c t z) → t ≠ ty ∨ n ≤ b → w'.heap[b]? = some (.cells c t z)
theorem news_lies {w : World} {xb : Nat} {cs : Array Value} {ty : TypeId} {z : Nat × Nat} {news : List Value} (h : w.heap[xb]? = some (.cells cs ty z)) (hc : cs.toList = news) : ∀ j u, news[j]? = some u → w.cell? ((⟨xb, 0, none⟩ : Addr).add j) = some u := by
  intro j u hj
  have : (⟨xb, 0, none⟩ : Addr).add j = ⟨xb, j, none⟩ := by unfold Addr.add; split <;> simp_all
  rw [this]
  rw [← hc, Array.getElem?_toList] at hj
  simp [World.cell?, h, hj]
theorem grown_new {w0 w1 w w' : World} {e : TypeId} {size n : Nat} {v : Value} {xs : List Value} (ho : w1.ownsRow w0.heap.size e size v n xs) (hg : w.grownBy w' v.ownBlock) {b : Nat} {c : Array Value} {t : TypeId} {z : Nat × Nat} (hb : w.heap[b]? = some (.cells c t z)) (hle : w1.heap.size ≤ b) : w'.heap[b]? = some (.cells c t z) :=
  (hg.block b (lt_of_block hb) (fun q => by
    obtain ⟨_, c, hc⟩ := ownsRow_cells ho q.symm
    have := lt_of_block hc
    omega)).trans hb
theorem wp_appA {o : Oper} {a : Act} {K : Act → World → Prop} {Q : Exit → Act → World → Prop} {w0 w1 w : World} {aa : Option Addr} {ac : Nat} {vl vg : Value} {A L : List ByteArray} {G : List (Nat × ByteArray)} (s x : Operand) (ho : o.op = .call { callee := .builtin .append, args := #[s, x], argTypes := #[25, 25] })
    (R : Rows3 w0 w1 (.slice aa A.length ac) vl vg A L G) (hb : Below w1.heap.size w1 w) (hs : a.eval s = .slice aa A.length ac) (xb m : Nat) (ts : List ByteArray) (cs : Array Value) (hx : a.eval x = .slice (some ⟨xb, 0, none⟩) m m) (hcs : cs.toList = ts.map .string) (hm : ts.length = m) (h0 : 0 < m) (hA : A.length + m ≤ 1000000000)
    (hnews : w.heap[xb]? = some (.cells cs 9 (0, 0)))
    (h : ∀ g cap w', Rows3 w0 w' (.slice (some ⟨g, 0, none⟩) (A.length + m) cap) vl vg (A ++ ts) L G → Keeps 9 w1.heap.size w w' → K (a.put o.dst (.slice (some ⟨g, 0, none⟩) (A.length + m) cap)) w') : Oper.wp Try.prog o a w K Q := by
  obtain ⟨iS, hiS, hS0, hS1, hS2⟩ := info_parts infoS
  have R' := R.grow hb
  refine wp_append_lies w s x _ ho w0.heap.size 9 iS _ 1 16 Try.underlying25 hiS hS0 hS1 hS2 rfl (by omega) _ A.length (A.map .string) hs R'.a ⟨xb, 0, none⟩ m m (ts.map .string) hx (by simp [hm]) (news_lies hnews hcs) (texts_oneCell ts) h0 (by unfold maxLen; omega) (by omega) R'.bel.size w.heap.size rfl ?_
  intro g cap w' hown hgrow hat hlt
  refine h g cap w' ?_ (fun b c t z hc hne => hne.elim (fun hne => grown_other (w0 := w0) R'.a hgrow hc hne) (fun hle => grown_new R.a hgrow hc hle))
  have := R'.appA ts hm hown hgrow hat
  rw [List.length_append, hm] at this
  exact this
theorem wp_appL {o : Oper} {a : Act} {K : Act → World → Prop} {Q : Exit → Act → World → Prop} {w0 w1 w : World} {la : Option Addr} {lc : Nat} {va vg : Value} {A L : List ByteArray} {G : List (Nat × ByteArray)} (s x : Operand) (ho : o.op = .call { callee := .builtin .append, args := #[s, x], argTypes := #[25, 25] })
    (R : Rows3 w0 w1 va (.slice la L.length lc) vg A L G) (hb : Below w1.heap.size w1 w) (hs : a.eval s = .slice la L.length lc) (xb m : Nat) (ts : List ByteArray) (cs : Array Value) (hx : a.eval x = .slice (some ⟨xb, 0, none⟩) m m) (hcs : cs.toList = ts.map .string) (hm : ts.length = m) (h0 : 0 < m) (hA : L.length + m ≤ 1000000000)
    (hnews : w.heap[xb]? = some (.cells cs 9 (0, 0)))
    (h : ∀ g cap w', Rows3 w0 w' va (.slice (some ⟨g, 0, none⟩) (L.length + m) cap) vg A (L ++ ts) G → Keeps 9 w1.heap.size w w' → K (a.put o.dst (.slice (some ⟨g, 0, none⟩) (L.length + m) cap)) w') : Oper.wp Try.prog o a w K Q := by
  obtain ⟨iS, hiS, hS0, hS1, hS2⟩ := info_parts infoS
  have R' := R.grow hb
  refine wp_append_lies w s x _ ho w0.heap.size 9 iS _ 1 16 Try.underlying25 hiS hS0 hS1 hS2 rfl (by omega) _ L.length (L.map .string) hs R'.l ⟨xb, 0, none⟩ m m (ts.map .string) hx (by simp [hm]) (news_lies hnews hcs) (texts_oneCell ts) h0 (by unfold maxLen; omega) (by omega) R'.bel.size w.heap.size rfl ?_
  intro g cap w' hown hgrow hat hlt
  refine h g cap w' ?_ (fun b c t z hc hne => hne.elim (fun hne => grown_other (w0 := w0) R'.l hgrow hc hne) (fun hle => grown_new R.l hgrow hc hle))
  have := R'.appL ts hm hown hgrow hat
  rw [List.length_append, hm] at this
  exact this
theorem wp_appG {o : Oper} {a : Act} {K : Act → World → Prop} {Q : Exit → Act → World → Prop} {w0 w1 w : World} {ga : Option Addr} {gc : Nat} {va vl : Value} {A L : List ByteArray} {G : List (Nat × ByteArray)} (s x : Operand) (ho : o.op = .call { callee := .builtin .append, args := #[s, x], argTypes := #[30, 30] })
    (R : Rows3 w0 w1 va vl (.slice ga G.length gc) A L G) (hb : Below w1.heap.size w1 w) (hs : a.eval s = .slice ga G.length gc) (xb : Nat) (k : Nat) (v : ByteArray) (hx : a.eval x = .slice (some ⟨xb, 0, none⟩) 1 1) (hA : G.length + 1 ≤ 1000000000)
    (hnews : w.heap[xb]? = some (.cells #[.int .i64 k, .string v] 94 (0, 0)))
    (h : ∀ g cap w', Rows3 w0 w' va vl (.slice (some ⟨g, 0, none⟩) (G.length + 1) cap) A L (G ++ [(k, v)]) → Keeps 94 w1.heap.size w w' → K (a.put o.dst (.slice (some ⟨g, 0, none⟩) (G.length + 1) cap)) w') : Oper.wp Try.prog o a w K Q := by
  obtain ⟨iG, hiG, hG0, hG1, hG2⟩ := info_parts infoG
  have R' := R.grow hb
  refine wp_append_lies w s x _ ho w0.heap.size 94 iG _ 2 24 Try.underlying30 hiG hG0 hG1 hG2 rfl (by omega) _ G.length (flat G) hs R'.g ⟨xb, 0, none⟩ 1 1 [.int .i64 k, .string v] hx rfl (news_lies hnews rfl) (by simp [Value.oneCell']) (by omega) (by unfold maxLen; omega) (by omega) R'.bel.size w.heap.size rfl ?_
  intro g cap w' hown hgrow hat hlt
  refine h g cap w' ?_ (fun b c t z hc hne => hne.elim (fun hne => grown_other (w0 := w0) R'.g hgrow hc hne) (fun hle => grown_new R.g hgrow hc hle))
  have := R'.appG (k, v) hown hgrow
  rw [List.length_append, List.length_singleton] at this
  exact this
theorem step_of {P : Program} {ops : Array Oper} {o : Oper} {a : Act} {w : World} {K : Act → World → Prop} {Q : Exit → Act → World → Prop} {E : Prop} (hgd : o.guard = none) (h : Oper.wp P o a w K Q) : if Region.wanted o (yielded ops a.tmps) = true then Oper.wp P o a w K Q else E := by
  have hw : Region.wanted o (yielded ops a.tmps) = true := by simp [Region.wanted, hgd]
  rw [if_pos hw]
  exact h
theorem list_of {P : Program} {ops : Array Oper} {rest : List Oper} {o : Oper} {a : Act} {w : World} {Q : Exit → Act → World → Prop} (hgd : o.guard = none) (h : Oper.wp P o a w (fun a' w' => wpList P ops Q rest a' w') Q) : wpList P ops Q (o :: rest) a w :=
  wpList_plain hgd fun _ hK => Oper.wp_mono hK h

/-- What written14 answers. -/
def WroteIs (s : SetD) (n : Nat) (w0 : World) (e : Ending) (w : World) : Prop :=
  ∃ av gv lv ok, e = .returned (.tuple #[av, gv, lv, .bool ok]) ∧ (∃ a n c, av = .slice a n c) ∧ (∃ a n c, gv = .slice a n c) ∧ (∃ a n c, lv = .slice a n c) ∧ (ok = true → ∃ A G L, Rows3 w0 w av lv gv A L G ∧ Wrote s A G L ∧ A.length ≤ 2 * n ∧ G.length ≤ n ∧ L.length ≤ n ∧ ∀ t ∈ A, t.size ≤ 1099511627776)
theorem WroteIs.no {s : SetD} {n : Nat} {w0 w : World} : WroteIs s n w0 (.returned (.tuple #[.slice none 0 0, .slice none 0 0, .slice none 0 0, .bool false])) w :=
  ⟨_, _, _, false, rfl, ⟨_, _, _, rfl⟩, ⟨_, _, _, rfl⟩, ⟨_, _, _, rfl⟩, fun h => by cases h⟩
theorem WroteIs.mk_ {s : SetD} {n : Nat} {w0 w : World} {av gv lv : Value} {A : List ByteArray} {G : List (Nat × ByteArray)} {L : List ByteArray} (hs : (∃ a n c, av = .slice a n c) ∧ (∃ a n c, gv = .slice a n c) ∧ (∃ a n c, lv = .slice a n c)) (h : Rows3 w0 w av lv gv A L G ∧ Wrote s A G L ∧ A.length ≤ 2 * n ∧ G.length ≤ n ∧ L.length ≤ n ∧ ∀ t ∈ A, t.size ≤ 1099511627776) : WroteIs s n w0 (.returned (.tuple #[av, gv, lv, .bool true])) w :=
  ⟨_, _, _, true, rfl, hs.1, hs.2.1, hs.2.2, fun _ => ⟨A, G, L, h⟩⟩

set_option maxRecDepth 100000 in
set_option maxHeartbeats 3200000 in
theorem written14_any (fa : Option Addr) (fc : Nat) (plain unk : Bool) (fold : Int) (fs : List FlagD) (sv : Value) (l : List SaidD) (w : World) (hv : FlagRows w (.slice fa fs.length fc) fs) (hS : SmallFs fs) (RP : RightP (setD fs plain unk fold) fs) {F : ByteArray → ByteArray} (RQ' : RQ F fs) (hs : SaidRows w sv l) (hl : l.length ≤ 65536) (ht : ∀ x ∈ l, x.text.size ≤ 2147483647) :
    Calls Try.prog 41 #[.agg #[.slice fa fs.length fc, .bool plain, .bool unk, .int .i64 fold], sv] w fun e w' => WroteIs (setD fs plain unk fold) l.length w e w' ∧ Below w.heap.size w w' := by
  obtain ⟨sa, sc, rfl⟩ := hs.len
  obtain ⟨w1, hw1⟩ : ∃ w1, w.alloc (.cells #[.slice fa fs.length fc, .bool plain, .bool unk, .int .i64 fold] 24) = w1 := ⟨_, rfl⟩
  have hb1 : Below w.heap.size w w1 := by rw [← hw1]; (repeat (first | (with_reducible exact Below.refl _ _) | (with_reducible assumption) | ((with_reducible refine Below.alloc ?_ ?_ _); rotate_left; focus ((try simp only [World.size_alloc, size_setCell, World.heap_drewN]); (try omega); done)) | ((with_reducible refine Below.setCell ?_ ?_ _); rotate_left; focus ((try simp only [World.size_alloc, size_setCell, World.heap_drewN]); (try omega); done)) | (with_reducible refine Below.drewN' ?_) | (with_reducible refine Below.drew ?_)))
  have hX : w1.heap[w.heap.size]? = some (.cells #[.slice fa fs.length fc, .bool plain, .bool unk, .int .i64 fold] 24 (0, 0)) := by rw [← hw1]; exact heap_at _ _ _ rfl
  have HS := Lib.hid (fun W (h : Below w.heap.size w W) => hs.later h.block)
  have HV := Lib.hid (fun W (h : Below w.heap.size w W) => hv.later h.block)
  have HSF := Lib.hid hS
  have HRP := Lib.hid RP
  have HRQ := Lib.hid RQ'
  have HT := Lib.hid ht
  have HSC := Lib.hid (fun (W : World) (h : W.heap[w.heap.size]? = some (.cells #[.slice fa fs.length fc, .bool plain, .bool unk, .int .i64 fold] 24 (0, 0))) => (show W.cell? ⟨w.heap.size, 0, none⟩ = some (.slice fa fs.length fc) ∧ W.cell? ⟨w.heap.size, 1, none⟩ = some (.bool plain) ∧ W.cell? ⟨w.heap.size, 2, none⟩ = some (.bool unk) ∧ W.cell? ⟨w.heap.size, 3, none⟩ = some (.int .i64 fold) from ⟨cell_of h 0 _ rfl, cell_of h 1 _ rfl, cell_of h 2 _ rfl, cell_of h 3 _ rfl⟩))
  obtain ⟨iS, hiS, hS0, hS1, hS2⟩ := info_parts infoS
  obtain ⟨iG, hiG, hG0, hG1, hG2⟩ := info_parts infoG
  have h3 : Rows3 w w1 (.slice none 0 0) (.slice none 0 0) (.slice none 0 0) [] [] [] := ⟨hb1, World.ownsRow_nil _ _ _ _, World.ownsRow_nil _ _ _ _, World.ownsRow_nil _ _ _ _, fun x h => by cases h⟩
  have HW0 := Lib.hid (Wrote.nil (setD fs plain unk fold))
  clear hs hv hS RP RQ' ht
  go_enter Try.func41, Try.ntmps41
  go_wp2_with fail
  go_loopw [8, 9, 10, 16] (fun v8 v9 v10 v16 wr => ∃ (k : Nat) (A : List ByteArray) (G : List (Nat × ByteArray)) (L : List ByteArray), k ≤ l.length ∧ v16 = .int .i64 k ∧ Rows3 w wr v8 v9 v10 A L G ∧ wr.heap[w.heap.size]? = some (.cells #[.slice fa fs.length fc, .bool plain, .bool unk, .int .i64 fold] 24 (0, 0)) ∧ Wrote (setD fs plain unk fold) A G L ∧ A.length ≤ 2 * k ∧ G.length ≤ k ∧ L.length ≤ k ∧ ∀ t ∈ A, t.size ≤ 1099511627776) (fun _ _ _ v16 _ => l.length - (intOf v16).toNat)
  case atStart => exact ⟨0, [], [], [], Nat.zero_le _, rfl, h3, hX, HW0.out, Nat.le_refl _, Nat.le_refl _, Nat.le_refl _, by simp⟩
  case round =>
    obtain ⟨k, A, G, L, hk, rfl, hr, hX, hWr, q1, q2, q3, q4⟩ := hrel
    have HR := Lib.hid hr
    have HX := Lib.hid hX
    have HWr := Lib.hid hWr
    have HQ4 := Lib.hid q4
    obtain ⟨aa, ac, rfl⟩ := row_form hr.a
    obtain ⟨la, lc, rfl⟩ := row_form hr.l
    obtain ⟨ga, gc, rfl⟩ := row_form hr.g
    clear hr hX hWr q4 h3
    by_cases hlt : k < l.length
    case neg =>
      have ek : k = l.length := by omega
      have HFIN : Hid (WroteIs (setD fs plain unk fold) l.length w (.returned (.tuple #[.slice aa A.length ac, .slice ga G.length gc, .slice la L.length lc, .bool true])) wr ∧ Below w.heap.size w wr) := Lib.hid ⟨WroteIs.mk_ ⟨⟨_, _, _, rfl⟩, ⟨_, _, _, rfl⟩, ⟨_, _, _, rfl⟩⟩ ⟨HR.out, HWr.out, by omega, by omega, by omega, HQ4.out⟩, HR.out.bel⟩
      clear ek
      go_wp2_with fail
      exact bodyPost_ret (v := .tuple #[.slice aa A.length ac, .slice ga G.length gc, .slice la L.length lc, .bool true]) (by simp [results, Try.results41, go_sem]) rfl HFIN.out
    obtain ⟨sb, so, rfl, hsb, p0, p1, p2⟩ := (HS.out wr HR.out.bel).row hlt
    have htx := HT.out l[k] (List.getElem_mem hlt)
    generalize l[k] = x at *
    obtain ⟨way, flag, text⟩ := x
    simp only at p0 p1 p2 htx
    have hwz : Below wr.heap.size wr (wr.alloc (.cells #[.int .i64 way, .int .i64 flag, .string text] 109)) := (Below.refl _ _).alloc (Nat.le_refl _) _
    have HR1 := Lib.hid (HR.out.grow hwz)
    have HX1 := Lib.hid ((hwz.block _ (lt_of_block HX.out)).trans HX.out)
    have HY1 := Lib.hid (heap_at wr (.cells #[.int .i64 way, .int .i64 flag, .string text] 109) _ rfl)
    obtain ⟨s0, s1, s2, s3⟩ := HSC.out _ HX1.out
    clear hwz
    have HXX := HX1.out
    have HYY := HY1.out
    have HWD := HR.out.bel.size
    by_cases hw : way < 0 ∨ 3 < way
    · have C := Lib.hid (fun W => bare_any text W)
      have HNO : Hid (WroteIs (setD fs plain unk fold) l.length w (.returned (.tuple #[.slice none 0 0, .slice none 0 0, .slice none 0 0, .bool false])) (wr.alloc (.cells #[.int .i64 way, .int .i64 flag, .string text] 109)) ∧ Below w.heap.size w (wr.alloc (.cells #[.int .i64 way, .int .i64 flag, .string text] 109))) := Lib.hid ⟨WroteIs.no, HR1.out.bel⟩
      have HQN : Hid (∀ t ∈ A ++ [text], t.size ≤ 1099511627776) := Lib.hid (fun t ht => by
        rcases List.mem_append.1 ht with h | h
        · exact HQ4.out t h
        · rw [List.mem_singleton] at h; subst h; omega)
      have HWB : Hid (bareF text = true → plain = false → Wrote (setD fs plain unk fold) (A ++ [text]) G (L ++ [text])) := Lib.hid (fun h1 h2 => HWr.out.bare h1 h2)
      have HSIZ : Hid ((A ++ [text]).length ≤ 2 * (k + 1) ∧ G.length ≤ k + 1 ∧ (L ++ [text]).length ≤ k + 1) := Lib.hid (by simp only [List.length_append, List.length_singleton]; omega)
      by_cases h0 : way < 0
      all_goals first | (have h1 : 3 < way := by omega) | skip
      all_goals first | (have d0 : decide (way < 0) = true := decide_eq_true h0) | (have d0 : decide (way < 0) = false := decide_eq_false h0)
      all_goals first | (have d1 : decide (3 < way) = true := decide_eq_true h1) | skip
      all_goals (go_wp2_with fail)
      all_goals (refine (C.out _).mono ?_; rintro e w2 ⟨rfl, rfl⟩)
      all_goals cases hbf : bareF text
      all_goals cases plain
      all_goals (go_wp2_with fail)
      all_goals first
        | exact bodyPost_ret (v := .tuple #[.slice none 0 0, .slice none 0 0, .slice none 0 0, .bool false]) (by simp [results, Try.results41, go_sem]) rfl HNO.out
        | skip
      all_goals go_region_held3 (fun wx => wx.cell? ⟨wr.heap.size, 2, none⟩ = some (.string text) ∧ wx.heap[w.heap.size]? = some (.cells #[.slice fa fs.length fc, .bool false, .bool unk, .int .i64 fold] 24 (0, 0)))
        (refine ⟨cell_of (cells := #[.int .i64 way, .int .i64 flag, .string text]) (ty := 109) (fz := (0, 0)) ?_ 2 _ rfl, ?_⟩ <;> (((repeat (first | (with_reducible assumption) | ((with_reducible refine heap_past' ?_ ?_); focus ((try simp only [World.size_alloc, size_setCell, World.heap_drewN, size_drew]); (try omega); done)) | ((with_reducible refine heap_at _ _ _ ?_); focus ((try simp only [World.size_alloc, size_setCell, World.heap_drewN, size_drew]); (try omega); done)) | ((with_reducible refine heap_ne' ?_ ?_); focus ((try simp only [World.size_alloc, size_setCell, World.heap_drewN, size_drew]); (try omega); done)) | (with_reducible refine heap_drew' ?_) | (with_reducible refine heap_drew1' ?_))); done)))
        (first
          | (have _q := RL1; refine step_of rfl (wp_appA (.tmp 36) (.tmp 39) rfl RL1 ?_ rfl _ 1 [text] #[.string text] rfl rfl rfl (by omega) (by omega) ?_ ?_); (focus (((repeat (first | (with_reducible exact Below.refl _ _) | (with_reducible assumption) | ((with_reducible refine Below.alloc ?_ ?_ _); rotate_left; focus ((try simp only [World.size_alloc, size_setCell, World.heap_drewN, size_drew]); (try omega); done)) | ((with_reducible refine Below.setCell ?_ ?_ _); rotate_left; focus ((try simp only [World.size_alloc, size_setCell, World.heap_drewN, size_drew]); (try omega); done)) | (with_reducible refine Below.drewN' ?_) | (with_reducible refine Below.drew ?_))); done))); (focus (((repeat (first | (with_reducible assumption) | ((with_reducible refine heap_past' ?_ ?_); focus ((try simp only [World.size_alloc, size_setCell, World.heap_drewN, size_drew]); (try omega); done)) | ((with_reducible refine heap_at _ _ _ ?_); focus ((try simp only [World.size_alloc, size_setCell, World.heap_drewN, size_drew]); (try omega); done)) | ((with_reducible refine heap_ne' ?_ ?_); focus ((try simp only [World.size_alloc, size_setCell, World.heap_drewN, size_drew]); (try omega); done)) | (with_reducible refine heap_drew' ?_) | (with_reducible refine heap_drew1' ?_))); done))); intro gE cE wE RE KE; refine lay (T := wE.heap[wr.heap.size]? = some (.cells #[.int .i64 way, .int .i64 flag, .string text] 109 (0, 0))) ?_ (fun hYE => ?_); (focus (exact KE _ _ _ _ (by ((repeat (first | (with_reducible assumption) | ((with_reducible refine heap_past' ?_ ?_); focus ((try simp only [World.size_alloc, size_setCell, World.heap_drewN, size_drew]); (try omega); done)) | ((with_reducible refine heap_at _ _ _ ?_); focus ((try simp only [World.size_alloc, size_setCell, World.heap_drewN, size_drew]); (try omega); done)) | ((with_reducible refine heap_ne' ?_ ?_); focus ((try simp only [World.size_alloc, size_setCell, World.heap_drewN, size_drew]); (try omega); done)) | (with_reducible refine heap_drew' ?_) | (with_reducible refine heap_drew1' ?_))); done)) (.inl (by decide)))); refine lay (T := wE.heap[w.heap.size]? = some (.cells #[.slice fa fs.length fc, .bool false, .bool unk, .int .i64 fold] 24 (0, 0))) ?_ (fun hXE => ?_); (focus (exact KE _ _ _ _ (by ((repeat (first | (with_reducible assumption) | ((with_reducible refine heap_past' ?_ ?_); focus ((try simp only [World.size_alloc, size_setCell, World.heap_drewN, size_drew]); (try omega); done)) | ((with_reducible refine heap_at _ _ _ ?_); focus ((try simp only [World.size_alloc, size_setCell, World.heap_drewN, size_drew]); (try omega); done)) | ((with_reducible refine heap_ne' ?_ ?_); focus ((try simp only [World.size_alloc, size_setCell, World.heap_drewN, size_drew]); (try omega); done)) | (with_reducible refine heap_drew' ?_) | (with_reducible refine heap_drew1' ?_))); done)) (.inl (by decide)))); refine lay (T := w.heap.size < wE.heap.size ∧ wr.heap.size < wE.heap.size) ?_ (fun hBE => ?_); (focus (exact ⟨lt_of_block hXE, lt_of_block hYE⟩)); (first | (refine lay (T := wE.heap[wr.heap.size + 1]? = some (.cells #[.string text] 9 (0, 0))) ?_ (fun hZE1 => ?_); (focus (refine KE _ _ _ _ ?_ (.inr ?_); (focus (((repeat (first | (with_reducible assumption) | ((with_reducible refine heap_past' ?_ ?_); focus ((try simp only [World.size_alloc, size_setCell, World.heap_drewN, size_drew]); (try omega); done)) | ((with_reducible refine heap_at _ _ _ ?_); focus ((try simp only [World.size_alloc, size_setCell, World.heap_drewN, size_drew]); (try omega); done)) | ((with_reducible refine heap_ne' ?_ ?_); focus ((try simp only [World.size_alloc, size_setCell, World.heap_drewN, size_drew]); (try omega); done)) | (with_reducible refine heap_drew' ?_) | (with_reducible refine heap_drew1' ?_))); done))); (focus (((try simp only [World.size_alloc, size_setCell, World.heap_drewN, size_drew]); (try omega); done)))))) | skip); (first | (refine lay (T := wE.heap[wr.heap.size + 1 + 1]? = some (.cells #[.string text] 9 (0, 0))) ?_ (fun hZE2 => ?_); (focus (refine KE _ _ _ _ ?_ (.inr ?_); (focus (((repeat (first | (with_reducible assumption) | ((with_reducible refine heap_past' ?_ ?_); focus ((try simp only [World.size_alloc, size_setCell, World.heap_drewN, size_drew]); (try omega); done)) | ((with_reducible refine heap_at _ _ _ ?_); focus ((try simp only [World.size_alloc, size_setCell, World.heap_drewN, size_drew]); (try omega); done)) | ((with_reducible refine heap_ne' ?_ ?_); focus ((try simp only [World.size_alloc, size_setCell, World.heap_drewN, size_drew]); (try omega); done)) | (with_reducible refine heap_drew' ?_) | (with_reducible refine heap_drew1' ?_))); done))); (focus (((try simp only [World.size_alloc, size_setCell, World.heap_drewN, size_drew]); (try omega); done)))))) | skip))
          | (have _q := RA1; refine step_of rfl (wp_appL (.tmp 41) (.tmp 44) rfl RA1 ?_ rfl _ 1 [text] #[.string text] rfl rfl rfl (by omega) (by omega) ?_ ?_); (focus (((repeat (first | (with_reducible exact Below.refl _ _) | (with_reducible assumption) | ((with_reducible refine Below.alloc ?_ ?_ _); rotate_left; focus ((try simp only [World.size_alloc, size_setCell, World.heap_drewN, size_drew]); (try omega); done)) | ((with_reducible refine Below.setCell ?_ ?_ _); rotate_left; focus ((try simp only [World.size_alloc, size_setCell, World.heap_drewN, size_drew]); (try omega); done)) | (with_reducible refine Below.drewN' ?_) | (with_reducible refine Below.drew ?_))); done))); (focus (((repeat (first | (with_reducible assumption) | ((with_reducible refine heap_past' ?_ ?_); focus ((try simp only [World.size_alloc, size_setCell, World.heap_drewN, size_drew]); (try omega); done)) | ((with_reducible refine heap_at _ _ _ ?_); focus ((try simp only [World.size_alloc, size_setCell, World.heap_drewN, size_drew]); (try omega); done)) | ((with_reducible refine heap_ne' ?_ ?_); focus ((try simp only [World.size_alloc, size_setCell, World.heap_drewN, size_drew]); (try omega); done)) | (with_reducible refine heap_drew' ?_) | (with_reducible refine heap_drew1' ?_))); done))); intro gE cE wE RE KE; refine lay (T := wE.heap[wr.heap.size]? = some (.cells #[.int .i64 way, .int .i64 flag, .string text] 109 (0, 0))) ?_ (fun hYE => ?_); (focus (exact KE _ _ _ _ (by ((repeat (first | (with_reducible assumption) | ((with_reducible refine heap_past' ?_ ?_); focus ((try simp only [World.size_alloc, size_setCell, World.heap_drewN, size_drew]); (try omega); done)) | ((with_reducible refine heap_at _ _ _ ?_); focus ((try simp only [World.size_alloc, size_setCell, World.heap_drewN, size_drew]); (try omega); done)) | ((with_reducible refine heap_ne' ?_ ?_); focus ((try simp only [World.size_alloc, size_setCell, World.heap_drewN, size_drew]); (try omega); done)) | (with_reducible refine heap_drew' ?_) | (with_reducible refine heap_drew1' ?_))); done)) (.inl (by decide)))); refine lay (T := wE.heap[w.heap.size]? = some (.cells #[.slice fa fs.length fc, .bool false, .bool unk, .int .i64 fold] 24 (0, 0))) ?_ (fun hXE => ?_); (focus (exact KE _ _ _ _ (by ((repeat (first | (with_reducible assumption) | ((with_reducible refine heap_past' ?_ ?_); focus ((try simp only [World.size_alloc, size_setCell, World.heap_drewN, size_drew]); (try omega); done)) | ((with_reducible refine heap_at _ _ _ ?_); focus ((try simp only [World.size_alloc, size_setCell, World.heap_drewN, size_drew]); (try omega); done)) | ((with_reducible refine heap_ne' ?_ ?_); focus ((try simp only [World.size_alloc, size_setCell, World.heap_drewN, size_drew]); (try omega); done)) | (with_reducible refine heap_drew' ?_) | (with_reducible refine heap_drew1' ?_))); done)) (.inl (by decide)))); refine lay (T := w.heap.size < wE.heap.size ∧ wr.heap.size < wE.heap.size) ?_ (fun hBE => ?_); (focus (exact ⟨lt_of_block hXE, lt_of_block hYE⟩)); (first | (refine lay (T := wE.heap[wr.heap.size + 1]? = some (.cells #[.string text] 9 (0, 0))) ?_ (fun hZE1 => ?_); (focus (refine KE _ _ _ _ ?_ (.inr ?_); (focus (((repeat (first | (with_reducible assumption) | ((with_reducible refine heap_past' ?_ ?_); focus ((try simp only [World.size_alloc, size_setCell, World.heap_drewN, size_drew]); (try omega); done)) | ((with_reducible refine heap_at _ _ _ ?_); focus ((try simp only [World.size_alloc, size_setCell, World.heap_drewN, size_drew]); (try omega); done)) | ((with_reducible refine heap_ne' ?_ ?_); focus ((try simp only [World.size_alloc, size_setCell, World.heap_drewN, size_drew]); (try omega); done)) | (with_reducible refine heap_drew' ?_) | (with_reducible refine heap_drew1' ?_))); done))); (focus (((try simp only [World.size_alloc, size_setCell, World.heap_drewN, size_drew]); (try omega); done)))))) | skip); (first | (refine lay (T := wE.heap[wr.heap.size + 1 + 1]? = some (.cells #[.string text] 9 (0, 0))) ?_ (fun hZE2 => ?_); (focus (refine KE _ _ _ _ ?_ (.inr ?_); (focus (((repeat (first | (with_reducible assumption) | ((with_reducible refine heap_past' ?_ ?_); focus ((try simp only [World.size_alloc, size_setCell, World.heap_drewN, size_drew]); (try omega); done)) | ((with_reducible refine heap_at _ _ _ ?_); focus ((try simp only [World.size_alloc, size_setCell, World.heap_drewN, size_drew]); (try omega); done)) | ((with_reducible refine heap_ne' ?_ ?_); focus ((try simp only [World.size_alloc, size_setCell, World.heap_drewN, size_drew]); (try omega); done)) | (with_reducible refine heap_drew' ?_) | (with_reducible refine heap_drew1' ?_))); done))); (focus (((try simp only [World.size_alloc, size_setCell, World.heap_drewN, size_drew]); (try omega); done)))))) | skip))
          | (refine step_of rfl (wp_appA (.tmp 36) (.tmp 39) rfl HR1.out ?_ rfl _ 1 [text] #[.string text] rfl rfl rfl (by omega) (by omega) ?_ ?_); (focus (((repeat (first | (with_reducible exact Below.refl _ _) | (with_reducible assumption) | ((with_reducible refine Below.alloc ?_ ?_ _); rotate_left; focus ((try simp only [World.size_alloc, size_setCell, World.heap_drewN, size_drew]); (try omega); done)) | ((with_reducible refine Below.setCell ?_ ?_ _); rotate_left; focus ((try simp only [World.size_alloc, size_setCell, World.heap_drewN, size_drew]); (try omega); done)) | (with_reducible refine Below.drewN' ?_) | (with_reducible refine Below.drew ?_))); done))); (focus (((repeat (first | (with_reducible assumption) | ((with_reducible refine heap_past' ?_ ?_); focus ((try simp only [World.size_alloc, size_setCell, World.heap_drewN, size_drew]); (try omega); done)) | ((with_reducible refine heap_at _ _ _ ?_); focus ((try simp only [World.size_alloc, size_setCell, World.heap_drewN, size_drew]); (try omega); done)) | ((with_reducible refine heap_ne' ?_ ?_); focus ((try simp only [World.size_alloc, size_setCell, World.heap_drewN, size_drew]); (try omega); done)) | (with_reducible refine heap_drew' ?_) | (with_reducible refine heap_drew1' ?_))); done))); intro gA1 cA1 wA1 RA1 KA1; refine lay (T := wA1.heap[wr.heap.size]? = some (.cells #[.int .i64 way, .int .i64 flag, .string text] 109 (0, 0))) ?_ (fun hYA1 => ?_); (focus (exact KA1 _ _ _ _ (by ((repeat (first | (with_reducible assumption) | ((with_reducible refine heap_past' ?_ ?_); focus ((try simp only [World.size_alloc, size_setCell, World.heap_drewN, size_drew]); (try omega); done)) | ((with_reducible refine heap_at _ _ _ ?_); focus ((try simp only [World.size_alloc, size_setCell, World.heap_drewN, size_drew]); (try omega); done)) | ((with_reducible refine heap_ne' ?_ ?_); focus ((try simp only [World.size_alloc, size_setCell, World.heap_drewN, size_drew]); (try omega); done)) | (with_reducible refine heap_drew' ?_) | (with_reducible refine heap_drew1' ?_))); done)) (.inl (by decide)))); refine lay (T := wA1.heap[w.heap.size]? = some (.cells #[.slice fa fs.length fc, .bool false, .bool unk, .int .i64 fold] 24 (0, 0))) ?_ (fun hXA1 => ?_); (focus (exact KA1 _ _ _ _ (by ((repeat (first | (with_reducible assumption) | ((with_reducible refine heap_past' ?_ ?_); focus ((try simp only [World.size_alloc, size_setCell, World.heap_drewN, size_drew]); (try omega); done)) | ((with_reducible refine heap_at _ _ _ ?_); focus ((try simp only [World.size_alloc, size_setCell, World.heap_drewN, size_drew]); (try omega); done)) | ((with_reducible refine heap_ne' ?_ ?_); focus ((try simp only [World.size_alloc, size_setCell, World.heap_drewN, size_drew]); (try omega); done)) | (with_reducible refine heap_drew' ?_) | (with_reducible refine heap_drew1' ?_))); done)) (.inl (by decide)))); refine lay (T := w.heap.size < wA1.heap.size ∧ wr.heap.size < wA1.heap.size) ?_ (fun hBA1 => ?_); (focus (exact ⟨lt_of_block hXA1, lt_of_block hYA1⟩)); (first | (refine lay (T := wA1.heap[wr.heap.size + 1]? = some (.cells #[.string text] 9 (0, 0))) ?_ (fun hZA11 => ?_); (focus (refine KA1 _ _ _ _ ?_ (.inr ?_); (focus (((repeat (first | (with_reducible assumption) | ((with_reducible refine heap_past' ?_ ?_); focus ((try simp only [World.size_alloc, size_setCell, World.heap_drewN, size_drew]); (try omega); done)) | ((with_reducible refine heap_at _ _ _ ?_); focus ((try simp only [World.size_alloc, size_setCell, World.heap_drewN, size_drew]); (try omega); done)) | ((with_reducible refine heap_ne' ?_ ?_); focus ((try simp only [World.size_alloc, size_setCell, World.heap_drewN, size_drew]); (try omega); done)) | (with_reducible refine heap_drew' ?_) | (with_reducible refine heap_drew1' ?_))); done))); (focus (((try simp only [World.size_alloc, size_setCell, World.heap_drewN, size_drew]); (try omega); done)))))) | skip); (first | (refine lay (T := wA1.heap[wr.heap.size + 1 + 1]? = some (.cells #[.string text] 9 (0, 0))) ?_ (fun hZA12 => ?_); (focus (refine KA1 _ _ _ _ ?_ (.inr ?_); (focus (((repeat (first | (with_reducible assumption) | ((with_reducible refine heap_past' ?_ ?_); focus ((try simp only [World.size_alloc, size_setCell, World.heap_drewN, size_drew]); (try omega); done)) | ((with_reducible refine heap_at _ _ _ ?_); focus ((try simp only [World.size_alloc, size_setCell, World.heap_drewN, size_drew]); (try omega); done)) | ((with_reducible refine heap_ne' ?_ ?_); focus ((try simp only [World.size_alloc, size_setCell, World.heap_drewN, size_drew]); (try omega); done)) | (with_reducible refine heap_drew' ?_) | (with_reducible refine heap_drew1' ?_))); done))); (focus (((try simp only [World.size_alloc, size_setCell, World.heap_drewN, size_drew]); (try omega); done)))))) | skip))
          | (refine step_of rfl (wp_appL (.tmp 41) (.tmp 44) rfl HR1.out ?_ rfl _ 1 [text] #[.string text] rfl rfl rfl (by omega) (by omega) ?_ ?_); (focus (((repeat (first | (with_reducible exact Below.refl _ _) | (with_reducible assumption) | ((with_reducible refine Below.alloc ?_ ?_ _); rotate_left; focus ((try simp only [World.size_alloc, size_setCell, World.heap_drewN, size_drew]); (try omega); done)) | ((with_reducible refine Below.setCell ?_ ?_ _); rotate_left; focus ((try simp only [World.size_alloc, size_setCell, World.heap_drewN, size_drew]); (try omega); done)) | (with_reducible refine Below.drewN' ?_) | (with_reducible refine Below.drew ?_))); done))); (focus (((repeat (first | (with_reducible assumption) | ((with_reducible refine heap_past' ?_ ?_); focus ((try simp only [World.size_alloc, size_setCell, World.heap_drewN, size_drew]); (try omega); done)) | ((with_reducible refine heap_at _ _ _ ?_); focus ((try simp only [World.size_alloc, size_setCell, World.heap_drewN, size_drew]); (try omega); done)) | ((with_reducible refine heap_ne' ?_ ?_); focus ((try simp only [World.size_alloc, size_setCell, World.heap_drewN, size_drew]); (try omega); done)) | (with_reducible refine heap_drew' ?_) | (with_reducible refine heap_drew1' ?_))); done))); intro gL1 cL1 wL1 RL1 KL1; refine lay (T := wL1.heap[wr.heap.size]? = some (.cells #[.int .i64 way, .int .i64 flag, .string text] 109 (0, 0))) ?_ (fun hYL1 => ?_); (focus (exact KL1 _ _ _ _ (by ((repeat (first | (with_reducible assumption) | ((with_reducible refine heap_past' ?_ ?_); focus ((try simp only [World.size_alloc, size_setCell, World.heap_drewN, size_drew]); (try omega); done)) | ((with_reducible refine heap_at _ _ _ ?_); focus ((try simp only [World.size_alloc, size_setCell, World.heap_drewN, size_drew]); (try omega); done)) | ((with_reducible refine heap_ne' ?_ ?_); focus ((try simp only [World.size_alloc, size_setCell, World.heap_drewN, size_drew]); (try omega); done)) | (with_reducible refine heap_drew' ?_) | (with_reducible refine heap_drew1' ?_))); done)) (.inl (by decide)))); refine lay (T := wL1.heap[w.heap.size]? = some (.cells #[.slice fa fs.length fc, .bool false, .bool unk, .int .i64 fold] 24 (0, 0))) ?_ (fun hXL1 => ?_); (focus (exact KL1 _ _ _ _ (by ((repeat (first | (with_reducible assumption) | ((with_reducible refine heap_past' ?_ ?_); focus ((try simp only [World.size_alloc, size_setCell, World.heap_drewN, size_drew]); (try omega); done)) | ((with_reducible refine heap_at _ _ _ ?_); focus ((try simp only [World.size_alloc, size_setCell, World.heap_drewN, size_drew]); (try omega); done)) | ((with_reducible refine heap_ne' ?_ ?_); focus ((try simp only [World.size_alloc, size_setCell, World.heap_drewN, size_drew]); (try omega); done)) | (with_reducible refine heap_drew' ?_) | (with_reducible refine heap_drew1' ?_))); done)) (.inl (by decide)))); refine lay (T := w.heap.size < wL1.heap.size ∧ wr.heap.size < wL1.heap.size) ?_ (fun hBL1 => ?_); (focus (exact ⟨lt_of_block hXL1, lt_of_block hYL1⟩)); (first | (refine lay (T := wL1.heap[wr.heap.size + 1]? = some (.cells #[.string text] 9 (0, 0))) ?_ (fun hZL11 => ?_); (focus (refine KL1 _ _ _ _ ?_ (.inr ?_); (focus (((repeat (first | (with_reducible assumption) | ((with_reducible refine heap_past' ?_ ?_); focus ((try simp only [World.size_alloc, size_setCell, World.heap_drewN, size_drew]); (try omega); done)) | ((with_reducible refine heap_at _ _ _ ?_); focus ((try simp only [World.size_alloc, size_setCell, World.heap_drewN, size_drew]); (try omega); done)) | ((with_reducible refine heap_ne' ?_ ?_); focus ((try simp only [World.size_alloc, size_setCell, World.heap_drewN, size_drew]); (try omega); done)) | (with_reducible refine heap_drew' ?_) | (with_reducible refine heap_drew1' ?_))); done))); (focus (((try simp only [World.size_alloc, size_setCell, World.heap_drewN, size_drew]); (try omega); done)))))) | skip); (first | (refine lay (T := wL1.heap[wr.heap.size + 1 + 1]? = some (.cells #[.string text] 9 (0, 0))) ?_ (fun hZL12 => ?_); (focus (refine KL1 _ _ _ _ ?_ (.inr ?_); (focus (((repeat (first | (with_reducible assumption) | ((with_reducible refine heap_past' ?_ ?_); focus ((try simp only [World.size_alloc, size_setCell, World.heap_drewN, size_drew]); (try omega); done)) | ((with_reducible refine heap_at _ _ _ ?_); focus ((try simp only [World.size_alloc, size_setCell, World.heap_drewN, size_drew]); (try omega); done)) | ((with_reducible refine heap_ne' ?_ ?_); focus ((try simp only [World.size_alloc, size_setCell, World.heap_drewN, size_drew]); (try omega); done)) | (with_reducible refine heap_drew' ?_) | (with_reducible refine heap_drew1' ?_))); done))); (focus (((try simp only [World.size_alloc, size_setCell, World.heap_drewN, size_drew]); (try omega); done)))))) | skip)))
      all_goals (go_wp2_with fail)
      all_goals go_roundw
      all_goals first
        | exact ⟨k + 1, A ++ [text], G, L ++ [text], by omega, by go_num, RE, hXE, HWB.out hbf (by first | rfl | trivial), HSIZ.out.1, HSIZ.out.2.1, HSIZ.out.2.2, HQN.out⟩
        | (simp [intOf]; omega)
    · have d0 : decide (way < 0) = false := decide_eq_false (by omega)
      have d1 : decide (3 < way) = false := decide_eq_false (by omega)
      have HNO : Hid (∀ W, Below (wr.alloc (.cells #[.int .i64 way, .int .i64 flag, .string text] 109)).heap.size (wr.alloc (.cells #[.int .i64 way, .int .i64 flag, .string text] 109)) W → WroteIs (setD fs plain unk fold) l.length w (.returned (.tuple #[.slice none 0 0, .slice none 0 0, .slice none 0 0, .bool false])) W ∧ Below w.heap.size w W) := Lib.hid (fun W h => ⟨WroteIs.no, Below.after HR1.out.bel h⟩)
      have HLEN := HSF.out.1
      have C1 := Lib.hid (fun W => flag14_any fa fs.length fc (.bool plain) (.bool unk) (.int .i64 fold) flag W HLEN)
      have HAT : Hid (∀ W, Below (wr.alloc (.cells #[.int .i64 way, .int .i64 flag, .string text] 109)).heap.size (wr.alloc (.cells #[.int .i64 way, .int .i64 flag, .string text] 109)) W → W.cell? ⟨wr.heap.size, 0, none⟩ = some (.int .i64 way) ∧ W.cell? ⟨wr.heap.size, 1, none⟩ = some (.int .i64 flag) ∧ W.cell? ⟨wr.heap.size, 2, none⟩ = some (.string text) ∧ W.cell? ⟨w.heap.size, 0, none⟩ = some (.slice fa fs.length fc) ∧ W.cell? ⟨w.heap.size, 1, none⟩ = some (.bool plain) ∧ W.cell? ⟨w.heap.size, 2, none⟩ = some (.bool unk) ∧ W.cell? ⟨w.heap.size, 3, none⟩ = some (.int .i64 fold) ∧ W.heap[wr.heap.size]? = some (.cells #[.int .i64 way, .int .i64 flag, .string text] 109 (0, 0)) ∧ W.heap[w.heap.size]? = some (.cells #[.slice fa fs.length fc, .bool plain, .bool unk, .int .i64 fold] 24 (0, 0)) ∧ (wr.heap.size < W.heap.size)) := Lib.hid (fun W h => by
        have y := (h.block _ (lt_of_block HYY)).trans HYY
        have z := (h.block _ (lt_of_block HXX)).trans HXX
        exact ⟨cell_of y 0 _ rfl, cell_of y 1 _ rfl, cell_of y 2 _ rfl, cell_of z 0 _ rfl, cell_of z 1 _ rfl, cell_of z 2 _ rfl, cell_of z 3 _ rfl, y, z, lt_of_block y⟩)
      clear HXX HYY
      go_wp2_with fail
      refine (C1.out _).mono ?_
      rintro e w2 ⟨rfl, hb2⟩
      clear s0 s1 s2 s3
      obtain ⟨x0, x1, x2, s0, s1, s2, s3, y0, z0, lz⟩ := HAT.out _ hb2
      by_cases hfl : 0 ≤ flag ∧ flag < (fs.length : Int)
      case neg =>
        have e : (decide (0 ≤ flag) && decide (flag < (fs.length : Int))) = false := by
          rw [Bool.and_eq_false_iff, decide_eq_false_iff_not, decide_eq_false_iff_not]; omega
        rw [e]
        clear e
        go_wp2_with fail
        exact bodyPost_ret (v := .tuple #[.slice none 0 0, .slice none 0 0, .slice none 0 0, .bool false]) (by simp [results, Try.results41, go_sem]) rfl (HNO.out _ hb2)
      have e : (decide (0 ≤ flag) && decide (flag < (fs.length : Int))) = true := by
        rw [Bool.and_eq_true, decide_eq_true_iff, decide_eq_true_iff]; exact hfl
      rw [e]
      clear e
      obtain ⟨kf, rfl⟩ : ∃ kf : Nat, flag = kf := ⟨flag.toNat, by omega⟩
      have hkf : kf < fs.length := by omega
      obtain ⟨sn, ss, so', sb'⟩ := HSF.out.2 fs[kf] (List.getElem_mem hkf)
      have hbl := sb'.1
      have C2 := Lib.hid (takes14_any fa fc fs (.bool plain) (.bool unk) (.int .i64 fold) kf text w2 (HV.out w2 (Below.after HR1.out.bel hb2)) hkf HLEN hbl)
      clear hfl sb'
      go_wp2_with fail
      refine C2.out.mono ?_
      rintro e w3 ⟨rfl, hb3⟩
      have hb3' : Below (wr.alloc (.cells #[.int .i64 way, .int .i64 kf, .string text] 109)).heap.size (wr.alloc (.cells #[.int .i64 way, .int .i64 kf, .string text] 109)) w3 := Below.after hb2 hb3
      clear x0 x1 x2 s0 s1 s2 s3 y0 z0 lz
      obtain ⟨x0, x1, x2, s0, s1, s2, s3, y0, z0, lz⟩ := HAT.out _ hb3'
      cases hbd : hasB fs[kf].bad text with
      | true =>
        go_wp2_with fail
        exact bodyPost_ret (v := .tuple #[.slice none 0 0, .slice none 0 0, .slice none 0 0, .bool false]) (by simp [results, Try.results41, go_sem]) rfl (HNO.out _ hb3')
      | false =>
        have HR3 := Lib.hid (HR1.out.grow hb3')
        have HW3 : Hid (∀ xs, (∀ c r, r.err.isNone = true → goesF (setD fs plain unk fold) .sets (xs ++ c) r = goesF (setD fs plain unk fold) .sets c (giveF (setD fs plain unk fold) .sets kf text r)) → Wrote (setD fs plain unk fold) (A ++ xs) (G ++ [(kf, text)]) L) := Lib.hid (fun xs h => HWr.out.give (by rw [badOf_at (s := setD fs plain unk fold) (i := kf) hkf]; exact hbd) h)
        have HWE : Hid (Wrote (setD fs plain unk fold) (A ++ [longT fs[kf].name text]) (G ++ [(kf, text)]) L) := Lib.hid (HW3.out _ fun c r hr => goes_eq (s := setD fs plain unk fold) (w := .sets) HRP.out HRQ.out hkf text c r hr)
        have HWN : Hid (fs[kf].noopt.size = 0 → Wrote (setD fs plain unk fold) (A ++ [(⟨#[45, 45]⟩ : ByteArray) ++ fs[kf].name, text]) (G ++ [(kf, text)]) L) := Lib.hid (fun h => HW3.out _ fun c r hr => goes_next (s := setD fs plain unk fold) (w := .sets) HRP.out HRQ.out hkf h text c r hr)
        have HWL : Hid (0 < fs[kf].short.size → 0 < text.size → Wrote (setD fs plain unk fold) (A ++ [((((⟨#[45]⟩ : ByteArray) ++ fs[kf].short) ++ ⟨#[61]⟩) ++ text)]) (G ++ [(kf, text)]) L) := Lib.hid (fun h h' => HW3.out _ fun c r hr => goes_letter_eq (s := setD fs plain unk fold) (w := .sets) HRP.out HRQ.out hkf h text h' c r hr)
        have HWM : Hid (0 < fs[kf].short.size → fs[kf].noopt.size = 0 → Wrote (setD fs plain unk fold) (A ++ [(⟨#[45]⟩ : ByteArray) ++ fs[kf].short, text]) (G ++ [(kf, text)]) L) := Lib.hid (fun h h' => HW3.out _ fun c r hr => goes_letter_next (s := setD fs plain unk fold) (w := .sets) HRP.out HRQ.out hkf h h' text c r hr)
        have HQN : Hid (∀ ts : List ByteArray, (∀ t ∈ ts, t.size ≤ 1099511627776) → ∀ t ∈ A ++ ts, t.size ≤ 1099511627776) := Lib.hid (fun ts h t ht => by
          rcases List.mem_append.1 ht with h' | h'
          · exact HQ4.out t h'
          · exact h t h')
        have HC3 : Hid (∀ W, Below w.heap.size w W → Calls Try.prog 39 #[.agg #[.slice fa fs.length fc, .bool plain, .bool unk, .int .i64 fold], .int .i64 kf, .string text] W fun e w' => e = .returned (.string (longT fs[kf].name text)) ∧ Below W.heap.size W w') := Lib.hid (fun W h => long14_any _ fs _ _ _ kf text W (HV.out W h) hkf HLEN sn htx)
        obtain ⟨nb, nof, ba, bc, rfl, hnb, p0, p1, p2, p3, -⟩ := (HV.out w3 HR3.out.bel).row hkf
        have HLT := longT_size fs[kf].name text
        clear HW3 HV HSF HRP HRQ hb2 hb3 C1 C2 hbd
        generalize longT fs[kf].name text = lt at *
        generalize fs[kf] = fl at *
        obtain ⟨name, short, noopt, bad⟩ := fl
        simp only at p0 p1 p2 p3 sn ss so' hbl HWN HWL HWM HLT
        go_upto_region 14 with (
          at_builtin
          refine list_of rfl (wp_appG (.tmp 66) (.tmp 72) rfl HR3.out ?_ rfl _ kf text rfl (by omega) ?_ ?_)
          (focus (((repeat (first | (with_reducible exact Below.refl _ _) | (with_reducible assumption) | ((with_reducible refine Below.alloc ?_ ?_ _); rotate_left; focus ((try simp only [World.size_alloc, size_setCell, World.heap_drewN, size_drew]); (try omega); done)) | ((with_reducible refine Below.setCell ?_ ?_ _); rotate_left; focus ((try simp only [World.size_alloc, size_setCell, World.heap_drewN, size_drew]); (try omega); done)) | (with_reducible refine Below.drewN' ?_) | (with_reducible refine Below.drew ?_))); done)))
          (focus (((repeat (first | (with_reducible assumption) | ((with_reducible refine heap_past' ?_ ?_); focus ((try simp only [World.size_alloc, size_setCell, World.heap_drewN, size_drew]); (try omega); done)) | ((with_reducible refine heap_at _ _ _ ?_); focus ((try simp only [World.size_alloc, size_setCell, World.heap_drewN, size_drew]); (try omega); done)) | ((with_reducible refine heap_ne' ?_ ?_); focus ((try simp only [World.size_alloc, size_setCell, World.heap_drewN, size_drew]); (try omega); done)) | (with_reducible refine heap_drew' ?_) | (with_reducible refine heap_drew1' ?_))); done)))
          intro g4 c4 w4 R4 K4
          have HR4 := Lib.hid R4
          have hY4 : w4.heap[wr.heap.size]? = some (.cells #[.int .i64 way, .int .i64 kf, .string text] 109 (0, 0)) := K4 _ _ _ _ (by ((repeat (first | (with_reducible assumption) | ((with_reducible refine heap_past' ?_ ?_); focus ((try simp only [World.size_alloc, size_setCell, World.heap_drewN, size_drew]); (try omega); done)) | ((with_reducible refine heap_at _ _ _ ?_); focus ((try simp only [World.size_alloc, size_setCell, World.heap_drewN, size_drew]); (try omega); done)) | ((with_reducible refine heap_ne' ?_ ?_); focus ((try simp only [World.size_alloc, size_setCell, World.heap_drewN, size_drew]); (try omega); done)) | (with_reducible refine heap_drew' ?_) | (with_reducible refine heap_drew1' ?_))); done)) (.inl (by decide))
          have hX4 : w4.heap[w.heap.size]? = some (.cells #[.slice (some ⟨nb, nof, none⟩) fs.length fc, .bool plain, .bool unk, .int .i64 fold] 24 (0, 0)) := K4 _ _ _ _ (by ((repeat (first | (with_reducible assumption) | ((with_reducible refine heap_past' ?_ ?_); focus ((try simp only [World.size_alloc, size_setCell, World.heap_drewN, size_drew]); (try omega); done)) | ((with_reducible refine heap_at _ _ _ ?_); focus ((try simp only [World.size_alloc, size_setCell, World.heap_drewN, size_drew]); (try omega); done)) | ((with_reducible refine heap_ne' ?_ ?_); focus ((try simp only [World.size_alloc, size_setCell, World.heap_drewN, size_drew]); (try omega); done)) | (with_reducible refine heap_drew' ?_) | (with_reducible refine heap_drew1' ?_))); done)) (.inl (by decide))
          have hF4 : w4.heap[w3.heap.size]? = some (.cells #[.string name, .string short, .string noopt, .slice ba bad.length bc] 62 (0, 0)) := K4 _ _ _ _ (by ((repeat (first | (with_reducible assumption) | ((with_reducible refine heap_past' ?_ ?_); focus ((try simp only [World.size_alloc, size_setCell, World.heap_drewN, size_drew]); (try omega); done)) | ((with_reducible refine heap_at _ _ _ ?_); focus ((try simp only [World.size_alloc, size_setCell, World.heap_drewN, size_drew]); (try omega); done)) | ((with_reducible refine heap_ne' ?_ ?_); focus ((try simp only [World.size_alloc, size_setCell, World.heap_drewN, size_drew]); (try omega); done)) | (with_reducible refine heap_drew' ?_) | (with_reducible refine heap_drew1' ?_))); done)) (.inl (by decide))
          clear R4 K4)
        clear x0 x1 x2 s0 s1 s2 s3 y0 z0 p0 p1 p2 p3 hnb
        have x0 := cell_of hY4 0 _ rfl
        have x1 := cell_of hY4 1 _ rfl
        have x2 := cell_of hY4 2 _ rfl
        have s0 := cell_of hX4 0 _ rfl
        have s1 := cell_of hX4 1 _ rfl
        have s2 := cell_of hX4 2 _ rfl
        have s3 := cell_of hX4 3 _ rfl
        have p0 := cell_of hF4 0 _ rfl
        have p1 := cell_of hF4 1 _ rfl
        have p2 := cell_of hF4 2 _ rfl
        have lz4 := lt_of_block hY4
        have lx4 := lt_of_block hX4
        have HNO4 : Hid (WroteIs (setD fs plain unk fold) l.length w (.returned (.tuple #[.slice none 0 0, .slice none 0 0, .slice none 0 0, .bool false])) w4 ∧ Below w.heap.size w w4) := Lib.hid ⟨WroteIs.no, HR4.out.bel⟩
        have C3 := HC3.out
        clear HNO HR3
        obtain rfl | rfl | rfl | rfl : way = 0 ∨ way = 1 ∨ way = 2 ∨ way = 3 := by omega
        · go_wp2_with fail
          refine (C3 w4 HR4.out.bel).mono ?_
          rintro e w6 ⟨rfl, hb6⟩
          have HR4' := Lib.hid (HR4.out.grow hb6)
          have hX6 : w6.heap[w.heap.size]? = some (.cells #[.slice (some ⟨nb, nof, none⟩) fs.length fc, .bool plain, .bool unk, .int .i64 fold] 24 (0, 0)) := (hb6.block _ lx4).trans hX4
          have HR4 := HR4'
          have lx6 := lt_of_block hX6
          go_wp2_with (
          at_builtin
          refine list_of rfl (wp_appA (.tmp 107) (.tmp 114) rfl HR4.out ?_ rfl _ 1 [lt] #[.string lt] rfl rfl rfl (by omega) (by omega) ?_ ?_)
          (focus (((repeat (first | (with_reducible exact Below.refl _ _) | (with_reducible assumption) | ((with_reducible refine Below.alloc ?_ ?_ _); rotate_left; focus ((try simp only [World.size_alloc, size_setCell, World.heap_drewN, size_drew]); (try omega); done)) | ((with_reducible refine Below.setCell ?_ ?_ _); rotate_left; focus ((try simp only [World.size_alloc, size_setCell, World.heap_drewN, size_drew]); (try omega); done)) | (with_reducible refine Below.drewN' ?_) | (with_reducible refine Below.drew ?_))); done)))
          (focus (((repeat (first | (with_reducible assumption) | ((with_reducible refine heap_past' ?_ ?_); focus ((try simp only [World.size_alloc, size_setCell, World.heap_drewN, size_drew]); (try omega); done)) | ((with_reducible refine heap_at _ _ _ ?_); focus ((try simp only [World.size_alloc, size_setCell, World.heap_drewN, size_drew]); (try omega); done)) | ((with_reducible refine heap_ne' ?_ ?_); focus ((try simp only [World.size_alloc, size_setCell, World.heap_drewN, size_drew]); (try omega); done)) | (with_reducible refine heap_drew' ?_) | (with_reducible refine heap_drew1' ?_))); done)))
          intro g5 c5 w5 R5 K5
          have HR5 := Lib.hid R5
          have hX5 : w5.heap[w.heap.size]? = some (.cells #[.slice (some ⟨nb, nof, none⟩) fs.length fc, .bool plain, .bool unk, .int .i64 fold] 24 (0, 0)) := K5 _ _ _ _ (by ((repeat (first | (with_reducible assumption) | ((with_reducible refine heap_past' ?_ ?_); focus ((try simp only [World.size_alloc, size_setCell, World.heap_drewN, size_drew]); (try omega); done)) | ((with_reducible refine heap_at _ _ _ ?_); focus ((try simp only [World.size_alloc, size_setCell, World.heap_drewN, size_drew]); (try omega); done)) | ((with_reducible refine heap_ne' ?_ ?_); focus ((try simp only [World.size_alloc, size_setCell, World.heap_drewN, size_drew]); (try omega); done)) | (with_reducible refine heap_drew' ?_) | (with_reducible refine heap_drew1' ?_))); done)) (.inl (by decide))
          have HX5 := Lib.hid hX5
          clear R5 K5 hX5)
          go_roundw
          case rel => exact ⟨k + 1, A ++ [lt], G ++ [(kf, text)], L, by omega, by go_num, HR5.out, HX5.out, HWE.out, by simp only [List.length_append, List.length_cons, List.length_nil]; omega, by simp only [List.length_append, List.length_cons, List.length_nil]; omega, by omega, HQN.out _ (by simp only [List.mem_cons, List.not_mem_nil, or_false]; rintro t rfl; first | omega | (simp only [ByteArray.size_append, dd_size, d_size, eqS_size]; omega))⟩
          case measure => simp [intOf]; omega
        · obtain hno | hno : noopt.toList.isEmpty = true ∨ noopt.toList.isEmpty = false := by cases noopt.toList.isEmpty <;> simp
          case inr =>
            go_wp2_with fail
            exact bodyPost_ret (v := .tuple #[.slice none 0 0, .slice none 0 0, .slice none 0 0, .bool false]) (by simp [results, Try.results41, go_sem]) rfl HNO4.out
          have hno' : noopt.size = 0 := by
            by_cases h : 0 < noopt.size
            · rw [isEmpty_no h] at hno; cases hno
            · omega
          go_wp2_with (
          at_builtin
          refine list_of rfl (wp_appA (.tmp 118) (.tmp 124) rfl HR4.out ?_ rfl _ 2 [(⟨#[45, 45]⟩ : ByteArray) ++ name, text] #[.string ((⟨#[45, 45]⟩ : ByteArray) ++ name), .string text] rfl rfl rfl (by omega) (by omega) ?_ ?_)
          (focus (((repeat (first | (with_reducible exact Below.refl _ _) | (with_reducible assumption) | ((with_reducible refine Below.alloc ?_ ?_ _); rotate_left; focus ((try simp only [World.size_alloc, size_setCell, World.heap_drewN, size_drew]); (try omega); done)) | ((with_reducible refine Below.setCell ?_ ?_ _); rotate_left; focus ((try simp only [World.size_alloc, size_setCell, World.heap_drewN, size_drew]); (try omega); done)) | (with_reducible refine Below.drewN' ?_) | (with_reducible refine Below.drew ?_))); done)))
          (focus (((repeat (first | (with_reducible assumption) | ((with_reducible refine heap_past' ?_ ?_); focus ((try simp only [World.size_alloc, size_setCell, World.heap_drewN, size_drew]); (try omega); done)) | ((with_reducible refine heap_at _ _ _ ?_); focus ((try simp only [World.size_alloc, size_setCell, World.heap_drewN, size_drew]); (try omega); done)) | ((with_reducible refine heap_ne' ?_ ?_); focus ((try simp only [World.size_alloc, size_setCell, World.heap_drewN, size_drew]); (try omega); done)) | (with_reducible refine heap_drew' ?_) | (with_reducible refine heap_drew1' ?_))); done)))
          intro g5 c5 w5 R5 K5
          have HR5 := Lib.hid R5
          have hX5 : w5.heap[w.heap.size]? = some (.cells #[.slice (some ⟨nb, nof, none⟩) fs.length fc, .bool plain, .bool unk, .int .i64 fold] 24 (0, 0)) := K5 _ _ _ _ (by ((repeat (first | (with_reducible assumption) | ((with_reducible refine heap_past' ?_ ?_); focus ((try simp only [World.size_alloc, size_setCell, World.heap_drewN, size_drew]); (try omega); done)) | ((with_reducible refine heap_at _ _ _ ?_); focus ((try simp only [World.size_alloc, size_setCell, World.heap_drewN, size_drew]); (try omega); done)) | ((with_reducible refine heap_ne' ?_ ?_); focus ((try simp only [World.size_alloc, size_setCell, World.heap_drewN, size_drew]); (try omega); done)) | (with_reducible refine heap_drew' ?_) | (with_reducible refine heap_drew1' ?_))); done)) (.inl (by decide))
          have HX5 := Lib.hid hX5
          clear R5 K5 hX5)
          go_roundw
          case rel => exact ⟨k + 1, A ++ [(⟨#[45, 45]⟩ : ByteArray) ++ name, text], G ++ [(kf, text)], L, by omega, by go_num, HR5.out, HX5.out, HWN.out hno', by simp only [List.length_append, List.length_cons, List.length_nil]; omega, by simp only [List.length_append, List.length_cons, List.length_nil]; omega, by omega, HQN.out _ (by simp only [List.mem_cons, List.not_mem_nil, or_false]; rintro t (rfl | rfl) <;> first | omega | (simp only [ByteArray.size_append, dd_size, d_size, eqS_size]; omega))⟩
          case measure => simp [intOf]; omega
        · obtain hsh | hsh : (short.toList == []) = true ∨ (short.toList == []) = false := by cases (short.toList == []) <;> simp
          case inl =>
            go_wp2_with fail
            exact bodyPost_ret (v := .tuple #[.slice none 0 0, .slice none 0 0, .slice none 0 0, .bool false]) (by simp [results, Try.results41, go_sem]) rfl HNO4.out
          have hsh' : 0 < short.size := by
            by_cases h : 0 < short.size
            · exact h
            · rw [toList_yes h] at hsh; cases hsh
          obtain hte | hte : (text.toList == []) = true ∨ (text.toList == []) = false := by cases (text.toList == []) <;> simp
          case inl =>
            go_wp2_with fail
            exact bodyPost_ret (v := .tuple #[.slice none 0 0, .slice none 0 0, .slice none 0 0, .bool false]) (by simp [results, Try.results41, go_sem]) rfl HNO4.out
          have hte' : 0 < text.size := by
            by_cases h : 0 < text.size
            · exact h
            · rw [toList_yes h] at hte; cases hte
          go_wp2_with (
          at_builtin
          refine list_of rfl (wp_appA (.tmp 128) (.tmp 136) rfl HR4.out ?_ rfl _ 1 [((((⟨#[45]⟩ : ByteArray) ++ short) ++ ⟨#[61]⟩) ++ text)] #[.string ((((⟨#[45]⟩ : ByteArray) ++ short) ++ ⟨#[61]⟩) ++ text)] rfl rfl rfl (by omega) (by omega) ?_ ?_)
          (focus (((repeat (first | (with_reducible exact Below.refl _ _) | (with_reducible assumption) | ((with_reducible refine Below.alloc ?_ ?_ _); rotate_left; focus ((try simp only [World.size_alloc, size_setCell, World.heap_drewN, size_drew]); (try omega); done)) | ((with_reducible refine Below.setCell ?_ ?_ _); rotate_left; focus ((try simp only [World.size_alloc, size_setCell, World.heap_drewN, size_drew]); (try omega); done)) | (with_reducible refine Below.drewN' ?_) | (with_reducible refine Below.drew ?_))); done)))
          (focus (((repeat (first | (with_reducible assumption) | ((with_reducible refine heap_past' ?_ ?_); focus ((try simp only [World.size_alloc, size_setCell, World.heap_drewN, size_drew]); (try omega); done)) | ((with_reducible refine heap_at _ _ _ ?_); focus ((try simp only [World.size_alloc, size_setCell, World.heap_drewN, size_drew]); (try omega); done)) | ((with_reducible refine heap_ne' ?_ ?_); focus ((try simp only [World.size_alloc, size_setCell, World.heap_drewN, size_drew]); (try omega); done)) | (with_reducible refine heap_drew' ?_) | (with_reducible refine heap_drew1' ?_))); done)))
          intro g5 c5 w5 R5 K5
          have HR5 := Lib.hid R5
          have hX5 : w5.heap[w.heap.size]? = some (.cells #[.slice (some ⟨nb, nof, none⟩) fs.length fc, .bool plain, .bool unk, .int .i64 fold] 24 (0, 0)) := K5 _ _ _ _ (by ((repeat (first | (with_reducible assumption) | ((with_reducible refine heap_past' ?_ ?_); focus ((try simp only [World.size_alloc, size_setCell, World.heap_drewN, size_drew]); (try omega); done)) | ((with_reducible refine heap_at _ _ _ ?_); focus ((try simp only [World.size_alloc, size_setCell, World.heap_drewN, size_drew]); (try omega); done)) | ((with_reducible refine heap_ne' ?_ ?_); focus ((try simp only [World.size_alloc, size_setCell, World.heap_drewN, size_drew]); (try omega); done)) | (with_reducible refine heap_drew' ?_) | (with_reducible refine heap_drew1' ?_))); done)) (.inl (by decide))
          have HX5 := Lib.hid hX5
          clear R5 K5 hX5)
          go_roundw
          case rel => exact ⟨k + 1, A ++ [((((⟨#[45]⟩ : ByteArray) ++ short) ++ ⟨#[61]⟩) ++ text)], G ++ [(kf, text)], L, by omega, by go_num, HR5.out, HX5.out, HWL.out hsh' hte', by simp only [List.length_append, List.length_cons, List.length_nil]; omega, by simp only [List.length_append, List.length_cons, List.length_nil]; omega, by omega, HQN.out _ (by simp only [List.mem_cons, List.not_mem_nil, or_false]; rintro t rfl; first | omega | (simp only [ByteArray.size_append, dd_size, d_size, eqS_size]; omega))⟩
          case measure => simp [intOf]; omega
        · obtain hno | hno : noopt.toList.isEmpty = true ∨ noopt.toList.isEmpty = false := by cases noopt.toList.isEmpty <;> simp
          case inr =>
            go_wp2_with fail
            exact bodyPost_ret (v := .tuple #[.slice none 0 0, .slice none 0 0, .slice none 0 0, .bool false]) (by simp [results, Try.results41, go_sem]) rfl HNO4.out
          have hno' : noopt.size = 0 := by
            by_cases h : 0 < noopt.size
            · rw [isEmpty_no h] at hno; cases hno
            · omega
          obtain hsh | hsh : (short.toList == []) = true ∨ (short.toList == []) = false := by cases (short.toList == []) <;> simp
          case inl =>
            go_wp2_with fail
            exact bodyPost_ret (v := .tuple #[.slice none 0 0, .slice none 0 0, .slice none 0 0, .bool false]) (by simp [results, Try.results41, go_sem]) rfl HNO4.out
          have hsh' : 0 < short.size := by
            by_cases h : 0 < short.size
            · exact h
            · rw [toList_yes h] at hsh; cases hsh
          go_wp2_with (
          at_builtin
          refine list_of rfl (wp_appA (.tmp 140) (.tmp 146) rfl HR4.out ?_ rfl _ 2 [(⟨#[45]⟩ : ByteArray) ++ short, text] #[.string ((⟨#[45]⟩ : ByteArray) ++ short), .string text] rfl rfl rfl (by omega) (by omega) ?_ ?_)
          (focus (((repeat (first | (with_reducible exact Below.refl _ _) | (with_reducible assumption) | ((with_reducible refine Below.alloc ?_ ?_ _); rotate_left; focus ((try simp only [World.size_alloc, size_setCell, World.heap_drewN, size_drew]); (try omega); done)) | ((with_reducible refine Below.setCell ?_ ?_ _); rotate_left; focus ((try simp only [World.size_alloc, size_setCell, World.heap_drewN, size_drew]); (try omega); done)) | (with_reducible refine Below.drewN' ?_) | (with_reducible refine Below.drew ?_))); done)))
          (focus (((repeat (first | (with_reducible assumption) | ((with_reducible refine heap_past' ?_ ?_); focus ((try simp only [World.size_alloc, size_setCell, World.heap_drewN, size_drew]); (try omega); done)) | ((with_reducible refine heap_at _ _ _ ?_); focus ((try simp only [World.size_alloc, size_setCell, World.heap_drewN, size_drew]); (try omega); done)) | ((with_reducible refine heap_ne' ?_ ?_); focus ((try simp only [World.size_alloc, size_setCell, World.heap_drewN, size_drew]); (try omega); done)) | (with_reducible refine heap_drew' ?_) | (with_reducible refine heap_drew1' ?_))); done)))
          intro g5 c5 w5 R5 K5
          have HR5 := Lib.hid R5
          have hX5 : w5.heap[w.heap.size]? = some (.cells #[.slice (some ⟨nb, nof, none⟩) fs.length fc, .bool plain, .bool unk, .int .i64 fold] 24 (0, 0)) := K5 _ _ _ _ (by ((repeat (first | (with_reducible assumption) | ((with_reducible refine heap_past' ?_ ?_); focus ((try simp only [World.size_alloc, size_setCell, World.heap_drewN, size_drew]); (try omega); done)) | ((with_reducible refine heap_at _ _ _ ?_); focus ((try simp only [World.size_alloc, size_setCell, World.heap_drewN, size_drew]); (try omega); done)) | ((with_reducible refine heap_ne' ?_ ?_); focus ((try simp only [World.size_alloc, size_setCell, World.heap_drewN, size_drew]); (try omega); done)) | (with_reducible refine heap_drew' ?_) | (with_reducible refine heap_drew1' ?_))); done)) (.inl (by decide))
          have HX5 := Lib.hid hX5
          clear R5 K5 hX5)
          go_roundw
          case rel => exact ⟨k + 1, A ++ [(⟨#[45]⟩ : ByteArray) ++ short, text], G ++ [(kf, text)], L, by omega, by go_num, HR5.out, HX5.out, HWM.out hsh' hno', by simp only [List.length_append, List.length_cons, List.length_nil]; omega, by simp only [List.length_append, List.length_cons, List.length_nil]; omega, by omega, HQN.out _ (by simp only [List.mem_cons, List.not_mem_nil, or_false]; rintro t (rfl | rfl) <;> first | omega | (simp only [ByteArray.size_append, dd_size, d_size, eqS_size]; omega))⟩
          case measure => simp [intOf]; omega
end Go.Proofs.Ytcpjdgbnfjdakaa
