/- impl.ShortLookup. -/
import Derived.Test.YtojmhahdmlmglaaNShort
namespace Go.Proofs.Ytojmhahdmlmglaa
open Go.RowKit
set_option linter.unusedVariables false
set_option linter.unusedSimpArgs false

/-- What ShortLookup tells. -/
def Looked (l : List DefD) (nm : ByteArray) (e : Ending) : Prop :=
  (1 < nm.size → e = .returned (.tuple #[.string ⟨#[]⟩, .bool false, .bool true])) ∧
  (¬ 1 < nm.size → (e = .returned (.tuple #[.string ⟨#[]⟩, .bool false, .bool false]) ∧ ∀ x ∈ l, ¬ (x.sh = nm ∧ nm.size ≠ 0)) ∨ ∃ x ∈ l, x.sh = nm ∧ nm.size ≠ 0 ∧ e = .returned (.tuple #[.string x.nm, .bool true, .bool false]))

/-- The flag that was found, as it lies. -/
theorem found_name {w0 w : World} {F : Nat} {es : List (DefD × Nat)} (h : ManyE w0 F es w) (e : DefD × Nat) (he : e ∈ es) : ∃ cs, w.heap[e.2]? = some (.cells cs 59 (0, 0)) ∧ cs[0]? = some (.string e.1.nm) := by
  obtain ⟨fm, sm, ofv, h⟩ := h
  obtain ⟨fb, cs, e1, e2, e3, _⟩ := h.hfl (e.1.nm, ptr e.2) (List.mem_map.2 ⟨e, he, rfl⟩)
  have : fb = e.2 := by
    simp only [ptr, Value.pointer.injEq, Option.some.injEq, Addr.mk.injEq] at e1
    exact e1.1.symm
  subst this
  exact ⟨cs, e2, e3⟩

set_option maxRecDepth 100000 in
set_option maxHeartbeats 1600000 in
theorem shortLookup_any (v : Value) (l : List DefD) (w : World) (nm : ByteArray) (hv : Defs w v l) (hok : AllOk l) (hl : l.length ≤ 16) (hx : ∀ x ∈ l, (x.k = 0 ∨ x.k = 1) ∧ x.sh.size ≤ 60) (hn : nm.size ≤ 60) :
    Calls Try.prog 11 #[v, .string nm] w fun e w' => Looked l nm e ∧ Below w.heap.size w w' := by
  have hmf : ∀ (fn : Fn) (first cap : Array Value) (w : World), (Instr.makeFunc fn first cap).run Try.prog w = .ok (.func fn first cap) w := fun _ _ _ _ => rfl
  have hq1 : ∀ w, Sem.run Try.prog (binOp BinOp.eql 52 (Value.pointer none) (Value.pointer none)) w = .ok (.bool true) w := fun _ => by kernel_rfl
  have hq2 : ∀ b w, Sem.run Try.prog (binOp BinOp.eql 52 (Value.pointer (some ⟨b, 0, none⟩)) (Value.pointer none)) w = .ok (.bool false) w := fun _ _ => by kernel_rfl
  obtain ⟨a, cap, rfl, hcap⟩ := hv.len
  have HB3 : Hid (Below w.heap.size w (((w.alloc (.cells #[.slice a l.length cap] 22)).alloc (.cells #[.string nm] 9)).alloc (.cells #[.pointer none] 52))) := Lib.hid ((((Below.refl _ _).alloc (Nat.le_refl _) _).alloc (by simp only [World.size_alloc]; omega) _).alloc (by simp only [World.size_alloc]; omega) _)
  have hD : (((w.alloc (.cells #[.slice a l.length cap] 22)).alloc (.cells #[.string nm] 9)).alloc (.cells #[.pointer none] 52)).heap[w.heap.size]? = some (.cells #[.slice a l.length cap] 22 (0, 0)) := heap_past' (by simp only [World.size_alloc]; omega) (heap_past' (by simp only [World.size_alloc]; omega) (heap_at _ _ _ rfl))
  have hS : (((w.alloc (.cells #[.slice a l.length cap] 22)).alloc (.cells #[.string nm] 9)).alloc (.cells #[.pointer none] 52)).heap[w.heap.size + 1]? = some (.cells #[.string nm] 9 (0, 0)) := heap_past' (by simp only [World.size_alloc]; omega) (heap_at _ _ _ (by simp only [World.size_alloc]))
  have hX : (((w.alloc (.cells #[.slice a l.length cap] 22)).alloc (.cells #[.string nm] 9)).alloc (.cells #[.pointer none] 52)).heap[w.heap.size + 1 + 1]? = some (.cells #[.pointer none] 52 (0, 0)) := heap_at _ _ _ (by simp only [World.size_alloc])
  have hv3 := hv.later HB3.out
  obtain ⟨w3, hw3⟩ : ∃ w3, w3 = ((w.alloc (.cells #[.slice a l.length cap] 22)).alloc (.cells #[.string nm] 9)).alloc (.cells #[.pointer none] 52) := ⟨_, rfl⟩
  rw [← hw3] at HB3 hD hS hX hv3
  have hb4 := (Below.refl w3.heap.size w3).alloc (Nat.le_refl _) (.cells #[.bool false] 4)
  have hD4 := heap_past' (o := .cells #[.bool false] 4) (lt_of_block hD) hD
  have hS4 := heap_past' (o := .cells #[.bool false] 4) (lt_of_block hS) hS
  have hX4 := heap_past' (o := .cells #[.bool false] 4) (lt_of_block hX) hX
  have hXB : w.heap.size + 1 + 1 < w3.heap.size := lt_of_block hX
  by_cases h1 : 1 < nm.size
  · have C : Hid (Calls Try.prog 15 #[.func (.func 20) #[] #[.pointer (some ⟨w.heap.size, 0, none⟩), .pointer (some ⟨w.heap.size + 1, 0, none⟩), .pointer (some ⟨w.heap.size + 1 + 1, 0, none⟩)]] w3 fun e w' => e = .returned (.bool true) ∧ Below w.heap.size w w') := Lib.hid (by
      refine (guarded_bad 20 _ w3 (fun w' => Below (w3.alloc (.cells #[.bool false] 4)).heap.size (w3.alloc (.cells #[.bool false] 4)) w') _ rfl (fun _ => by go_simp) ?_ ?_).mono ?_
      · exact (short1_bad _ l _ nm (hv3.later hb4) hok hl hx h1 hn hD4 hS4).mono fun e w' h => ⟨h.1, h.2⟩
      · intro w' hb
        exact (hb.block _ (by simp only [World.size_alloc]; omega)).trans (heap_at _ _ _ rfl)
      · rintro e w' ⟨rfl, w1, hb, rfl⟩
        refine ⟨rfl, ?_⟩
        have hs := HB3.out.size
        refine Below.setCell (HB3.out.trans ((hb4.mono hs).trans (hb.mono ?_))) hs _
        simp only [World.size_alloc]; omega)
    clear hD hS hX hD4 hS4 hX4 hv3 hb4
    go_enter Try.func11, Try.ntmps11
    go_wp2_with fail
    rw [← hw3]
    refine C.out.mono ?_
    rintro e w5 ⟨rfl, hb5⟩
    have HB5 := Lib.hid hb5
    clear C hb5
    go_wp2_with fail
    go_ret3
    exact ⟨⟨fun _ => rfl, fun h => absurd h1 h⟩, HB5.out⟩
  · have C : Hid (Calls Try.prog 15 #[.func (.func 20) #[] #[.pointer (some ⟨w.heap.size, 0, none⟩), .pointer (some ⟨w.heap.size + 1, 0, none⟩), .pointer (some ⟨w.heap.size + 1 + 1, 0, none⟩)]] w3 fun e w' => e = .returned (.bool false) ∧ ∃ wb F es u w1, es.map (·.1) = l ∧ ManyE wb F es w1 ∧ w1.heap[w.heap.size + 1 + 1]? = some (.cells #[.pointer none] 52 (0, 0)) ∧ Below w.heap.size w w1 ∧ Found es nm u ∧ w' = w1.setCell ⟨w.heap.size + 1 + 1, 0, none⟩ u) := Lib.hid (by
      refine (guarded_ok 20 _ w3 (fun w' => ∃ wb F es u w1, es.map (·.1) = l ∧ ManyE wb F es w1 ∧ Below (w3.alloc (.cells #[.bool false] 4)).heap.size (w3.alloc (.cells #[.bool false] 4)) w1 ∧ Found es nm u ∧ w' = w1.setCell ⟨w.heap.size + 1 + 1, 0, none⟩ u) _ rfl (fun _ => by go_simp) ?_ ?_).mono ?_
      · exact short1_ok _ l _ nm (hv3.later hb4) hok hl hx (by omega) hD4 hS4 hX4
      · rintro w' ⟨wb, F, es, u, w1, _, _, hb, _, rfl⟩
        exact (heap_ne _ _ _ _ (by show w3.heap.size ≠ w.heap.size + 1 + 1; omega)).trans ((hb.block _ (by simp only [World.size_alloc]; omega)).trans (heap_at _ _ _ rfl))
      · rintro e w' ⟨rfl, wb, F, es, u, w1, he, hm, hb, hf, rfl⟩
        have hs := HB3.out.size
        exact ⟨rfl, wb, F, es, u, w1, he, hm, (hb.block _ (by simp only [World.size_alloc]; omega)).trans hX4, HB3.out.trans ((hb4.mono hs).trans (hb.mono (by simp only [World.size_alloc]; omega))), hf, rfl⟩)
    clear hD hS hX hD4 hS4 hX4 hv3 hb4
    go_enter Try.func11, Try.ntmps11
    go_wp2_with fail
    rw [← hw3]
    refine C.out.mono ?_
    rintro e w5 ⟨rfl, wb, F, es, u, w1, he, hm, hx1, hb1, hf, rfl⟩
    have hx5 := heap_set hx1 0 u
    have HB5 : Hid (Below w.heap.size w (w1.setCell ⟨w.heap.size + 1 + 1, 0, none⟩ u)) := Lib.hid (Below.setCell hb1 (by show w.heap.size ≤ w.heap.size + 1 + 1; omega) u)
    have hc := cell_of hx5 0 u rfl
    cases hf with
    | none hnone =>
      have HR : Hid (Looked l nm (.returned (.tuple #[.string ⟨#[]⟩, .bool false, .bool false]))) := Lib.hid ⟨fun h => absurd h h1, fun _ => .inl ⟨rfl, fun x hx => by
        rw [← he] at hx
        obtain ⟨e, hem, rfl⟩ := List.mem_map.1 hx
        exact hnone e hem⟩⟩
      generalize w1.setCell ⟨w.heap.size + 1 + 1, 0, none⟩ (.pointer none) = w6 at *
      clear hx5 hx1 hb1 hm he hnone C
      go_wp2_with fail
      go_ret3
      exact ⟨HR.out, HB5.out⟩
    | some e he' hsh h0 =>
      obtain ⟨⟨t, sh, kd, on, n, tx⟩, G⟩ := e
      simp only at hsh hc HB5 hx5 ⊢
      obtain ⟨cs, hcs, hc0⟩ := found_name hm (⟨t, sh, kd, on, n, tx⟩, G) he'
      have HR : Hid (Looked l nm (.returned (.tuple #[.string t, .bool true, .bool false]))) := Lib.hid ⟨fun h => absurd h h1, fun _ =>   .inr ⟨⟨t, sh, kd, on, n, tx⟩, by rw [← he]; exact List.mem_map.2 ⟨_, he', rfl⟩, hsh, h0, rfl⟩⟩
      have hcs5 : (w1.setCell ⟨w.heap.size + 1 + 1, 0, none⟩ (ptr G)).heap[G]? = some (.cells cs 59 (0, 0)) := heap_ne' (cells_ne hcs hx1 (by decide)) hcs
      have hn5 := cell_of hcs5 0 _ hc0
      unfold ptr at *
      simp only at hn5
      generalize w1.setCell ⟨w.heap.size + 1 + 1, 0, none⟩ (.pointer (some ⟨G, 0, none⟩)) = w6 at *
      clear hx5 hx1 hb1 hm he C hcs hcs5 hsh he'
      go_wp2_with fail
      go_ret3
      exact ⟨HR.out, HB5.out⟩
end Go.Proofs.Ytojmhahdmlmglaa
