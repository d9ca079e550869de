/- The walks of the reference's Begin, Parse, ParseAll. -/
import Derived.Test.YtcpjdgbnfjdakaaSpecH
import Derived.Test.YtcpjdgbnfjdakaaFits
import Derived.Deep.RegionHeld3
namespace Go.Proofs.Ytcpjdgbnfjdakaa
open Go.RowKit
set_option linter.unusedVariables false
set_option linter.unusedSimpArgs false

/-- A run that begins, in memory. -/
structure Begun (w : World) (fv : Value) (plain unk : Bool) (fold : Int) (K : SSt) : Prop where
  fv : K.fv = fv
  plain : K.plain = plain
  unk : K.unk = unk
  fold : K.fold = fold
  parsed : K.parsed = false
  all : K.all = false
  bad : K.badV = .slice none 0 0
  bel : Below w.heap.size w K.w0
  X : K.X = w.heap.size + 1

theorem begin_any (fv : Value) (plain unk : Bool) (fold : Int) (w : World) :
    Calls Try.prog 25 #[.agg #[fv, .bool plain, .bool unk, .int .i64 fold]] w fun e w' => e = .returned (ptr (w.heap.size + 1)) ∧ ∃ K, Begun w fv plain unk fold K ∧ SIn K (.slice none 0 0) (.slice none 0 0) begin0 w' := by
  go_enter Try.func25, Try.ntmps25
  go_wp2_with fail
  go_ret
  refine ⟨rfl, ⟨w.alloc (.cells #[fv, .bool plain, .bool unk, .int .i64 fold] 24), w.heap.size + 1, fv, plain, unk, fold, false, false, .slice none 0 0⟩, ⟨rfl, rfl, rfl, rfl, rfl, rfl, rfl, by (repeat (first | (with_reducible exact Below.refl _ _) | (with_reducible assumption) | ((with_reducible refine Below.alloc ?_ ?_ _); rotate_left; focus ((try simp only [World.size_alloc, size_setCell, World.heap_drewN]); (try omega); done)) | ((with_reducible refine Below.setCell ?_ ?_ _); rotate_left; focus ((try simp only [World.size_alloc, size_setCell, World.heap_drewN]); (try omega); done)) | (with_reducible refine Below.drewN' ?_) | (with_reducible refine Below.drew ?_))), rfl⟩, ?_⟩
  refine ⟨(Below.refl _ _).alloc (Nat.le_refl _) _, ?_, ?_, ⟨rfl, .inl ⟨rfl, rfl⟩⟩, ⟨rfl, .inl ⟨rfl, rfl⟩⟩⟩
  · exact heap_at _ _ _ (by simp)
  · simp [SSt.base]

theorem SC.cell {K : SSt} {gv av : Value} {r : RunD} {cells : Array Value} {w : World} (h : SC K gv av r cells w) (i : Nat) (v : Value) (hv : cells[i]? = some v) : w.cell? ⟨K.X, i, none⟩ = some v := by
  simp [World.cell?, h.hX, hv]
theorem SC.free {K : SSt} {gv av : Value} {r : RunD} {cells : Array Value} {w : World} (h : SC K gv av r cells w) (i : Nat) : w.frozen? ⟨K.X, i, none⟩ = false := by
  simp [World.frozen?, h.hX]
theorem SC.later {K : SSt} {gv av : Value} {r : RunD} {cells : Array Value} {w w' : World} (h : SC K gv av r cells w) (hb : Below w.heap.size w w') : SC K gv av r cells w' where
  bel := h.bel.trans (hb.mono h.bel.size)
  hX := (hb.block _ (lt_of_block h.hX)).trans h.hX
  bX := h.bX
  rG := ownsRow_at h.rG fun g hg => by obtain ⟨_, c, hc⟩ := ownsRow_cells h.rG hg; exact hb.block g (lt_of_block hc)
  rA := ownsRow_at h.rA fun g hg => by obtain ⟨_, c, hc⟩ := ownsRow_cells h.rA hg; exact hb.block g (lt_of_block hc)

/-- The cells of a variable of what was heard that holds nothing yet. -/
def zeroH : Array Value := #[.int .i64 0, .string ⟨#[]⟩, .string ⟨#[]⟩, .string ⟨#[]⟩, .int .i64 0, .slice none 0 0, .slice none 0 0, .int .i64 0, .slice none 0 0, .bool false, .bool false]
/-- Eleven cells are written. -/
theorem put11 {w : World} {R : Nat} {ty : TypeId} {fz : Nat × Nat} (h : w.heap[R]? = some (.cells zeroH ty fz)) (v0 v1 v2 v3 v4 v5 v6 v7 v8 v9 v10 : Value) :
    (((((((((((w.setCell ⟨R, 0, none⟩ v0).setCell ⟨R, 1, none⟩ v1).setCell ⟨R, 2, none⟩ v2).setCell ⟨R, 3, none⟩ v3).setCell ⟨R, 4, none⟩ v4).setCell ⟨R, 5, none⟩ v5).setCell ⟨R, 6, none⟩ v6).setCell ⟨R, 7, none⟩ v7).setCell ⟨R, 8, none⟩ v8).setCell ⟨R, 9, none⟩ v9).setCell ⟨R, 10, none⟩ v10).heap[R]? = some (.cells #[v0, v1, v2, v3, v4, v5, v6, v7, v8, v9, v10] ty fz) ∧ (∀ b, b ≠ R → (((((((((((w.setCell ⟨R, 0, none⟩ v0).setCell ⟨R, 1, none⟩ v1).setCell ⟨R, 2, none⟩ v2).setCell ⟨R, 3, none⟩ v3).setCell ⟨R, 4, none⟩ v4).setCell ⟨R, 5, none⟩ v5).setCell ⟨R, 6, none⟩ v6).setCell ⟨R, 7, none⟩ v7).setCell ⟨R, 8, none⟩ v8).setCell ⟨R, 9, none⟩ v9).setCell ⟨R, 10, none⟩ v10).heap[b]? = w.heap[b]?) ∧ (∀ B, B ≤ R → Below B w (((((((((((w.setCell ⟨R, 0, none⟩ v0).setCell ⟨R, 1, none⟩ v1).setCell ⟨R, 2, none⟩ v2).setCell ⟨R, 3, none⟩ v3).setCell ⟨R, 4, none⟩ v4).setCell ⟨R, 5, none⟩ v5).setCell ⟨R, 6, none⟩ v6).setCell ⟨R, 7, none⟩ v7).setCell ⟨R, 8, none⟩ v8).setCell ⟨R, 9, none⟩ v9).setCell ⟨R, 10, none⟩ v10)) := by
  have h0 : (w.setCell ⟨R, 0, none⟩ v0).heap[R]? = some (.cells #[v0, .string ⟨#[]⟩, .string ⟨#[]⟩, .string ⟨#[]⟩, .int .i64 0, .slice none 0 0, .slice none 0 0, .int .i64 0, .slice none 0 0, .bool false, .bool false] ty fz) := heap_set h 0 v0
  have h1 : ((w.setCell ⟨R, 0, none⟩ v0).setCell ⟨R, 1, none⟩ v1).heap[R]? = some (.cells #[v0, v1, .string ⟨#[]⟩, .string ⟨#[]⟩, .int .i64 0, .slice none 0 0, .slice none 0 0, .int .i64 0, .slice none 0 0, .bool false, .bool false] ty fz) := heap_set h0 1 v1
  have h2 : (((w.setCell ⟨R, 0, none⟩ v0).setCell ⟨R, 1, none⟩ v1).setCell ⟨R, 2, none⟩ v2).heap[R]? = some (.cells #[v0, v1, v2, .string ⟨#[]⟩, .int .i64 0, .slice none 0 0, .slice none 0 0, .int .i64 0, .slice none 0 0, .bool false, .bool false] ty fz) := heap_set h1 2 v2
  have h3 : ((((w.setCell ⟨R, 0, none⟩ v0).setCell ⟨R, 1, none⟩ v1).setCell ⟨R, 2, none⟩ v2).setCell ⟨R, 3, none⟩ v3).heap[R]? = some (.cells #[v0, v1, v2, v3, .int .i64 0, .slice none 0 0, .slice none 0 0, .int .i64 0, .slice none 0 0, .bool false, .bool false] ty fz) := heap_set h2 3 v3
  have h4 : (((((w.setCell ⟨R, 0, none⟩ v0).setCell ⟨R, 1, none⟩ v1).setCell ⟨R, 2, none⟩ v2).setCell ⟨R, 3, none⟩ v3).setCell ⟨R, 4, none⟩ v4).heap[R]? = some (.cells #[v0, v1, v2, v3, v4, .slice none 0 0, .slice none 0 0, .int .i64 0, .slice none 0 0, .bool false, .bool false] ty fz) := heap_set h3 4 v4
  have h5 : ((((((w.setCell ⟨R, 0, none⟩ v0).setCell ⟨R, 1, none⟩ v1).setCell ⟨R, 2, none⟩ v2).setCell ⟨R, 3, none⟩ v3).setCell ⟨R, 4, none⟩ v4).setCell ⟨R, 5, none⟩ v5).heap[R]? = some (.cells #[v0, v1, v2, v3, v4, v5, .slice none 0 0, .int .i64 0, .slice none 0 0, .bool false, .bool false] ty fz) := heap_set h4 5 v5
  have h6 : (((((((w.setCell ⟨R, 0, none⟩ v0).setCell ⟨R, 1, none⟩ v1).setCell ⟨R, 2, none⟩ v2).setCell ⟨R, 3, none⟩ v3).setCell ⟨R, 4, none⟩ v4).setCell ⟨R, 5, none⟩ v5).setCell ⟨R, 6, none⟩ v6).heap[R]? = some (.cells #[v0, v1, v2, v3, v4, v5, v6, .int .i64 0, .slice none 0 0, .bool false, .bool false] ty fz) := heap_set h5 6 v6
  have h7 : ((((((((w.setCell ⟨R, 0, none⟩ v0).setCell ⟨R, 1, none⟩ v1).setCell ⟨R, 2, none⟩ v2).setCell ⟨R, 3, none⟩ v3).setCell ⟨R, 4, none⟩ v4).setCell ⟨R, 5, none⟩ v5).setCell ⟨R, 6, none⟩ v6).setCell ⟨R, 7, none⟩ v7).heap[R]? = some (.cells #[v0, v1, v2, v3, v4, v5, v6, v7, .slice none 0 0, .bool false, .bool false] ty fz) := heap_set h6 7 v7
  have h8 : (((((((((w.setCell ⟨R, 0, none⟩ v0).setCell ⟨R, 1, none⟩ v1).setCell ⟨R, 2, none⟩ v2).setCell ⟨R, 3, none⟩ v3).setCell ⟨R, 4, none⟩ v4).setCell ⟨R, 5, none⟩ v5).setCell ⟨R, 6, none⟩ v6).setCell ⟨R, 7, none⟩ v7).setCell ⟨R, 8, none⟩ v8).heap[R]? = some (.cells #[v0, v1, v2, v3, v4, v5, v6, v7, v8, .bool false, .bool false] ty fz) := heap_set h7 8 v8
  have h9 : ((((((((((w.setCell ⟨R, 0, none⟩ v0).setCell ⟨R, 1, none⟩ v1).setCell ⟨R, 2, none⟩ v2).setCell ⟨R, 3, none⟩ v3).setCell ⟨R, 4, none⟩ v4).setCell ⟨R, 5, none⟩ v5).setCell ⟨R, 6, none⟩ v6).setCell ⟨R, 7, none⟩ v7).setCell ⟨R, 8, none⟩ v8).setCell ⟨R, 9, none⟩ v9).heap[R]? = some (.cells #[v0, v1, v2, v3, v4, v5, v6, v7, v8, v9, .bool false] ty fz) := heap_set h8 9 v9
  have h10 : (((((((((((w.setCell ⟨R, 0, none⟩ v0).setCell ⟨R, 1, none⟩ v1).setCell ⟨R, 2, none⟩ v2).setCell ⟨R, 3, none⟩ v3).setCell ⟨R, 4, none⟩ v4).setCell ⟨R, 5, none⟩ v5).setCell ⟨R, 6, none⟩ v6).setCell ⟨R, 7, none⟩ v7).setCell ⟨R, 8, none⟩ v8).setCell ⟨R, 9, none⟩ v9).setCell ⟨R, 10, none⟩ v10).heap[R]? = some (.cells #[v0, v1, v2, v3, v4, v5, v6, v7, v8, v9, v10] ty fz) := heap_set h9 10 v10
  exact ⟨h10, fun b hb => ((heap_ne _ _ _ b hb).trans ((heap_ne _ _ _ b hb).trans ((heap_ne _ _ _ b hb).trans ((heap_ne _ _ _ b hb).trans ((heap_ne _ _ _ b hb).trans ((heap_ne _ _ _ b hb).trans ((heap_ne _ _ _ b hb).trans ((heap_ne _ _ _ b hb).trans ((heap_ne _ _ _ b hb).trans ((heap_ne _ _ _ b hb).trans ((heap_ne _ _ _ b hb).trans rfl))))))))))), fun B hB => (((((((((((Below.refl _ _).setCell hB _).setCell hB _).setCell hB _).setCell hB _).setCell hB _).setCell hB _).setCell hB _).setCell hB _).setCell hB _).setCell hB _).setCell hB _⟩

theorem results_cell_one {fn : Func} {p : Tmp} {ty : TypeId} (h : fn.results = #[.cell p ty]) (tmps : Array Value) (P : Program) (w : World) :
    (results fn tmps).run P w = ((asAddr (tmps.getD p undef)).run P w).andThen fun a w₁ => (loadVar ty a).run P w₁ := by
  simp only [results, h]
  simp [Sem.run_bind, Result.andThen]

theorem cell_of {w : World} {b : Nat} {cells : Array Value} {ty : TypeId} {fz : Nat × Nat} (h : w.heap[b]? = some (.cells cells ty fz)) (i : Nat) (v : Value) (hv : cells[i]? = some v) : w.cell? ⟨b, i, none⟩ = some v := by
  simp [World.cell?, h, hv]

theorem load_heard {w : World} {R : Nat} {ty : TypeId} {fz : Nat × Nat} {v0 v1 v2 v3 v4 v5 v6 v7 v8 v9 v10 : Value} (h : w.heap[R]? = some (.cells #[v0, v1, v2, v3, v4, v5, v6, v7, v8, v9, v10] ty fz)) :
    (loadVar 33 ⟨R, 0, none⟩).run Try.prog w = .ok (.agg #[v0, v1, v2, v3, v4, v5, v6, v7, v8, v9, v10]) w := by
  have q0 := cell_of h 0 _ rfl
  have q1 := cell_of h 1 _ rfl
  have q2 := cell_of h 2 _ rfl
  have q3 := cell_of h 3 _ rfl
  have q4 := cell_of h 4 _ rfl
  have q5 := cell_of h 5 _ rfl
  have q6 := cell_of h 6 _ rfl
  have q7 := cell_of h 7 _ rfl
  have q8 := cell_of h 8 _ rfl
  have q9 := cell_of h 9 _ rfl
  have q10 := cell_of h 10 _ rfl
  clear h
  go_simp

/-- What was heard, as it is returned. -/
def HeardIs (e : Ending) (w' : World) (r : RunD) (chg : List Nat) : Prop :=
  ∃ gv av cv, e = .returned (.agg (hCells r.err r.dash true gv av cv)) ∧ Givens w' gv r.given ∧ Texts w' av r.args ∧ Ints w' cv chg

theorem shortsN_given2 (s : SetD) (way : Way) (text : ByteArray) (rest : List ByteArray) (r : RunD) : (shortsF s way text rest r).1.given.length ≤ r.given.length + text.size := shortsN_given s way rest _ _ _ _

theorem goesN_given (s : SetD) (way : Way) : ∀ (n : Nat) (l : List ByteArray) (r : RunD), (goesN s way n l r).given.length ≤ r.given.length + bytesOf l
  | 0, l, r => by simp [goesN]
  | n + 1, [], r => by simp [goesN]
  | n + 1, x :: l, r => by
    rw [goesN, bytesOf_cons]
    split
    · omega
    · split
      · split
        · show r.given.length ≤ _; omega
        · have := goesN_given s way n l { r with args := r.args ++ [x] }
          simp only at this; omega
      · split
        · split
          · show r.given.length ≤ _; omega
          · have h1 := goesN_given s way n (longF s way x l r).2 (longF s way x l r).1
            have h2 := longF_given s way x l r
            have h3 := bytesOf_suffix (longF_suffix s way x l r)
            omega
        · rename_i hb _
          have h1 := goesN_given s way n (shortsF s way (x.extract 1 x.size) l r).2 (shortsF s way (x.extract 1 x.size) l r).1
          have h2 := shortsN_given2 s way (x.extract 1 x.size) l r
          have h3 : bytesOf (shortsF s way (x.extract 1 x.size) l r).2 ≤ bytesOf l := bytesOf_suffix (shortsN_suffix s way l _ _ _ _ (List.suffix_refl _))
          have h4 : (x.extract 1 x.size).size ≤ x.size := by rw [ByteArray.size_extract]; omega
          omega

set_option maxRecDepth 100000 in
set_option maxHeartbeats 400000 in
theorem specParse_any (fv : Value) (plain unk : Bool) (fold : Int) (s : SetD) (w : World) (hv : FlagRows w fv s.flags) (hp : s.plain = plain) (hu : s.unknown = unk) (hlo : s.lo = (bits .and .i64 fold 1 == 1)) (hda : s.da = (bits .and .i64 fold 2 == 2)) (hfs : SmallFs s.flags)
    (v : Value) (l : List ByteArray) (ht : Texts w v l) (hs : ∀ t ∈ l, t.size ≤ 2147483647) (hl : l.length ≤ 2147483647) (hg : bytesOf l ≤ 1099511627776) :
    Calls Try.prog 21 #[.agg #[fv, .bool plain, .bool unk, .int .i64 fold], v] w fun e w' => HeardIs e w' (goesF s .sets l begin0) (chgU (goesF s .sets l begin0).given s.flags.length) ∧ Below w.heap.size w w' := by
  obtain ⟨a, cap, rfl⟩ := hv.len
  obtain ⟨w1, hw1⟩ : ∃ w1, ((w.alloc (.cells #[.slice a s.flags.length cap, .bool plain, .bool unk, .int .i64 fold] 24)).alloc (.cells #[.int .i64 0, .string ⟨#[]⟩, .string ⟨#[]⟩, .string ⟨#[]⟩, .int .i64 0, .slice none 0 0, .slice none 0 0, .int .i64 0, .slice none 0 0, .bool false, .bool false] 33)) = w1 := ⟨_, rfl⟩
  have hb1 : Below w.heap.size w w1 := by rw [← hw1]; exact ((Below.refl _ _).alloc (Nat.le_refl _) _).alloc (by simp) _
  have hX : w1.heap[w.heap.size]? = some (.cells #[.slice a s.flags.length cap, .bool plain, .bool unk, .int .i64 fold] 24 (0, 0)) := by rw [← hw1]; exact heap_past' (by simp) (heap_at _ _ _ rfl)
  have hR : w1.heap[w.heap.size + 1]? = some (.cells #[.int .i64 0, .string ⟨#[]⟩, .string ⟨#[]⟩, .string ⟨#[]⟩, .int .i64 0, .slice none 0 0, .slice none 0 0, .int .i64 0, .slice none 0 0, .bool false, .bool false] 33 (0, 0)) := by rw [← hw1]; exact heap_at _ _ _ (by simp)
  have hs1 : w1.heap.size = w.heap.size + 2 := by rw [← hw1]; simp
  have c0 : w1.cell? ⟨w.heap.size, 0, none⟩ = some (.slice a s.flags.length cap) := by simp [World.cell?, hX]
  have c1 : w1.cell? ⟨w.heap.size, 1, none⟩ = some (.bool plain) := by simp [World.cell?, hX]
  have c2 : w1.cell? ⟨w.heap.size, 2, none⟩ = some (.bool unk) := by simp [World.cell?, hX]
  have c3 : w1.cell? ⟨w.heap.size, 3, none⟩ = some (.int .i64 fold) := by simp [World.cell?, hX]
  have HV := Lib.hid hv
  have HT := Lib.hid ht
  have HS := Lib.hid hs
  have HB1 := Lib.hid hb1
  have HS1 := Lib.hid hs1
  clear hv ht hs hb1 hs1
  go_enter Try.func21, Try.ntmps21
  go_wp2_with fail
  refine (begin_any _ plain unk fold _).mono ?_
  rintro e w2 ⟨rfl, K, B, i2⟩
  have hk1 := B.bel
  have ok : SOk K s .sets := by
    refine ⟨?_, ?_, ?_, ?_, ?_, hfs.1, fun f hf => ?_, .inl ⟨rfl, B.all⟩⟩
    · rw [B.fv]; exact HV.out.later fun b hb => (hk1.block b (Nat.lt_of_lt_of_le hb HB1.out.size)).trans (HB1.out.block b hb)
    · rw [B.plain]; exact hp
    · rw [B.unk]; exact hu
    · rw [B.fold]; exact hlo
    · rw [B.fold]; exact hda
    · have q := hfs.2 f hf; exact ⟨q.1, q.2.1, q.2.2.1, q.2.2.2.1⟩
  have htK : Texts K.w0 v l := HT.out.later fun b hb => (hk1.block b (Nat.lt_of_lt_of_le hb HB1.out.size)).trans (HB1.out.block b hb)
  have C := Lib.hid (goesS_any ok ⟨_, _, i2⟩ v l htK HS.out hl (by simpa [begin0] using hg) (by simp only [begin0, List.length_nil]; omega))
  rw [B.X] at C
  have hgl := goesN_given s .sets l.length l begin0
  have HGL : Hid ((goesF s .sets l begin0).given.length ≤ 1099511627776) := Lib.hid (by
    have : (goesF s .sets l begin0).given.length ≤ begin0.given.length + bytesOf l := hgl
    simp only [begin0, List.length_nil] at this ⊢; omega)
  clear hgl
  clear hw1
  go_wp2_with fail
  refine C.out.mono ?_
  rintro e w3 ⟨rfl, gv, av, i3⟩
  obtain ⟨r, hr⟩ : ∃ r, goesF s .sets l begin0 = r := ⟨_, rfl⟩
  rw [hr] at i3 HGL
  have HRR := Lib.hid hr
  clear hr C
  obtain ⟨gva, gvc, rfl⟩ := row_form i3.rG
  obtain ⟨ava, avc, rfl⟩ := row_form i3.rA
  have i4 := i3.later (Below.refl _ w3).drew
  have HRb := Lib.hid (fun b (hb : b < w1.heap.size) => hk1.block b hb)
  have hKX : ({ K with X := w1.heap.size + 1, parsed := true } : SSt).X = w1.heap.size + 1 := rfl
  have hK0 : ({ K with X := w1.heap.size + 1, parsed := true } : SSt).w0 = K.w0 := rfl
  have hKp : ({ K with X := w1.heap.size + 1, parsed := true } : SSt).parsed = true := rfl
  generalize ({ K with X := w1.heap.size + 1, parsed := true } : SSt) = K2 at *
  have HBL : Hid (∀ b, b < w1.heap.size → w3.drew.heap[b]? = w1.heap[b]?) := Lib.hid (fun b hb => by
    have q := i4.bel
    rw [SSt.base, hK0] at q
    exact (q.block b (Nat.lt_of_lt_of_le hb hk1.size)).trans (HRb.out b hb))
  have hXd := (HBL.out _ (lt_of_block hX)).trans hX
  have hRd := (HBL.out _ (lt_of_block hR)).trans hR
  have hs1 := HS1.out
  have hVd : FlagRows w3.drew (.slice a s.flags.length cap) s.flags := HV.out.later fun b hb => (HBL.out b (by omega)).trans (HB1.out.block b hb)
  have d0 : w3.drew.cell? ⟨w.heap.size, 0, none⟩ = some (.slice a s.flags.length cap) := by simp only [World.cell?, hXd]; rfl
  have d1 : w3.drew.cell? ⟨w.heap.size, 1, none⟩ = some (.bool plain) := by simp only [World.cell?, hXd]; rfl
  have d2 : w3.drew.cell? ⟨w.heap.size, 2, none⟩ = some (.bool unk) := by simp only [World.cell?, hXd]; rfl
  have d3 : w3.drew.cell? ⟨w.heap.size, 3, none⟩ = some (.int .i64 fold) := by simp only [World.cell?, hXd]; rfl
  have d9 := i4.cell 9 (.slice gva r.given.length gvc) rfl
  rw [hKX] at d9
  have CH := changed_any _ s.flags plain unk fold (.slice gva r.given.length gvc) r.given w3.drew hVd hfs.1 (Givens.ofRow i4.rG) HGL.out
  have HBW : Hid (Below w.heap.size w w3.drew) := Lib.hid (by
    have q := i4.bel
    rw [SSt.base, hK0] at q
    exact (HB1.out.trans ((hk1.mono HB1.out.size))).trans (q.mono (Nat.le_trans HB1.out.size hk1.size)))
  have lX : w1.heap.size + 1 < w3.drew.heap.size := by rw [← hKX]; exact lt_of_block i4.hX
  have hXb : w3.drew.heap[w.heap.size]? = some (.cells #[.slice a s.flags.length cap, .bool plain, .bool unk, .int .i64 fold] 24 (0, 0)) := hXd
  have hXX := i4.hX
  rw [hKX] at hXX
  have hne0 : w.heap.size ≠ w1.heap.size + 1 := by omega
  have keep : ∀ w', Below w3.drew.heap.size w3.drew w' → (w'.cell? ⟨w.heap.size, 0, none⟩ = some (.slice a s.flags.length cap) ∧ w'.cell? ⟨w.heap.size, 1, none⟩ = some (.bool plain) ∧ w'.cell? ⟨w.heap.size, 2, none⟩ = some (.bool unk) ∧ w'.cell? ⟨w.heap.size, 3, none⟩ = some (.int .i64 fold) ∧ w'.cell? ⟨w1.heap.size + 1, 9, none⟩ = some (.slice gva r.given.length gvc)) := fun w' h => by
    have e1 := (h.block _ (lt_of_block hXb)).trans hXb
    have e2 := (h.block _ lX).trans hXX
    simp only [World.cell?, e1, e2]
    exact ⟨rfl, rfl, rfl, rfl, rfl⟩
  have keep2 : ∀ w' v, Below w3.drew.heap.size w3.drew w' → (fun w' => w'.cell? ⟨w.heap.size, 0, none⟩ = some (.slice a s.flags.length cap) ∧ w'.cell? ⟨w.heap.size, 1, none⟩ = some (.bool plain) ∧ w'.cell? ⟨w.heap.size, 2, none⟩ = some (.bool unk) ∧ w'.cell? ⟨w.heap.size, 3, none⟩ = some (.int .i64 fold) ∧ w'.cell? ⟨w1.heap.size + 1, 9, none⟩ = some (.slice gva r.given.length gvc)) (w'.setCell ⟨w1.heap.size + 1, 12, none⟩ v) := fun w' v h => by
    have e1 := (heap_ne w' ⟨w1.heap.size + 1, 12, none⟩ v _ hne0).trans ((h.block _ (lt_of_block hXb)).trans hXb)
    have e2 := heap_set ((h.block _ lX).trans hXX) 12 v
    simp only [World.cell?, e1, e2]
    exact ⟨rfl, rfl, rfl, rfl, rfl⟩
  have HK := Lib.hid keep
  have HK2 := Lib.hid keep2
  clear keep keep2 hXb hXX lX hne0
  clear hs1 c0 c1 c2 c3 hVd hXd hX hR i3 i2 HV HT HS htK ok B d0 d1 d2 d3 d9
  go_wp2_with fail

  go_region_held3 (fun w' => w'.cell? ⟨w.heap.size, 0, none⟩ = some (.slice a s.flags.length cap) ∧ w'.cell? ⟨w.heap.size, 1, none⟩ = some (.bool plain) ∧ w'.cell? ⟨w.heap.size, 2, none⟩ = some (.bool unk) ∧ w'.cell? ⟨w.heap.size, 3, none⟩ = some (.int .i64 fold) ∧ w'.cell? ⟨w1.heap.size + 1, 9, none⟩ = some (.slice gva r.given.length gvc))
    (first
      | (with_reducible exact HK.out _ (Below.refl _ _))
      | (with_reducible exact HK.out _ hb5)
      | (with_reducible exact HK2.out _ _ hb5))
    (first
      | (go_simp; go_at_call 27; with_reducible refine CH.mono ?_; rintro e w5 ⟨cv, rfl, hcv, hb5⟩; have i5 := i4.sc.later hb5; obtain ⟨ca, cc, rfl⟩ := row_form hcv; have e12 := i5.cell 12 (.slice none 0 0) rfl; have f12 := i5.free 12; rw [hKX] at e12 f12))
  rename_i hHeld
  have i6 := i5.put 12 (.slice ca (chgU r.given s.flags.length).length cc)
  have g4 := i6.cell 4 (.int .i64 r.err.kind) rfl
  have g5 := i6.cell 5 (.string r.err.name) rfl
  have g6 := i6.cell 6 (.string r.err.shorts) rfl
  have g7 := i6.cell 7 (.string r.err.value) rfl
  have g8 := i6.cell 8 (.int .i64 r.err.place) rfl
  have g9 := i6.cell 9 (.slice gva r.given.length gvc) rfl
  have g10 := i6.cell 10 (.slice ava r.args.length avc) rfl
  have g11 := i6.cell 11 (.int .i64 r.dash) rfl
  have g12 := i6.cell 12 (.slice ca (chgU r.given s.flags.length).length cc) rfl
  have g13 := i6.cell 13 (.bool K2.parsed) rfl
  have g14 := i6.cell 14 (.bool false) rfl
  rw [hKX] at g4 g5 g6 g7 g8 g9 g10 g11 g12 g13 g14
  rw [hKp] at g13
  have hR5 := (hb5.block _ (lt_of_block hRd)).trans hRd
  have hne : w.heap.size + 1 ≠ K2.X := by rw [hKX]; have := HS1.out; omega
  have hR6 : (w5.setCell ⟨K2.X, 12, none⟩ (.slice ca (chgU r.given s.flags.length).length cc)).heap[w.heap.size + 1]? = _ := (heap_ne w5 _ _ _ hne).trans hR5
  have r0 : (w5.setCell ⟨K2.X, 12, none⟩ (.slice ca (chgU r.given s.flags.length).length cc)).cell? ⟨w.heap.size + 1, 0, none⟩ = some (.int .i64 0) := by simp only [World.cell?, hR6]; rfl
  have r1 : (w5.setCell ⟨K2.X, 12, none⟩ (.slice ca (chgU r.given s.flags.length).length cc)).cell? ⟨w.heap.size + 1, 1, none⟩ = some (.string ⟨#[]⟩) := by simp only [World.cell?, hR6]; rfl
  have r2 : (w5.setCell ⟨K2.X, 12, none⟩ (.slice ca (chgU r.given s.flags.length).length cc)).cell? ⟨w.heap.size + 1, 2, none⟩ = some (.string ⟨#[]⟩) := by simp only [World.cell?, hR6]; rfl
  have r3 : (w5.setCell ⟨K2.X, 12, none⟩ (.slice ca (chgU r.given s.flags.length).length cc)).cell? ⟨w.heap.size + 1, 3, none⟩ = some (.string ⟨#[]⟩) := by simp only [World.cell?, hR6]; rfl
  have r4 : (w5.setCell ⟨K2.X, 12, none⟩ (.slice ca (chgU r.given s.flags.length).length cc)).cell? ⟨w.heap.size + 1, 4, none⟩ = some (.int .i64 0) := by simp only [World.cell?, hR6]; rfl
  have r5 : (w5.setCell ⟨K2.X, 12, none⟩ (.slice ca (chgU r.given s.flags.length).length cc)).cell? ⟨w.heap.size + 1, 5, none⟩ = some (.slice none 0 0) := by simp only [World.cell?, hR6]; rfl
  have r6 : (w5.setCell ⟨K2.X, 12, none⟩ (.slice ca (chgU r.given s.flags.length).length cc)).cell? ⟨w.heap.size + 1, 6, none⟩ = some (.slice none 0 0) := by simp only [World.cell?, hR6]; rfl
  have r7 : (w5.setCell ⟨K2.X, 12, none⟩ (.slice ca (chgU r.given s.flags.length).length cc)).cell? ⟨w.heap.size + 1, 7, none⟩ = some (.int .i64 0) := by simp only [World.cell?, hR6]; rfl
  have r8 : (w5.setCell ⟨K2.X, 12, none⟩ (.slice ca (chgU r.given s.flags.length).length cc)).cell? ⟨w.heap.size + 1, 8, none⟩ = some (.slice none 0 0) := by simp only [World.cell?, hR6]; rfl
  have r9 : (w5.setCell ⟨K2.X, 12, none⟩ (.slice ca (chgU r.given s.flags.length).length cc)).cell? ⟨w.heap.size + 1, 9, none⟩ = some (.bool false) := by simp only [World.cell?, hR6]; rfl
  have r10 : (w5.setCell ⟨K2.X, 12, none⟩ (.slice ca (chgU r.given s.flags.length).length cc)).cell? ⟨w.heap.size + 1, 10, none⟩ = some (.bool false) := by simp only [World.cell?, hR6]; rfl
  have rf : ∀ i, (w5.setCell ⟨K2.X, 12, none⟩ (.slice ca (chgU r.given s.flags.length).length cc)).frozen? ⟨w.heap.size + 1, i, none⟩ = false := fun i => by simp [World.frozen?, hR6]
  rw [hKX] at r0 r1 r2 r3 r4 r5 r6 r7 r8 r9 r10 rf
  have HR6 := Lib.hid hR6
  clear hR5 hR6 hne
  go_wp2_with fail
  obtain ⟨hZ, hW, hBW⟩ := put11 HR6.out (.int .i64 r.err.kind) (.string r.err.name) (.string r.err.shorts) (.string r.err.value) (.int .i64 r.err.place) (.slice gva r.given.length gvc) (.slice ava r.args.length avc) (.int .i64 r.dash) (.slice ca (chgU r.given s.flags.length).length cc) (.bool true) (.bool false)
  rw [hKX] at hZ hW hBW
  have hs1 := HS1.out
  have hwz := HBW.out.size
  have iG := i6.rG
  have iA := i6.rA
  rw [hKX] at iG iA
  have hbase : w.heap.size + 1 < K2.base := by
    rw [SSt.base, hK0]
    have := hk1.size
    omega
  refine bodyPost_ret (v := .agg (hCells r.err r.dash true (.slice gva r.given.length gvc) (.slice ava r.args.length avc) (.slice ca (chgU r.given s.flags.length).length cc))) ?_ rfl ⟨?_, ?_⟩
  · rw [results_cell_one rfl]
    have q := load_heard hZ
    simp only [Array.getD_eq_getD_getElem?]
    simp [asAddr, Result.andThen, q, hCells]
  · rw [HRR.out]
    refine ⟨_, _, _, rfl, Givens.ofRow (ownsRow_at iG fun b hb => hW b ?_), Texts.ofRow (ownsRow_at iA fun b hb => hW b ?_), ?_⟩
    · have := (ownsRow_cells iG hb).1; omega
    · have := (ownsRow_cells iA hb).1; omega
    · refine Ints.ofRow (ownsRow_at hcv fun b hb => ?_)
      have q1 := (ownsRow_cells hcv hb).1
      have q2 := lt_of_block i4.hX
      rw [hKX] at q2
      exact (hW b (by omega)).trans (heap_ne _ _ _ b (by show b ≠ w1.heap.size + 1; omega))
  · refine ((HBW.out.trans (hb5.mono hwz)).setCell (by show w.heap.size ≤ w1.heap.size + 1; omega) _).trans (hBW w.heap.size (by omega))
end Go.Proofs.Ytcpjdgbnfjdakaa
