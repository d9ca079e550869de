/- The walk of impl.Arg. -/
import Derived.Test.YtcpjdgbnfjdakaaMadeB
import Derived.Test.YtcpjdgbnfjdakaaParse
import Derived.Test.YtcpjdgbnfjdakaaPlace
import Derived.Test.YtcpjdgbnfjdakaaLists
import Derived.Deep.RegionHeld3
import Derived.StillTailTactics
import Derived.BigQuiet
namespace Go.Proofs.Ytcpjdgbnfjdakaa
open Go.RowKit
set_option linter.unusedVariables false
set_option linter.unusedSimpArgs false

/-- The i'th argument; nothing for any other number. -/
def argF (l : List ByteArray) (i : Int) : ByteArray := if 0 ≤ i then (l[i.toNat]?).getD ⟨#[]⟩ else ⟨#[]⟩

theorem arg_any {D : St} {w : World} (h : Inv D w) (i : Int) (hl : D.args.length ≤ 2147483647) : Calls Try.prog 68 #[ptr D.F, .int .i64 i] w fun e w' => e = .returned (.string (argF D.args i)) ∧ w' = w := by
  have c := h.cellF 12 D.argsV rfl
  obtain ⟨a, n, hv, hcv⟩ := (Texts.ofRow h.rArgs).len
  have ht := (Texts.ofRow h.rArgs).strs
  rw [hv] at ht c
  have HA := Lib.hid (show ∀ l : List ByteArray, argF l i = if 0 ≤ i then (l[i.toNat]?).getD ⟨#[]⟩ else ⟨#[]⟩ from fun _ => rfl)
  have HT := Lib.hid ht
  clear ht hv
  generalize D.args = l at *
  by_cases h0 : i < 0
  · have d0 : decide (i < (0 : Int)) = true := decide_eq_true h0
    have HE : Hid (argF l i = ⟨#[]⟩) := Lib.hid (by rw [HA.out, if_neg (by omega)])
    go_enter Try.func68, Try.ntmps68
    go_wp2_with fail
    go_ret
    rw [HE.out]
    exact ⟨rfl, rfl⟩
  · have d0 : decide (i < (0 : Int)) = false := decide_eq_false h0
    by_cases h1 : (l.length : Int) ≤ i
    · have d1 : decide ((l.length : Int) ≤ i) = true := decide_eq_true h1
      have HE : Hid (argF l i = ⟨#[]⟩) := Lib.hid (by rw [HA.out, if_pos (by omega), List.getElem?_eq_none (by omega)]; rfl)
      go_enter Try.func68, Try.ntmps68
      go_wp2_with fail
      go_ret
      rw [HE.out]
      exact ⟨rfl, rfl⟩
    · have d1 : decide ((l.length : Int) ≤ i) = false := decide_eq_false h1
      obtain ⟨k, rfl⟩ : ∃ k : Nat, i = k := ⟨i.toNat, by omega⟩
      have hk : k < l.length := by omega
      obtain ⟨b, off, rfl, q⟩ := HT.out.cell (by omega)
      have q := q k hk
      have HE : Hid (argF l k = l[k]) := Lib.hid (by rw [HA.out, if_pos (by omega), Int.toNat_natCast, List.getElem?_eq_getElem hk]; rfl)
      clear HT
      go_enter Try.func68, Try.ntmps68
      go_wp2_with fail
      go_ret
      rw [HE.out]
      exact ⟨rfl, rfl⟩

theorem narg_any {D : St} {w : World} (h : Inv D w) : Calls Try.prog 69 #[ptr D.F] w fun e w' => e = .returned (.int .i64 D.args.length) ∧ w' = w := by
  have c := h.cellF 12 D.argsV rfl
  obtain ⟨a, n, hv, hcv⟩ := (Texts.ofRow h.rArgs).len
  rw [hv] at c
  go_enter Try.func69, Try.ntmps69
  go_wp2_with fail
  go_ret
  exact ⟨rfl, rfl⟩

/-- Two variables are written; all else of a world stands. -/
structure Put2 (B3 B4 : Nat) (o3 o4 : Obj) (w w' : World) : Prop where
  os : w'.os = w.os
  tape : w'.tape = w.tape
  output : w'.output = w.output
  size : w.heap.size ≤ w'.heap.size
  b3 : w'.heap[B3]? = some o3
  b4 : w'.heap[B4]? = some o4
  rest : ∀ b, b < w.heap.size → b ≠ B3 → b ≠ B4 → w'.heap[b]? = w.heap[b]?

theorem put2_34 {w W : World} {B3 B4 : Nat} {x y : Value} {t3 t4 : TypeId} (hb : Below w.heap.size w W) (h3 : W.heap[B3]? = some (.cells #[x] t3 (0, 0))) (h4 : W.heap[B4]? = some (.cells #[y] t4 (0, 0))) (hne : B3 ≠ B4) (a n : Value) :
    Put2 B3 B4 (.cells #[a] t3 (0, 0)) (.cells #[n] t4 (0, 0)) w ((W.setCell ⟨B3, 0, none⟩ a).setCell ⟨B4, 0, none⟩ n) :=
  ⟨hb.os, hb.tape, hb.output, by rw [size_setCell, size_setCell]; exact hb.size, heap_ne' hne (heap_set h3 0 a), heap_set (heap_ne' (Ne.symm hne) h4) 0 n, fun b hlt n3 n4 => (heap_ne _ _ _ b n4).trans ((heap_ne _ _ _ b n3).trans (hb.block b hlt))⟩
theorem put2_43 {w W : World} {B3 B4 : Nat} {x y : Value} {t3 t4 : TypeId} (hb : Below w.heap.size w W) (h3 : W.heap[B3]? = some (.cells #[x] t3 (0, 0))) (h4 : W.heap[B4]? = some (.cells #[y] t4 (0, 0))) (hne : B3 ≠ B4) (a n : Value) :
    Put2 B3 B4 (.cells #[a] t3 (0, 0)) (.cells #[n] t4 (0, 0)) w ((W.setCell ⟨B4, 0, none⟩ n).setCell ⟨B3, 0, none⟩ a) :=
  ⟨hb.os, hb.tape, hb.output, by rw [size_setCell, size_setCell]; exact hb.size, heap_set (heap_ne' hne h3) 0 a, heap_ne' (Ne.symm hne) (heap_set h4 0 n), fun b hlt n3 n4 => (heap_ne _ _ _ b n3).trans ((heap_ne _ _ _ b n4).trans (hb.block b hlt))⟩

theorem goes_args (s : SetD) (way : Way) : ∀ (n : Nat) (l : List ByteArray) (r : RunD), (goesN s way n l r).args.length ≤ r.args.length + l.length
  | 0, l, r => by simp [goesN]
  | n + 1, [], r => by simp [goesN]
  | n + 1, x :: l, r => by
    rw [goesN]
    simp only [List.length_cons]
    split
    · omega
    · split
      · split
        · simp
        · have := goes_args s way n l { r with args := r.args ++ [x] }
          simp only [List.length_append, List.length_singleton] at this; omega
      · split
        · split
          · simp
          · have h1 := goes_args s way n (longF s way x l r).2 (longF s way x l r).1
            rw [longF_args] at h1
            have h3 := (longF_suffix s way x l r).length_le
            omega
        · have h1 := goes_args s way n (shortsF s way (x.extract 1 x.size) l r).2 (shortsF s way (x.extract 1 x.size) l r).1
          rw [show (shortsF s way (x.extract 1 x.size) l r).1.args = r.args from shortsN_args s way l _ _ _ _] at h1
          have h3 : (shortsF s way (x.extract 1 x.size) l r).2.length ≤ l.length := (shortsN_suffix s way l _ _ _ _ (List.suffix_refl _)).length_le
          omega

set_option maxRecDepth 100000 in
set_option maxHeartbeats 1600000 in
theorem arg1_any (B : Nat) (fv v : Value) (plain unk : Bool) (fold i : Int) (s : SetD) (w : World) (hv : FlagRows w fv s.flags) (hp : s.plain = plain) (hu : s.unknown = unk) (hlo : s.lo = (fold == 1 || fold == 3)) (hda : s.da = (fold == 2 || fold == 3)) (R : RightP s s.flags)
    (l : List ByteArray) (ht : Texts w v l) (hs : ∀ t ∈ l, t.size ≤ 4294967295) (hl : l.length ≤ 2147483647) (hg : bytesOf l ≤ 1099511627776)
    (h0 : w.heap[B]? = some (.cells #[fv, .bool plain, .bool unk, .int .i64 fold] 24 (0, 0))) (h1 : w.heap[B + 1]? = some (.cells #[v] 25 (0, 0))) (h2 : w.heap[B + 1 + 1]? = some (.cells #[.int .i64 i] 3 (0, 0)))
    (h3 : w.heap[B + 1 + 1 + 1]? = some (.cells #[.string ⟨#[]⟩] 9 (0, 0))) (h4 : w.heap[B + 1 + 1 + 1 + 1]? = some (.cells #[.int .i64 0] 3 (0, 0))) :
    Calls Try.prog 67 #[ptr B, ptr (B + 1), ptr (B + 1 + 1), ptr (B + 1 + 1 + 1), ptr (B + 1 + 1 + 1 + 1)] w fun e w' => e = .returned (.tuple #[]) ∧
      Put2 (B + 1 + 1 + 1) (B + 1 + 1 + 1 + 1) (.cells #[.string (argF (goesF s .sets l begin0).args i)] 9 (0, 0)) (.cells #[.int .i64 ((goesF s .sets l begin0).args.length : Int)] 3 (0, 0)) w w' := by
  have c0 : w.cell? ⟨B, 0, none⟩ = some fv := by simp [World.cell?, h0]
  have c1 : w.cell? ⟨B, 1, none⟩ = some (.bool plain) := by simp [World.cell?, h0]
  have c2 : w.cell? ⟨B, 2, none⟩ = some (.bool unk) := by simp [World.cell?, h0]
  have c3 : w.cell? ⟨B, 3, none⟩ = some (.int .i64 fold) := by simp [World.cell?, h0]
  obtain ⟨fa, fc, rfl⟩ : ∃ a c, fv = .slice a s.flags.length c := by obtain ⟨a, c, e, _⟩ := hv; exact ⟨a, c, e⟩
  obtain ⟨va, vc, rfl, hvc⟩ := ht.len
  have CM := Lib.hid (made_any (.slice fa s.flags.length fc) s.flags plain unk fold w hv s rfl hp hu hlo hda R)
  go_enter Try.func67, Try.ntmps67
  go_wp2_with fail
  refine CM.out.mono ?_
  rintro e w1 ⟨D, rfl, i1, fr, hfl, hbel, hbase⟩
  clear c0 c1 c2 c3 CM
  have KB : ∀ w' : World, Below D.base D.w0 w' → ∀ b, b < w.heap.size → w'.heap[b]? = w.heap[b]? := fun w' h b hb => (h.block b (by rw [hbase]; omega)).trans (hbel.block b hb)
  have HKB := Lib.hid KB
  clear KB
  have i2 := i1.later (Below.refl _ w1).drew
  have CP := Lib.hid (parse_any i2 fr (.slice va l.length vc) l (ht.later hbel.block) hs hl hg)
  have d0 := i2.whCells.1
  have k1 := (HKB.out _ i2.bel _ (lt_of_block h1)).trans h1
  have d1 : w1.drew.cell? ⟨B + 1, 0, none⟩ = some (.slice va l.length vc) := by simp only [World.cell?, k1]; rfl
  go_wp2_with fail
  go_still_tail 5, (by kernel_rfl)
  change wpList _ _ _ _ _ (World.drew _)
  generalize World.drew _ = w2 at *
  go_wp2_with fail
  refine CP.out.mono ?_
  rintro e w3 ⟨ev, D', rfl, j1, n1, r1, e1⟩
  have hga := goes_args s .sets l.length l begin0
  have hga2 : D'.args.length ≤ 2147483647 := by
    rw [r1.args]
    have : (goesF s .sets l begin0).args.length ≤ begin0.args.length + l.length := hga
    simp only [begin0, List.length_nil] at this ⊢; omega
  have j2 := j1.later (Below.refl _ w3).drew
  have CA := arg_any j2 i hga2
  have CN := narg_any j2
  have q0 := j2.whCells.1
  rw [n1.F, r1.args] at CA CN
  rw [n1.F, n1.Wb] at q0
  have hbW : Below D.base D.w0 w3.drew := by
    have q := j2.bel
    rw [St.base, n1.w0] at q
    exact q
  have HBW : Hid (Below w.heap.size w w3.drew) := Lib.hid (hbel.trans (hbW.mono (by rw [hbase]; omega)))
  have KW := HKB.out _ hbW
  have g2 := (KW _ (lt_of_block h2)).trans h2
  have g3 := (KW _ (lt_of_block h3)).trans h3
  have g4 := (KW _ (lt_of_block h4)).trans h4
  have hWB : D.base ≤ D.Wb := i1.bW
  have hBs := lt_of_block h4
  have n3 : D.Wb ≠ B + 1 + 1 + 1 := by rw [hbase] at hWB; omega
  have n4 : D.Wb ≠ B + 1 + 1 + 1 + 1 := by rw [hbase] at hWB; omega
  have S0 : ∀ W' : World, (∀ b, b ≠ B + 1 + 1 + 1 → b ≠ B + 1 + 1 + 1 + 1 → W'.heap[b]? = w3.drew.heap[b]?) → (W'.cell? ⟨D.Wb, 0, none⟩ = some (ptr D.F) ∧ W'.cell? ⟨B + 1 + 1, 0, none⟩ = some (.int .i64 i)) := fun W' h => by
    have e1 := h D.Wb n3 n4
    have e2 := (h (B + 1 + 1) (by omega) (by omega)).trans g2
    refine ⟨(World.cell?_of_block (a := ⟨D.Wb, 0, none⟩) e1).trans q0, ?_⟩
    simp only [World.cell?, e2]
    rfl
  have HS1 : Hid (w3.drew.cell? ⟨D.Wb, 0, none⟩ = some (ptr D.F) ∧ w3.drew.cell? ⟨B + 1 + 1, 0, none⟩ = some (.int .i64 i)) := Lib.hid (S0 _ (fun _ _ _ => rfl))
  have HS3 : Hid (∀ v, (fun w' => w'.cell? ⟨D.Wb, 0, none⟩ = some (ptr D.F) ∧ w'.cell? ⟨B + 1 + 1, 0, none⟩ = some (.int .i64 i)) (w3.drew.setCell ⟨B + 1 + 1 + 1, 0, none⟩ v)) := Lib.hid (fun v => S0 _ (fun b h _ => heap_ne _ ⟨B + 1 + 1 + 1, 0, none⟩ v b h))
  have HS4 : Hid (∀ v, (fun w' => w'.cell? ⟨D.Wb, 0, none⟩ = some (ptr D.F) ∧ w'.cell? ⟨B + 1 + 1, 0, none⟩ = some (.int .i64 i)) (w3.drew.setCell ⟨B + 1 + 1 + 1 + 1, 0, none⟩ v)) := Lib.hid (fun v => S0 _ (fun b _ h => heap_ne _ ⟨B + 1 + 1 + 1 + 1, 0, none⟩ v b h))
  have HS34 : Hid (∀ v u, (fun w' => w'.cell? ⟨D.Wb, 0, none⟩ = some (ptr D.F) ∧ w'.cell? ⟨B + 1 + 1, 0, none⟩ = some (.int .i64 i)) ((w3.drew.setCell ⟨B + 1 + 1 + 1, 0, none⟩ v).setCell ⟨B + 1 + 1 + 1 + 1, 0, none⟩ u)) := Lib.hid (fun v u => S0 _ (fun b h h' => (heap_ne _ ⟨B + 1 + 1 + 1 + 1, 0, none⟩ u b h').trans (heap_ne _ ⟨B + 1 + 1 + 1, 0, none⟩ v b h)))
  have HS43 : Hid (∀ v u, (fun w' => w'.cell? ⟨D.Wb, 0, none⟩ = some (ptr D.F) ∧ w'.cell? ⟨B + 1 + 1, 0, none⟩ = some (.int .i64 i)) ((w3.drew.setCell ⟨B + 1 + 1 + 1 + 1, 0, none⟩ v).setCell ⟨B + 1 + 1 + 1, 0, none⟩ u)) := Lib.hid (fun v u => S0 _ (fun b h h' => (heap_ne _ ⟨B + 1 + 1 + 1, 0, none⟩ u b h).trans (heap_ne _ ⟨B + 1 + 1 + 1 + 1, 0, none⟩ v b h')))
  have P34 := Lib.hid (fun a n => put2_34 HBW.out g3 g4 (by omega) a n)
  have P43 := Lib.hid (fun a n => put2_43 HBW.out g3 g4 (by omega) a n)
  have x3 := cell_of_one g3
  have x4 := cell_of_one g4
  have y3 := free_of_one g3
  have y4 := free_of_one g4
  have x34 : ∀ v, (w3.drew.setCell ⟨B + 1 + 1 + 1, 0, none⟩ v).cell? ⟨B + 1 + 1 + 1 + 1, 0, none⟩ = some (.int .i64 0) := fun v => cell_of_one (heap_ne' (by simp) g4)
  have x43 : ∀ v, (w3.drew.setCell ⟨B + 1 + 1 + 1 + 1, 0, none⟩ v).cell? ⟨B + 1 + 1 + 1, 0, none⟩ = some (.string ⟨#[]⟩) := fun v => cell_of_one (heap_ne' (by simp) g3)
  have y34 : ∀ v, (w3.drew.setCell ⟨B + 1 + 1 + 1, 0, none⟩ v).frozen? ⟨B + 1 + 1 + 1 + 1, 0, none⟩ = false := fun v => free_of_one (heap_ne' (by simp) g4)
  have y43 : ∀ v, (w3.drew.setCell ⟨B + 1 + 1 + 1 + 1, 0, none⟩ v).frozen? ⟨B + 1 + 1 + 1, 0, none⟩ = false := fun v => free_of_one (heap_ne' (by simp) g3)
  have x34a : ∀ v, (w3.setCell ⟨B + 1 + 1 + 1, 0, none⟩ v).drew.cell? ⟨B + 1 + 1 + 1 + 1, 0, none⟩ = some (.int .i64 0) := x34
  have x34b : ∀ v, (w3.setCell ⟨B + 1 + 1 + 1, 0, none⟩ v).cell? ⟨B + 1 + 1 + 1 + 1, 0, none⟩ = some (.int .i64 0) := x34
  have x43a : ∀ v, (w3.setCell ⟨B + 1 + 1 + 1 + 1, 0, none⟩ v).drew.cell? ⟨B + 1 + 1 + 1, 0, none⟩ = some (.string ⟨#[]⟩) := x43
  have x43b : ∀ v, (w3.setCell ⟨B + 1 + 1 + 1 + 1, 0, none⟩ v).cell? ⟨B + 1 + 1 + 1, 0, none⟩ = some (.string ⟨#[]⟩) := x43
  have y34a : ∀ v, (w3.setCell ⟨B + 1 + 1 + 1, 0, none⟩ v).drew.frozen? ⟨B + 1 + 1 + 1 + 1, 0, none⟩ = false := y34
  have y34b : ∀ v, (w3.setCell ⟨B + 1 + 1 + 1, 0, none⟩ v).frozen? ⟨B + 1 + 1 + 1 + 1, 0, none⟩ = false := y34
  have y43a : ∀ v, (w3.setCell ⟨B + 1 + 1 + 1 + 1, 0, none⟩ v).drew.frozen? ⟨B + 1 + 1 + 1, 0, none⟩ = false := y43
  have y43b : ∀ v, (w3.setCell ⟨B + 1 + 1 + 1 + 1, 0, none⟩ v).frozen? ⟨B + 1 + 1 + 1, 0, none⟩ = false := y43
  obtain ⟨A, hA⟩ : ∃ A, argF (goesF s .sets l begin0).args i = A := ⟨_, rfl⟩
  obtain ⟨N, hN⟩ : ∃ N, (goesF s .sets l begin0).args.length = N := ⟨_, rfl⟩
  rw [hA] at CA
  rw [hN] at CN
  have HA := Lib.hid hA
  have HN := Lib.hid hN
  have HCA := Lib.hid CA
  have HCN := Lib.hid CN
  clear S0 q0 KW hWB n3 n4 hA hN CA CN j1 j2 i2 i1 g2 g3 g4 d0 k1 d1 CP h0 h1 h2 h3 h4 hv ht hs e1 r1 n1 hga hga2 HKB hbW fr hfl hbel
  go_wp2_with fail
  go_region_held3 (fun w' => w'.cell? ⟨D.Wb, 0, none⟩ = some (ptr D.F) ∧ w'.cell? ⟨B + 1 + 1, 0, none⟩ = some (.int .i64 i))
    (first
      | (with_reducible exact HS1.out)
      | (exact HS3.out (.string A))
      | (exact HS4.out (.int .i64 N))
      | (exact HS34.out (.string A) (.int .i64 N))
      | (exact HS43.out (.int .i64 N) (.string A)))
    (first
      | (go_simp; go_at_call 68; with_reducible refine HCA.out.mono ?_; rintro e wx ⟨rfl, rfl⟩)
      | (go_simp; go_at_call 69; with_reducible refine HCN.out.mono ?_; rintro e wx ⟨rfl, rfl⟩))
  all_goals (go_wp2_with fail)
  all_goals go_end0
  all_goals rw [HA.out, HN.out]
  all_goals first
    | exact ⟨rfl, P34.out _ _⟩
    | exact ⟨rfl, P43.out _ _⟩
end Go.Proofs.Ytcpjdgbnfjdakaa
