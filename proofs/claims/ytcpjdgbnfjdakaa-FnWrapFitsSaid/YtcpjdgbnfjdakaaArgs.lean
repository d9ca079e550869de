/- The walk of parseArgs. -/
import Derived.Test.YtcpjdgbnfjdakaaShorts
namespace Go.Proofs.Ytcpjdgbnfjdakaa
open Go.RowKit
set_option linter.unusedVariables false
set_option linter.unusedSimpArgs false

theorem infoT : (Try.prog.info? 9).map (fun i => (i.zero, i.size, i.bytes)) = some (some (.string ⟨#[]⟩), 1, 16) := by kernel_rfl

theorem Texts.news {w0 w : World} {A : Addr} {n cap : Nat} {l : List ByteArray} (h : Texts w0 (.slice (some A) n cap) l) (hk : ∀ b, b < w0.heap.size → w.heap[b]? = w0.heap[b]?) :
    ∀ j u, (l.map Value.string)[j]? = some u → w.cell? (A.add j) = some u := by
  intro j u hj
  obtain ⟨⟨a0, c0, e, h⟩, _⟩ := h
  cases e
  have hlt : j < l.length := by
    have := (List.getElem?_eq_some_iff.1 hj).1
    simpa using this
  rcases h with rfl | ⟨b, off, cs, ty, fz, e, hb, hc⟩
  · simp at hlt
  · cases e
    have h1 := hc j hlt
    rw [List.getElem?_map, List.getElem?_eq_getElem hlt] at hj
    cases hj
    have hb' := (hk b (lt_of_block hb)).trans hb
    have : (⟨b, off, none⟩ : Addr).add j = ⟨b, off + j, none⟩ := by simp [Addr.add]
    rw [this]
    simp [World.cell?, hb', h1]
theorem texts_oneCell (l : List ByteArray) : ∀ u ∈ l.map Value.string, u.oneCell' = true := by
  intro u hu
  obtain ⟨x, _, rfl⟩ := List.mem_map.1 hu
  rfl

theorem Inv.argsForm {D : St} {w : World} (h : Inv D w) : ∃ a c, D.argsV = .slice a D.args.length c := by
  rcases h.rArgs.2 with ⟨e, n⟩ | ⟨g, cap, cur, e, _⟩
  · exact ⟨none, 0, by rw [e, n]⟩
  · exact ⟨_, _, e⟩

theorem row_form {w : World} {base : Nat} {e : TypeId} {size : Nat} {v : Value} {n : Nat} {xs : List Value} (h : w.ownsRow base e size v n xs) : ∃ a c, v = .slice a n c := by
  rcases h.2 with ⟨e, n⟩ | ⟨g, cap, cur, e, _⟩
  · exact ⟨none, 0, by rw [e, n]⟩
  · exact ⟨_, _, e⟩

theorem cells12 {D : St} {w : World} (h : w.heap[D.F]? = some (.cells (fsCells D) 136 (0, 0))) : w.cell? ⟨D.F, 12, none⟩ = some D.argsV ∧ w.frozen? ⟨D.F, 12, none⟩ = false := by
  refine ⟨?_, ?_⟩ <;> simp [World.cell?, World.frozen?, h, fsCells]

/-- The arguments behind an append. -/
theorem args_end {D : St} {w w2 : World} (h : Inv D w) (m : List ByteArray) (nv : Value) (hg : w.grownBy w2 D.argsV.ownBlock) (hr : w2.ownsRow D.base 9 1 nv (D.args.length + m.length) (D.args.map .string ++ m.map .string)) :
    (w2.cell? ⟨D.F, 12, none⟩ = some D.argsV ∧ w2.frozen? ⟨D.F, 12, none⟩ = false) ∧ Inv { D with argsV := nv, args := D.args ++ m } (w2.setCell ⟨D.F, 12, none⟩ nv) := by
  obtain ⟨a, b, c⟩ := h.appendArgs hg nv (D.args ++ m) (by rw [List.length_append, List.map_append]; exact hr)
  exact ⟨cells12 a, c⟩

theorem Runs.argsPut {D : St} {s : SetD} {way : Way} {r : RunD} (k : Runs D s way r) (nv : Value) (m : List ByteArray) :
    Near D { D with argsV := nv, args := D.args ++ m } ∧ Runs { D with argsV := nv, args := D.args ++ m } s way { r with args := r.args ++ m } := by
  have hn : Near D { D with argsV := nv, args := D.args ++ m } := ⟨rfl, rfl⟩
  exact ⟨hn, k.ready.near hn, k.given, by show D.args ++ m = r.args ++ m; rw [k.args], k.dash, k.parsed, k.chg, k.oa⟩
theorem Runs.dashPut {D : St} {s : SetD} {way : Way} {r : RunD} (k : Runs D s way r) (d : Int) :
    Near D { D with dash := d } ∧ Runs { D with dash := d } s way { r with dash := d } := by
  have hn : Near D { D with dash := d } := ⟨rfl, rfl⟩
  exact ⟨hn, k.ready.near hn, k.given, k.args, rfl, k.parsed, k.chg, k.oa⟩

theorem dash_put {D : St} {w : World} (h : Inv D w) (d : Int) : Inv { D with dash := d } (w.setCell ⟨D.F, 13, none⟩ (.int .i64 d)) :=
  h.setF { D with dash := d } 13 (.int .i64 d) rfl rfl rfl rfl rfl rfl rfl rfl rfl rfl rfl rfl rfl h.hact h.hfm h.hsm h.rArgs h.rOa h.rOf h.bact h.bfm h.bsm h.doa h.dof

theorem goesN_stop (s : SetD) (way : Way) (n : Nat) (l : List ByteArray) (r : RunD) (h : r.err.isNone = false) : goesN s way n l r = r := by
  cases n with
  | zero => rfl
  | succ n => cases l with
    | nil => rfl
    | cons x l => simp [goesN, h]
theorem goesN_nil (s : SetD) (way : Way) (n : Nat) (r : RunD) : goesN s way n [] r = r := by
  cases n <;> rfl

theorem giveF_args (s : SetD) (way : Way) (i : Nat) (v : ByteArray) (r : RunD) : (giveF s way i v r).args = r.args := by
  cases way with
  | sets => simp only [giveF]; split <;> rfl
  | hands bad => rfl
theorem wantsF_args (s : SetD) (way : Way) (i : Nat) (n sh : ByteArray) (rest : List ByteArray) (r : RunD) : (wantsF s way i n sh rest r).1.args = r.args := by
  cases rest with
  | nil => rfl
  | cons v l => exact giveF_args _ _ _ _ _
theorem shortF_args (s : SetD) (way : Way) (text : ByteArray) (rest : List ByteArray) (r : RunD) : (shortF s way text rest r).1.args = r.args := by
  simp only [shortF]
  repeat' split
  all_goals first | exact giveF_args _ _ _ _ _ | exact wantsF_args _ _ _ _ _ _ _ | rfl
theorem longF_args (s : SetD) (way : Way) (text : ByteArray) (rest : List ByteArray) (r : RunD) : (longF s way text rest r).1.args = r.args := by
  simp only [longF]
  repeat' split
  all_goals first | exact giveF_args _ _ _ _ _ | exact wantsF_args _ _ _ _ _ _ _ | rfl
theorem shortsN_args (s : SetD) (way : Way) (rest : List ByteArray) : ∀ (n : Nat) (text : ByteArray) (r : RunD) (left : List ByteArray), (shortsN s way rest n text r left).1.args = r.args
  | 0, text, r, left => rfl
  | n + 1, text, r, left => by
    rw [shortsN]
    split
    · rfl
    · split
      · rfl
      · rw [shortsN_args s way rest n]; exact shortF_args _ _ _ _ _

theorem bareF_cases (x : ByteArray) : (bareF x = true ∧ (x.size = 0 ∨ (∃ h : 0 < x.size, ((x[0].toNat : Int) != 45) = true) ∨ (∃ h : 0 < x.size, ((x[0].toNat : Int) != 45) = false ∧ x.size = 1))) ∨
    (bareF x = false ∧ ∃ h : 1 < x.size, ((x[0].toNat : Int) != 45) = false) := by
  by_cases h0 : 0 < x.size
  · have e := byteO_dash x h0
    cases hq : ((x[0].toNat : Int) == 45) with
    | false =>
      have hq' : ((x[0].toNat : Int) != 45) = true := by rw [bne, hq]; rfl
      left
      exact ⟨by rw [bareF, e, hq]; simp, .inr (.inl ⟨h0, hq'⟩)⟩
    | true =>
      have hq' : ((x[0].toNat : Int) != 45) = false := by rw [bne, hq]; rfl
      by_cases h1 : 1 < x.size
      · right
        exact ⟨by rw [bareF, e, hq]; simp; omega, h1, hq'⟩
      · left
        exact ⟨by rw [bareF, decide_eq_true (by omega : x.size ≤ 1)]; rfl, .inr (.inr ⟨h0, hq', by omega⟩)⟩
  · left
    exact ⟨by rw [bareF, decide_eq_true (by omega : x.size ≤ 1)]; rfl, .inl (by omega)⟩

theorem bytesOf_suffix {a b : List ByteArray} (h : a <:+ b) : bytesOf a ≤ bytesOf b := by
  obtain ⟨t, rfl⟩ := h
  simp [bytesOf]
theorem bytesOf_cons (x : ByteArray) (l : List ByteArray) : bytesOf (x :: l) = 1 + x.size + bytesOf l := by simp [bytesOf]

set_option maxRecDepth 100000 in
set_option maxHeartbeats 6400000 in
theorem args_any {D : St} {s : SetD} {way : Way} {r : RunD} {w : World} {fid : FuncId} {first cap : Array Value} (hands : Hands fid first cap D s way) (h : Inv D w) (k : Runs D s way r) (he : r.err = .none)
    (v : Value) (l : List ByteArray) (hv : Texts D.w0 v l) (hs : ∀ t ∈ l, t.size ≤ 4294967295) (hl : l.length ≤ 2147483647) (hg : r.given.length + bytesOf l ≤ 1099511627776) (ha : r.args.length + l.length ≤ 1099511627776) :
    Calls Try.prog 96 #[ptr D.F, v, .func (.func fid) first cap] w fun e w' => ∃ ev D', e = .returned ev ∧ Inv D' w' ∧ Near D D' ∧ Runs D' s way (goesF s way l r) ∧ ErrIs D' w' ev (goesF s way l r).err := by
  have HV := Lib.hid hv
  have HS := Lib.hid hs
  obtain ⟨i0, hi0, hz0, hz1, hz2⟩ := info_parts infoT
  have hn1 : ∀ t v w, Sem.run Try.prog (binOp BinOp.neq 83 (.iface t v) Value.nilIface) w = .ok (.bool true) w := fun _ _ _ => by kernel_rfl
  have hn0 : ∀ w, Sem.run Try.prog (binOp BinOp.neq 83 Value.nilIface Value.nilIface) w = .ok (.bool false) w := fun _ => by kernel_rfl
  unfold goesF
  clear hv hs
  go_enter Try.func96, Try.ntmps96
  go_wp2_with fail
  go_loopw [1, 6] (fun va ve w' => ve = .nilIface ∧ ∃ D' r' left n, Inv D' w' ∧ Near D D' ∧ Runs D' s way r' ∧ r'.err = .none ∧ Texts D.w0 va left ∧ left <:+ l ∧ r'.given.length + bytesOf left ≤ 1099511627776 ∧ r'.args.length + left.length ≤ 1099511627776 ∧ left.length ≤ n ∧ goesN s way l.length l r = goesN s way n left r')
    (fun va _ _ => match va with | .slice _ n _ => n | _ => 0)
  case atStart => exact ⟨rfl, D, r, l, l.length, h, Near.refl D, k, he, HV.out, List.suffix_refl _, hg, ha, Nat.le_refl _, rfl⟩
  case round =>
    obtain ⟨rfl, D', r', left, n, i1, n1, k1, he1, ht1, hsuf, hg1, ha1, hn, hrun⟩ := hrel
    have HR := Lib.hid hrun
    clear hrun h k hg ha he HV
    obtain ⟨av, cv, rfl, hcv⟩ := ht1.len
    cases left with
    | nil =>
      have HE : Hid (goesN s way l.length l r = r') := Lib.hid (by rw [HR.out]; exact goesN_nil _ _ _ _)
      clear HR
      go_wp2_with fail
      go_ret
      rw [HE.out]
      exact ⟨_, D', rfl, i1, n1, k1, by rw [he1]; rfl⟩
    | cons x left =>
      obtain ⟨tb, to, A, rfl, -, hc1, q2, hA, ht⟩ := ht1.tail
      have q2 : wr.cell? ⟨tb, to, none⟩ = some (.string x) := (World.cell?_of_block (i1.bel.block tb (World.block_lt_of_cell? D'.w0 _ (by rw [n1.w0]; exact q2)))).trans (by rw [n1.w0]; exact q2)
      have HT := Lib.hid ht
      have hx : x.size ≤ 4294967295 := HS.out x (hsuf.subset (by simp))
      have hsuf2 : left <:+ l := (List.suffix_cons x left).trans hsuf
      have hll : left.length + 1 ≤ l.length := by have := hsuf.length_le; simpa using this
      obtain ⟨m, rfl⟩ : ∃ m, n = m + 1 := ⟨n - 1, by simp only [List.length_cons] at hn; omega⟩
      rw [bytesOf_cons] at hg1
      simp only [List.length_cons] at hn ha1
      clear ht ht1 hsuf
      simp only [List.length_cons]
      have c12 := i1.cellF 12 D'.argsV rfl
      have c15 := i1.cellF 15 (.bool D'.inter) rfl
      rw [k1.ready.inter] at c15
      rw [n1.F] at c12 c15
      have HA := Lib.hid (show D'.args.length = r'.args.length by rw [k1.args])
      rcases bareF_cases x with ⟨hb, hb2⟩ | ⟨hb, hx1, hx0⟩
      · cases hp : s.plain with
        | true =>
          have HE : Hid (goesN s way l.length l r = { r' with args := r'.args ++ (x :: left) }) := Lib.hid (by rw [HR.out]; simp [goesN, he1, ErrD.isNone, hb, hp])
          rw [hp] at c15
          clear HR
          rcases hb2 with hz | ⟨hx1, hx0⟩ | ⟨hx1, hx0, hz⟩
          · have z0 : ((x.size : Int) == 0) = true := by rw [beq_iff_eq]; omega
            go_wp2_with (first
              | (
                  at_builtin
                  refine wpList_append_own_at _ (by rfl) _ _ _ (by rfl) D'.base 9 i0 _ 1 16 Try.underlying25 hi0 hz0 hz1 hz2 rfl (by omega) D'.argsV D'.args.length (D'.args.map .string) (by rfl) (i1.rArgs.alloc _)
                    ⟨wr.heap.size, 0, none⟩ 1 1 [.string x] (by rfl) (by rfl) (World.news_of_block (cs := #[.string x]) (t := 9) (fr := (0, 0)) (heap_alloc_new wr _)) (by simp [Value.oneCell'])
                    (by have := HA.out; unfold maxLen; omega) (by have := HA.out; omega) (by have := i1.bel.size; simp only [World.size_alloc]; exact Nat.le_succ_of_le this) ?_
                  intro nv w2 hown1 hgrow hnil hat
                  obtain ⟨na, nc, rfl⟩ := row_form hown1
                  obtain ⟨⟨f1, f2⟩, yI⟩ := args_end (i1.later ((Below.refl _ wr).alloc (Nat.le_refl _) _)) [x] _ hgrow hown1
                  obtain ⟨n2, k2⟩ := k1.argsPut (.slice na (D'.args.length + 1) nc) [x]
                  rw [n1.F] at f1 f2
                  have yJ := yI
                  rw [n1.F] at yJ
                  have yR : (w2.setCell ⟨D.F, 12, none⟩ (.slice na (D'.args.length + 1) nc)).ownsRow D'.base 9 1 (.slice na (D'.args.length + 1) nc) (D'.args.length + 1) ((D'.args ++ [x]).map .string) := by
                    have q := yJ.rArgs
                    simp only [St.rowArgs, List.length_append, List.length_singleton] at q
                    exact q)
              | (
                  at_builtin
                  refine wpList_append_own_at _ (by rfl) _ _ _ (by rfl) D'.base 9 i0 _ 1 16 Try.underlying25 hi0 hz0 hz1 hz2 rfl (by omega) (.slice na (D'.args.length + 1) nc) (D'.args.length + 1) ((D'.args ++ [x]).map .string) (by rfl) yR
                    A left.length (cv - 1) (left.map .string) (by rfl) (by rw [List.length_map]; omega) (Texts.news HT.out (by rw [← n1.w0]; exact yJ.bel.block)) (texts_oneCell left)
                    (by have := HA.out; unfold maxLen; omega) (by have := HA.out; omega) yJ.bel.size ?_
                  intro nv2 w3 hown2 hgrow2 hnil2 hat2
                  obtain ⟨na2, nc2, rfl⟩ := row_form hown2
                  obtain ⟨⟨g1, g2⟩, zI⟩ := args_end yJ left _ hgrow2 (by simp only [List.length_append, List.length_singleton]; exact hown2)
                  obtain ⟨n3, k3⟩ := k2.argsPut (.slice na2 (D'.args.length + 1 + left.length) nc2) left
                  try rw [n1.F] at g1 g2))
            go_ret
            rw [HE.out]
            rw [← n1.F] at zI ⊢
            refine ⟨.nilIface, rfl, _, zI, n1.trans (n2.trans n3), by simpa using k3, ?_⟩
            rw [he1]; rfl
          · have z0 : ((x.size : Int) == 0) = false := by rw [beq_eq_false_iff_ne]; omega
            have b0 : (0 : Int) < (x.size : Int) := by omega
            go_wp2_with (first
              | (
                  at_builtin
                  refine wpList_append_own_at _ (by rfl) _ _ _ (by rfl) D'.base 9 i0 _ 1 16 Try.underlying25 hi0 hz0 hz1 hz2 rfl (by omega) D'.argsV D'.args.length (D'.args.map .string) (by rfl) (i1.rArgs.alloc _)
                    ⟨wr.heap.size, 0, none⟩ 1 1 [.string x] (by rfl) (by rfl) (World.news_of_block (cs := #[.string x]) (t := 9) (fr := (0, 0)) (heap_alloc_new wr _)) (by simp [Value.oneCell'])
                    (by have := HA.out; unfold maxLen; omega) (by have := HA.out; omega) (by have := i1.bel.size; simp only [World.size_alloc]; exact Nat.le_succ_of_le this) ?_
                  intro nv w2 hown1 hgrow hnil hat
                  obtain ⟨na, nc, rfl⟩ := row_form hown1
                  obtain ⟨⟨f1, f2⟩, yI⟩ := args_end (i1.later ((Below.refl _ wr).alloc (Nat.le_refl _) _)) [x] _ hgrow hown1
                  obtain ⟨n2, k2⟩ := k1.argsPut (.slice na (D'.args.length + 1) nc) [x]
                  rw [n1.F] at f1 f2
                  have yJ := yI
                  rw [n1.F] at yJ
                  have yR : (w2.setCell ⟨D.F, 12, none⟩ (.slice na (D'.args.length + 1) nc)).ownsRow D'.base 9 1 (.slice na (D'.args.length + 1) nc) (D'.args.length + 1) ((D'.args ++ [x]).map .string) := by
                    have q := yJ.rArgs
                    simp only [St.rowArgs, List.length_append, List.length_singleton] at q
                    exact q)
              | (
                  at_builtin
                  refine wpList_append_own_at _ (by rfl) _ _ _ (by rfl) D'.base 9 i0 _ 1 16 Try.underlying25 hi0 hz0 hz1 hz2 rfl (by omega) (.slice na (D'.args.length + 1) nc) (D'.args.length + 1) ((D'.args ++ [x]).map .string) (by rfl) yR
                    A left.length (cv - 1) (left.map .string) (by rfl) (by rw [List.length_map]; omega) (Texts.news HT.out (by rw [← n1.w0]; exact yJ.bel.block)) (texts_oneCell left)
                    (by have := HA.out; unfold maxLen; omega) (by have := HA.out; omega) yJ.bel.size ?_
                  intro nv2 w3 hown2 hgrow2 hnil2 hat2
                  obtain ⟨na2, nc2, rfl⟩ := row_form hown2
                  obtain ⟨⟨g1, g2⟩, zI⟩ := args_end yJ left _ hgrow2 (by simp only [List.length_append, List.length_singleton]; exact hown2)
                  obtain ⟨n3, k3⟩ := k2.argsPut (.slice na2 (D'.args.length + 1 + left.length) nc2) left
                  try rw [n1.F] at g1 g2))
            go_ret
            rw [HE.out]
            rw [← n1.F] at zI ⊢
            refine ⟨.nilIface, rfl, _, zI, n1.trans (n2.trans n3), by simpa using k3, ?_⟩
            rw [he1]; rfl
          · have z0 : ((x.size : Int) == 0) = false := by rw [beq_eq_false_iff_ne]; omega
            have z1 : ((x.size : Int) == 1) = true := by rw [beq_iff_eq]; omega
            have b0 : (0 : Int) < (x.size : Int) := by omega
            go_wp2_with (first
              | (
                  at_builtin
                  refine wpList_append_own_at _ (by rfl) _ _ _ (by rfl) D'.base 9 i0 _ 1 16 Try.underlying25 hi0 hz0 hz1 hz2 rfl (by omega) D'.argsV D'.args.length (D'.args.map .string) (by rfl) (i1.rArgs.alloc _)
                    ⟨wr.heap.size, 0, none⟩ 1 1 [.string x] (by rfl) (by rfl) (World.news_of_block (cs := #[.string x]) (t := 9) (fr := (0, 0)) (heap_alloc_new wr _)) (by simp [Value.oneCell'])
                    (by have := HA.out; unfold maxLen; omega) (by have := HA.out; omega) (by have := i1.bel.size; simp only [World.size_alloc]; exact Nat.le_succ_of_le this) ?_
                  intro nv w2 hown1 hgrow hnil hat
                  obtain ⟨na, nc, rfl⟩ := row_form hown1
                  obtain ⟨⟨f1, f2⟩, yI⟩ := args_end (i1.later ((Below.refl _ wr).alloc (Nat.le_refl _) _)) [x] _ hgrow hown1
                  obtain ⟨n2, k2⟩ := k1.argsPut (.slice na (D'.args.length + 1) nc) [x]
                  rw [n1.F] at f1 f2
                  have yJ := yI
                  rw [n1.F] at yJ
                  have yR : (w2.setCell ⟨D.F, 12, none⟩ (.slice na (D'.args.length + 1) nc)).ownsRow D'.base 9 1 (.slice na (D'.args.length + 1) nc) (D'.args.length + 1) ((D'.args ++ [x]).map .string) := by
                    have q := yJ.rArgs
                    simp only [St.rowArgs, List.length_append, List.length_singleton] at q
                    exact q)
              | (
                  at_builtin
                  refine wpList_append_own_at _ (by rfl) _ _ _ (by rfl) D'.base 9 i0 _ 1 16 Try.underlying25 hi0 hz0 hz1 hz2 rfl (by omega) (.slice na (D'.args.length + 1) nc) (D'.args.length + 1) ((D'.args ++ [x]).map .string) (by rfl) yR
                    A left.length (cv - 1) (left.map .string) (by rfl) (by rw [List.length_map]; omega) (Texts.news HT.out (by rw [← n1.w0]; exact yJ.bel.block)) (texts_oneCell left)
                    (by have := HA.out; unfold maxLen; omega) (by have := HA.out; omega) yJ.bel.size ?_
                  intro nv2 w3 hown2 hgrow2 hnil2 hat2
                  obtain ⟨na2, nc2, rfl⟩ := row_form hown2
                  obtain ⟨⟨g1, g2⟩, zI⟩ := args_end yJ left _ hgrow2 (by simp only [List.length_append, List.length_singleton]; exact hown2)
                  obtain ⟨n3, k3⟩ := k2.argsPut (.slice na2 (D'.args.length + 1 + left.length) nc2) left
                  try rw [n1.F] at g1 g2))
            go_ret
            rw [HE.out]
            rw [← n1.F] at zI ⊢
            refine ⟨.nilIface, rfl, _, zI, n1.trans (n2.trans n3), by simpa using k3, ?_⟩
            rw [he1]; rfl
        | false =>
          have HE : Hid (goesN s way l.length l r = goesN s way m left { r' with args := r'.args ++ [x] }) := Lib.hid (by rw [HR.out]; simp [goesN, he1, ErrD.isNone, hb, hp])
          rw [hp] at c15
          clear HR
          rcases hb2 with hz | ⟨hx1, hx0⟩ | ⟨hx1, hx0, hz⟩
          · have z0 : ((x.size : Int) == 0) = true := by rw [beq_iff_eq]; omega
            go_wp2_with (
              at_builtin
              refine wpList_append_own_at _ (by rfl) _ _ _ (by rfl) D'.base 9 i0 _ 1 16 Try.underlying25 hi0 hz0 hz1 hz2 rfl (by omega) D'.argsV D'.args.length (D'.args.map .string) (by rfl) (i1.rArgs.alloc _)
                ⟨wr.heap.size, 0, none⟩ 1 1 [.string x] (by rfl) (by rfl) (World.news_of_block (cs := #[.string x]) (t := 9) (fr := (0, 0)) (heap_alloc_new wr _)) (by simp [Value.oneCell'])
                (by have := HA.out; unfold maxLen; omega) (by have := HA.out; omega) (by have := i1.bel.size; simp only [World.size_alloc]; exact Nat.le_succ_of_le this) ?_
              intro nv w2 hown1 hgrow hnil hat
              obtain ⟨na, nc, rfl⟩ := row_form hown1
              obtain ⟨⟨f1, f2⟩, yI⟩ := args_end (i1.later ((Below.refl _ wr).alloc (Nat.le_refl _) _)) [x] _ hgrow hown1
              obtain ⟨n2, k2⟩ := k1.argsPut (.slice na (D'.args.length + 1) nc) [x]
              rw [n1.F] at f1 f2
              have yJ := yI
              rw [n1.F] at yJ
              have yR : (w2.setCell ⟨D.F, 12, none⟩ (.slice na (D'.args.length + 1) nc)).ownsRow D'.base 9 1 (.slice na (D'.args.length + 1) nc) (D'.args.length + 1) ((D'.args ++ [x]).map .string) := by
                have q := yJ.rArgs
                simp only [St.rowArgs, List.length_append, List.length_singleton] at q
                exact q)
            go_roundw
            case rel => rw [← n1.F]; exact ⟨rfl, _, _, left, m, yI, n1.trans n2, k2, he1, HT.out, hsuf2, by simp only; omega, by simp only [List.length_append, List.length_singleton]; omega, by omega, HE.out⟩
            case measure => simp
          · have z0 : ((x.size : Int) == 0) = false := by rw [beq_eq_false_iff_ne]; omega
            have b0 : (0 : Int) < (x.size : Int) := by omega
            go_wp2_with (
              at_builtin
              refine wpList_append_own_at _ (by rfl) _ _ _ (by rfl) D'.base 9 i0 _ 1 16 Try.underlying25 hi0 hz0 hz1 hz2 rfl (by omega) D'.argsV D'.args.length (D'.args.map .string) (by rfl) (i1.rArgs.alloc _)
                ⟨wr.heap.size, 0, none⟩ 1 1 [.string x] (by rfl) (by rfl) (World.news_of_block (cs := #[.string x]) (t := 9) (fr := (0, 0)) (heap_alloc_new wr _)) (by simp [Value.oneCell'])
                (by have := HA.out; unfold maxLen; omega) (by have := HA.out; omega) (by have := i1.bel.size; simp only [World.size_alloc]; exact Nat.le_succ_of_le this) ?_
              intro nv w2 hown1 hgrow hnil hat
              obtain ⟨na, nc, rfl⟩ := row_form hown1
              obtain ⟨⟨f1, f2⟩, yI⟩ := args_end (i1.later ((Below.refl _ wr).alloc (Nat.le_refl _) _)) [x] _ hgrow hown1
              obtain ⟨n2, k2⟩ := k1.argsPut (.slice na (D'.args.length + 1) nc) [x]
              rw [n1.F] at f1 f2
              have yJ := yI
              rw [n1.F] at yJ
              have yR : (w2.setCell ⟨D.F, 12, none⟩ (.slice na (D'.args.length + 1) nc)).ownsRow D'.base 9 1 (.slice na (D'.args.length + 1) nc) (D'.args.length + 1) ((D'.args ++ [x]).map .string) := by
                have q := yJ.rArgs
                simp only [St.rowArgs, List.length_append, List.length_singleton] at q
                exact q)
            go_roundw
            case rel => rw [← n1.F]; exact ⟨rfl, _, _, left, m, yI, n1.trans n2, k2, he1, HT.out, hsuf2, by simp only; omega, by simp only [List.length_append, List.length_singleton]; omega, by omega, HE.out⟩
            case measure => simp
          · have z0 : ((x.size : Int) == 0) = false := by rw [beq_eq_false_iff_ne]; omega
            have z1 : ((x.size : Int) == 1) = true := by rw [beq_iff_eq]; omega
            have b0 : (0 : Int) < (x.size : Int) := by omega
            go_wp2_with (
              at_builtin
              refine wpList_append_own_at _ (by rfl) _ _ _ (by rfl) D'.base 9 i0 _ 1 16 Try.underlying25 hi0 hz0 hz1 hz2 rfl (by omega) D'.argsV D'.args.length (D'.args.map .string) (by rfl) (i1.rArgs.alloc _)
                ⟨wr.heap.size, 0, none⟩ 1 1 [.string x] (by rfl) (by rfl) (World.news_of_block (cs := #[.string x]) (t := 9) (fr := (0, 0)) (heap_alloc_new wr _)) (by simp [Value.oneCell'])
                (by have := HA.out; unfold maxLen; omega) (by have := HA.out; omega) (by have := i1.bel.size; simp only [World.size_alloc]; exact Nat.le_succ_of_le this) ?_
              intro nv w2 hown1 hgrow hnil hat
              obtain ⟨na, nc, rfl⟩ := row_form hown1
              obtain ⟨⟨f1, f2⟩, yI⟩ := args_end (i1.later ((Below.refl _ wr).alloc (Nat.le_refl _) _)) [x] _ hgrow hown1
              obtain ⟨n2, k2⟩ := k1.argsPut (.slice na (D'.args.length + 1) nc) [x]
              rw [n1.F] at f1 f2
              have yJ := yI
              rw [n1.F] at yJ
              have yR : (w2.setCell ⟨D.F, 12, none⟩ (.slice na (D'.args.length + 1) nc)).ownsRow D'.base 9 1 (.slice na (D'.args.length + 1) nc) (D'.args.length + 1) ((D'.args ++ [x]).map .string) := by
                have q := yJ.rArgs
                simp only [St.rowArgs, List.length_append, List.length_singleton] at q
                exact q)
            go_roundw
            case rel => rw [← n1.F]; exact ⟨rfl, _, _, left, m, yI, n1.trans n2, k2, he1, HT.out, hsuf2, by simp only; omega, by simp only [List.length_append, List.length_singleton]; omega, by omega, HE.out⟩
            case measure => simp
      · have z0 : ((x.size : Int) == 0) = false := by rw [beq_eq_false_iff_ne]; omega
        have z1 : ((x.size : Int) == 1) = false := by rw [beq_eq_false_iff_ne]; omega
        have b0 : (0 : Int) < (x.size : Int) := by omega
        have b1 : (1 : Int) < (x.size : Int) := by omega
        have h45 : (byteO x 1 == some 45) = ((x[1].toNat : Int) == 45) := by
          rw [byteO_some hx1, show ((x[1].toNat : Int) == 45) = (x[1] == 45) from byteEq x[1] 45 45 rfl]; rfl
        cases hq : ((x[1].toNat : Int) == 45) with
        | true =>
          by_cases hxz2 : x.size = 2
          · have z2 : ((x.size : Int) == 2) = true := by rw [beq_iff_eq]; omega
            have HE : Hid (goesN s way l.length l r = { r' with dash := r'.args.length, args := r'.args ++ left }) := Lib.hid (by rw [HR.out]; simp [goesN, he1, ErrD.isNone, hb, h45, hq, hxz2])
            clear HR h45
            obtain ⟨aa, ac, hav⟩ := i1.argsForm
            have zI0 := dash_put i1 (D'.args.length : Nat)
            obtain ⟨n2, k2⟩ := k1.dashPut (D'.args.length : Nat)
            have c13 := i1.freeF 13
            have d13 := i1.cellF 13 (.int .i64 D'.dash) rfl
            rw [n1.F] at c13 d13
            have zJ := zI0
            rw [n1.F, hav] at zJ
            rw [hav] at c12
            go_wp2_with (
              at_builtin
              refine wpList_append_own_at _ (by rfl) _ _ _ (by rfl) D'.base 9 i0 _ 1 16 Try.underlying25 hi0 hz0 hz1 hz2 rfl (by omega) (.slice aa D'.args.length ac) D'.args.length (D'.args.map .string) (by rfl) zJ.rArgs
                A left.length (cv - 1) (left.map .string) (by rfl) (by rw [List.length_map]; omega) (Texts.news HT.out (by rw [← n1.w0]; exact zJ.bel.block)) (texts_oneCell left)
                (by have := HA.out; unfold maxLen; omega) (by have := HA.out; omega) zJ.bel.size ?_
              intro nv2 w3 hown2 hgrow2 hnil2 hat2
              obtain ⟨na2, nc2, rfl⟩ := row_form hown2
              obtain ⟨⟨g1, g2⟩, zI⟩ := args_end zJ left _ hgrow2 hown2
              obtain ⟨n3, k3⟩ := k2.argsPut (.slice na2 (D'.args.length + left.length) nc2) left
              try rw [n1.F] at g1 g2)
            go_ret
            rw [HE.out]
            rw [← n1.F] at zI ⊢
            refine ⟨.nilIface, rfl, _, zI, n1.trans (n2.trans n3), ?_, ?_⟩
            · rw [← HA.out]; exact k3
            · rw [he1]; rfl
          · have z2 : ((x.size : Int) == 2) = false := by rw [beq_eq_false_iff_ne]; omega
            have HE : Hid (goesN s way l.length l r = goesN s way m (longF s way x left r').2 (longF s way x left r').1) := Lib.hid (by rw [HR.out]; simp [goesN, he1, ErrD.isNone, hb, h45, hq, hxz2])
            clear HR h45
            have C := long_any (hands.near n1) i1 k1 he1 (by omega) x hx (by omega) (.slice (some A) left.length (cv - 1)) left (by rw [n1.w0]; exact HT.out) (by omega) (fun t ht => HS.out t (hsuf2.subset ht))
            rw [n1.F] at C
            have e1 := longF_given s way x left r'
            have e2 := longF_suffix s way x left r'
            have e3 := longF_args s way x left r'
            have e4 := bytesOf_suffix e2
            have e5 := e2.length_le
            generalize longF s way x left r' = o at *
            obtain ⟨ro, lo⟩ := o
            have e3 : ro.args.length = r'.args.length := congrArg List.length e3
            simp only at e1 e2 e4 e5 HE
            go_wp2_with fail
            refine C.mono ?_
            rintro e w3 ⟨v', ev, D2, rfl, j1, j2, j3, j4, j5⟩
            rw [n1.w0] at j5
            obtain ⟨a5, c5, rfl, -⟩ := j5.len
            cases hz : ro.err.isNone with
            | true =>
              have hze := isNone_eq hz
              have hev : ev = .nilIface := j4.nil_iff.1 hz
              subst hev
              go_wp2_with fail
              go_roundw
              case rel => exact ⟨rfl, D2, ro, lo, m, j1, n1.trans j2, j3, hze, j5, e2.trans hsuf2, by omega, by omega, by omega, HE.out⟩
              case measure => simp; omega
            | false =>
              obtain ⟨t, ve, rfl⟩ := j4.nil_iff.2 hz
              have HE2 : Hid (goesN s way l.length l r = ro) := Lib.hid (by rw [HE.out]; exact goesN_stop _ _ _ _ _ hz)
              clear HE
              go_wp2_with fail
              go_ret
              rw [HE2.out]
              exact ⟨_, D2, rfl, j1, n1.trans j2, j3, j4⟩
        | false =>
          have HE : Hid (goesN s way l.length l r = goesN s way m (shortsF s way (x.extract 1 x.size) left r').2 (shortsF s way (x.extract 1 x.size) left r').1) := Lib.hid (by rw [HR.out]; simp [goesN, he1, ErrD.isNone, hb, h45, hq])
          clear HR h45
          have C := shorts_any (hands.near n1) i1 k1 he1 x hx (by omega) (by omega) (.slice (some A) left.length (cv - 1)) left (by rw [n1.w0]; exact HT.out) (by omega) (fun t ht => HS.out t (hsuf2.subset ht))
          rw [n1.F] at C
          have hxz : (x.extract 1 x.size).size ≤ x.size := by rw [ByteArray.size_extract]; omega
          have e1 := shortsN_given s way left (x.extract 1 x.size).size (x.extract 1 x.size) r' left
          have e2 := shortsN_suffix s way left (x.extract 1 x.size).size (x.extract 1 x.size) r' left (List.suffix_refl _)
          have e3 := shortsN_args s way left (x.extract 1 x.size).size (x.extract 1 x.size) r' left
          have e4 := bytesOf_suffix e2
          have e5 := e2.length_le
          unfold shortsF at C HE
          generalize shortsN s way left (x.extract 1 x.size).size (x.extract 1 x.size) r' left = o at *
          obtain ⟨ro, lo⟩ := o
          have e3 : ro.args.length = r'.args.length := congrArg List.length e3
          simp only at e1 e2 e4 e5 HE
          go_wp2_with fail
          refine C.mono ?_
          rintro e w3 ⟨v', ev, D2, rfl, j1, j2, j3, j4, j5⟩
          rw [n1.w0] at j5
          obtain ⟨a5, c5, rfl, -⟩ := j5.len
          cases hz : ro.err.isNone with
          | true =>
            have hze := isNone_eq hz
            have hev : ev = .nilIface := j4.nil_iff.1 hz
            subst hev
            go_wp2_with fail
            go_roundw
            case rel => exact ⟨rfl, D2, ro, lo, m, j1, n1.trans j2, j3, hze, j5, e2.trans hsuf2, by omega, by omega, by omega, HE.out⟩
            case measure => simp; omega
          | false =>
            obtain ⟨t, ve, rfl⟩ := j4.nil_iff.2 hz
            have HE2 : Hid (goesN s way l.length l r = ro) := Lib.hid (by rw [HE.out]; exact goesN_stop _ _ _ _ _ hz)
            clear HE
            go_wp2_with fail
            go_ret
            rw [HE2.out]
            exact ⟨_, D2, rfl, j1, n1.trans j2, j3, j4⟩
end Go.Proofs.Ytcpjdgbnfjdakaa
