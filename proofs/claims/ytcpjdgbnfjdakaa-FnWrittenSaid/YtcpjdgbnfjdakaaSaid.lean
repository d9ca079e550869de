/- What is written for a parser: in memory, its size, whether a flag takes a value; what it reads xs. -/
import Derived.Test.YtcpjdgbnfjdakaaLetters
import Derived.Test.YtcpjdgbnfjdakaaGrows
import Derived.Test.YtcpjdgbnfjdakaaLives
import Derived.Test.YtcpjdgbnfjdakaaOpenS
namespace Go.Proofs.Ytcpjdgbnfjdakaa
open Go.RowKit Go.ChangeShapes Go.WideShapes Go.Deep
set_option linter.unusedVariables false
set_option linter.unusedSimpArgs false

/-- A flag with a value, or an argument. -/
structure SaidD where
  way : Int
  flag : Int
  text : ByteArray
instance : Inhabited SaidD := ⟨⟨0, 0, ⟨#[]⟩⟩⟩

def SaidRows (w : World) (v : Value) (l : List SaidD) : Prop :=
  ∃ a cap, v = .slice a l.length cap ∧ (l = [] ∨ ∃ b off cs ty fz, a = some ⟨b, off, none⟩ ∧ w.heap[b]? = some (.cells cs ty fz) ∧ ∀ i x, l[i]? = some x → cs[off + i * 3]? = some (.int .i64 x.way) ∧ cs[off + i * 3 + 1]? = some (.int .i64 x.flag) ∧ cs[off + i * 3 + 2]? = some (.string x.text))
theorem SaidRows.later {w w' : World} {v : Value} {l : List SaidD} (h : SaidRows w v l) (hk : ∀ b, b < w.heap.size → w'.heap[b]? = w.heap[b]?) : SaidRows w' v l := by
  obtain ⟨a, cap, e, h⟩ := h
  refine ⟨a, cap, e, ?_⟩
  rcases h with h | ⟨b, off, cs, ty, fz, ha, hb, hc⟩
  · exact .inl h
  · exact .inr ⟨b, off, cs, ty, fz, ha, (hk b (lt_of_block hb)).trans hb, hc⟩
theorem SaidRows.len {w : World} {v : Value} {l : List SaidD} (h : SaidRows w v l) : ∃ a cap, v = .slice a l.length cap := by
  obtain ⟨a, cap, e, _⟩ := h
  exact ⟨a, cap, e⟩
theorem SaidRows.row {w : World} {a : Option Addr} {n cap : Nat} {l : List SaidD} (h : SaidRows w (.slice a n cap) l) {k : Nat} (hk : k < l.length) : ∃ b off, a = some ⟨b, off, none⟩ ∧ b < w.heap.size ∧ w.cell? ⟨b, off + k * 3, none⟩ = some (.int .i64 l[k].way) ∧ w.cell? ⟨b, off + k * 3 + 1, none⟩ = some (.int .i64 l[k].flag) ∧ w.cell? ⟨b, off + k * 3 + 2, none⟩ = some (.string l[k].text) := by
  obtain ⟨a', cap', e, h⟩ := h
  cases e
  rcases h with h | ⟨b, off, cs, ty, fz, ha, hb, hc⟩
  · subst h; simp at hk
  · obtain ⟨q0, q1, q2⟩ := hc k _ (List.getElem?_eq_getElem hk)
    exact ⟨b, off, ha, lt_of_block hb, by simp [World.cell?, hb, q0], by simp [World.cell?, hb, q1], by simp [World.cell?, hb, q2]⟩

variable {H : Type} {enc : TypeId × Value → H} {W : World} {sp : Nat → Bool} {held : Bool}
theorem hone3 : ∃ f0 f1 f2 : Field, Try.prog.underlying 109 = some (.struct #[f0, f1, f2]) ∧ oneCellFields Try.prog #[f0, f1, f2] = true ∧ f0.type = 3 ∧ f1.type = 3 ∧ f2.type = 9 :=
  ⟨_, _, _, Try.underlying109, by kernel_rfl, rfl, rfl, rfl⟩
set_option maxRecDepth 1000000 in
theorem said_of_trod {fuel : Nat} {cs : List Value} {x : DataW H × List MemPlace} (h : DataW.trod enc Try.prog W 0 sp held fuel 109 cs = some x) :
    ∃ s : SaidD, cs = [.int .i64 s.way, .int .i64 s.flag, .string s.text] := by
  obtain ⟨f0, f1, f2, ht, hone, e0, e1, e2⟩ := hone3
  obtain ⟨xs, n, -, -, hlen, hxl, hf⟩ := DataW.trod_struct ht h
  rw [show Try.prog.cellsOf 109 = 3 from by kernel_rfl] at hlen
  match cs, hlen with
  | [c0, c1, c2], _ =>
    match xs, hxl with
    | [y0, y1, y2], _ =>
      obtain ⟨o0, k0⟩ := hone_of hone 0 f0 rfl
      obtain ⟨o1, k1⟩ := hone_of hone 1 f1 rfl
      obtain ⟨o2, k2⟩ := hone_of hone 2 f2 rfl
      have h0 : DataW.trod enc Try.prog W 0 sp held n f0.type [c0] = some y0 := by simpa [o0, k0] using hf 0 f0 rfl
      have h1 : DataW.trod enc Try.prog W 0 sp held n f1.type [c1] = some y1 := by simpa [o1, k1] using hf 1 f1 rfl
      have h2 : DataW.trod enc Try.prog W 0 sp held n f2.type [c2] = some y2 := by simpa [o2, k2] using hf 2 f2 rfl
      rw [e0] at h0
      rw [e1] at h1
      rw [e2] at h2
      obtain ⟨n0, q0, -, -⟩ := DataW.trod_int Try.underlying3 h0
      obtain ⟨n1, q1, -, -⟩ := DataW.trod_int Try.underlying3 h1
      obtain ⟨s2, q2, -, -⟩ := DataW.trod_string Try.underlying9 h2
      cases q0; cases q1; cases q2
      exact ⟨⟨n0, n1, s2⟩, rfl⟩
set_option maxRecDepth 1000000 in
theorem open_saids {b0 : Nat} {v : Value} {d : DataW H} {p : List MemPlace} (hv : Value.okWide Try.prog W .any b0 65 v) (h : DataW.Trod enc Try.prog W 0 sp held 65 v d p) :
    ∃ l, SaidRows W v l ∧ l.length ≤ maxLen := by
  obtain ⟨va, vn, vc, rfl⟩ := okWide_slice Try.underlying65 hv
  obtain ⟨fuel, hf⟩ := h
  rcases open_slice Try.underlying65 hf with ⟨e, -⟩ | ⟨a, len, cap, m, n, D, Pl, e, hb, hl, hm, hmm, -, hx⟩
  · refine ⟨[], ?_, Nat.zero_le _⟩
    have : Value.slice va vn vc = .slice none 0 0 := by simpa [Value.cells] using e
    rw [this]
    exact ⟨none, 0, rfl, .inl rfl⟩
  · have e2 : Value.slice va vn vc = .slice (some a) len cap := by simpa [Value.cells] using e
    rw [e2]
    have hlm : len ≤ m := by rw [hmm]; split <;> omega
    have hc : Try.prog.cellsOf 109 = 3 := by kernel_rfl
    rw [hc] at hx
    have each : ∀ i, i < len → ∃ q : SaidD, (∀ j v, [Value.int .i64 q.way, .int .i64 q.flag, .string q.text][j]? = some v → W.cell? (a.add (i * 3 + j)) = some v) := fun i hi => by
      obtain ⟨cs', h1, h2⟩ := hx i (by omega)
      obtain ⟨f, rfl⟩ := said_of_trod h2
      obtain ⟨_, hcl, hat⟩ := World.cells?_some h1
      refine ⟨f, fun j v hj => ?_⟩
      have hj4 : j < 3 := (List.getElem?_eq_some_iff.1 hj).1
      rw [← Go.Deep.add_add, hat j hj4, hj]
    obtain ⟨Q, hQ⟩ := choose_lt each
    refine ⟨(List.range len).map fun i => Q i, ⟨some a, cap, by simp, ?_⟩, by simp; omega⟩
    by_cases h0 : 0 < len
    · right
      obtain ⟨b, off, cs, ty, fz, rfl, hbk, hcs⟩ := slice_block (w := W) (a := a) (n := len * 3) (V := fun k => ([Value.int .i64 (Q (k / 3)).way, .int .i64 (Q (k / 3)).flag, .string (Q (k / 3)).text][k % 3]?).getD .nilIface) (by omega) (fun k hk => by
        have h1 : k / 3 < len := by omega
        have h2 : k / 3 * 3 + k % 3 = k := by omega
        have h3 : k % 3 < 3 := Nat.mod_lt _ (by omega)
        have := hQ (k / 3) h1 (k % 3) _ (List.getElem?_eq_getElem (by simpa using h3))
        rw [h2] at this
        rw [this, List.getElem?_eq_getElem (by simpa using h3)]
        rfl)
      refine ⟨b, off, cs, ty, fz, rfl, hbk, fun i f hf => ?_⟩
      have hi : i < len := by
        have := (List.getElem?_eq_some_iff.1 hf).1
        simpa using this
      have hfe : f = Q i := by
        rw [List.getElem?_map, List.getElem?_range hi] at hf
        exact (Option.some.inj hf).symm
      subst hfe
      refine ⟨?_, ?_, ?_⟩
      · have := hcs (i * 3) (by omega)
        rw [show i * 3 / 3 = i by omega, show i * 3 % 3 = 0 by omega] at this
        exact this
      · have := hcs (i * 3 + 1) (by omega)
        rw [show (i * 3 + 1) / 3 = i by omega, show (i * 3 + 1) % 3 = 1 by omega] at this
        exact this
      · have := hcs (i * 3 + 2) (by omega)
        rw [show (i * 3 + 2) / 3 = i by omega, show (i * 3 + 2) % 3 = 2 by omega] at this
        exact this
    · left
      have : len = 0 := by omega
      subst this; rfl

def SmallS (l : List SaidD) : Prop := l.length ≤ 2147483647 ∧ ∀ x ∈ l, x.text.size ≤ 2147483647
theorem fits24_any (x : SaidD) (w : World) :
    Calls Try.prog 70 #[.agg #[.int .i64 x.way, .int .i64 x.flag, .string x.text]] w fun e w' => Tells (x.text.size ≤ 2147483647) e ∧ Below w.heap.size w w' := by
  obtain ⟨way, flag, text⟩ := x
  go_enter Try.func70, Try.ntmps70
  by_cases h0 : (2147483647 : Int) < (text.size : Int)
  · have d0 : decide ((2147483647 : Int) < (text.size : Int)) = true := decide_eq_true h0
    go_wp2_with fail
    go_ret
    exact ⟨Tells.no rfl, by (repeat (first | (with_reducible exact Below.refl _ _) | (with_reducible assumption) | ((with_reducible refine Below.alloc ?_ ?_ _); rotate_left; focus ((try simp only [World.size_alloc, size_setCell, World.heap_drewN]); (try omega); done)) | ((with_reducible refine Below.setCell ?_ ?_ _); rotate_left; focus ((try simp only [World.size_alloc, size_setCell, World.heap_drewN]); (try omega); done)) | (with_reducible refine Below.drewN' ?_) | (with_reducible refine Below.drew ?_)))⟩
  · have d0 : decide ((2147483647 : Int) < (text.size : Int)) = false := decide_eq_false h0
    go_wp2_with fail
    go_ret
    exact ⟨Tells.yes rfl (by show text.size ≤ 2147483647; omega), by (repeat (first | (with_reducible exact Below.refl _ _) | (with_reducible assumption) | ((with_reducible refine Below.alloc ?_ ?_ _); rotate_left; focus ((try simp only [World.size_alloc, size_setCell, World.heap_drewN]); (try omega); done)) | ((with_reducible refine Below.setCell ?_ ?_ _); rotate_left; focus ((try simp only [World.size_alloc, size_setCell, World.heap_drewN]); (try omega); done)) | (with_reducible refine Below.drewN' ?_) | (with_reducible refine Below.drew ?_)))⟩
theorem fits23_any (v : Value) (l : List SaidD) (w : World) (hv : SaidRows w v l) (hl : l.length ≤ 9223372036854775807) :
    Calls Try.prog 40 #[v] w fun e w' => Tells (SmallS l) e ∧ Below w.heap.size w w' := by
  obtain ⟨a, cap, rfl⟩ := hv.len
  have HV := Lib.hid hv
  clear hv
  go_enter Try.func40, Try.ntmps40
  by_cases h0 : (2147483647 : Int) < (l.length : Int)
  · have d0 : decide ((2147483647 : Int) < (l.length : Int)) = true := decide_eq_true h0
    go_wp2_with fail
    go_ret
    exact ⟨Tells.no rfl, Below.refl _ _⟩
  · have d0 : decide ((2147483647 : Int) < (l.length : Int)) = false := decide_eq_false h0
    go_wp2_with fail
    go_loopw [10] (fun i wr => Below w.heap.size w wr ∧ ∃ k : Nat, k ≤ l.length ∧ i = .int .i64 k ∧ ∀ j (h : j < l.length), j < k → l[j].text.size ≤ 2147483647) (fun i _ => l.length - (intOf i).toNat)
    case atStart => exact ⟨Below.refl _ _, 0, Nat.zero_le _, rfl, fun j _ h => by omega⟩
    case round =>
      obtain ⟨hbel, k, hk, rfl, hh⟩ := hrel
      have HH := Lib.hid hh
      clear hh
      by_cases hlt : k < l.length
      · obtain ⟨b, off, rfl, hb, p0, p1, p2⟩ := (HV.out.later hbel.block).row hlt
        have HN : Hid (l[k].text.size ≤ 2147483647 → ∀ j (h : j < l.length), j < k + 1 → l[j].text.size ≤ 2147483647) := Lib.hid (fun hx j h hj => by
          by_cases e : j = k
          · subst e; exact hx
          · exact HH.out j h (by omega))
        have HB := Lib.hid hbel
        clear hbel
        generalize l[k] = x at *
        have C := Lib.hid (fun W => fits24_any x W)
        go_wp2_with fail
        refine (C.out _).mono ?_
        rintro e w2 ⟨⟨r, rfl, hr⟩, hb2⟩
        have HB2 := Lib.hid (Below.after (HB.out.alloc HB.out.size _) hb2)
        have HR := Lib.hid hr
        clear hr hb2
        cases r with
        | true =>
          go_wp2_with fail
          go_roundw
          case rel => exact ⟨HB2.out, k + 1, by omega, by go_num, HN.out (HR.out (by trivial))⟩
          case measure => simp [intOf]; omega
        | false =>
          go_wp2_with fail
          go_ret
          exact ⟨Tells.no rfl, HB2.out⟩
      · go_wp2_with fail
        go_ret
        refine ⟨Tells.yes rfl ⟨by omega, fun s hs => ?_⟩, hbel⟩
        obtain ⟨j, hj, rfl⟩ := List.mem_iff_getElem.1 hs
        exact HH.out j hj (by omega)

set_option maxHeartbeats 1000000 in
theorem fits14w_any (v : Value) (ls : List (List ByteArray)) (w : World) (hv : StrRows w v ls) (hl : ls.length ≤ 2147483647) (hs : ∀ l ∈ ls, l.length ≤ 2147483647 ∧ ∀ s ∈ l, s.size ≤ 1099511627776) :
    Calls Try.prog 18 #[v] w fun e w' => e = .returned (.bool (fitsF ls)) ∧ w' = w := by
  obtain ⟨a, cap, rfl, hv⟩ := hv
  have hrow : ∀ i (h : i < ls.length), ∃ b off r, a = some ⟨b, off, none⟩ ∧ w.cell? ⟨b, off + i, none⟩ = some r ∧ Strs w r ls[i] := by
    intro i h
    rcases hv with hv | ⟨b, off, cs, ty, fz, ha, hb, hc⟩
    · subst hv; simp at h
    · obtain ⟨r, h1, h2⟩ := hc i h
      exact ⟨b, off, r, ha, by simp [World.cell?, hb, h1], h2⟩
  have HR := Lib.hid hrow
  have HS := Lib.hid hs
  clear hrow hv hs
  go_enter Try.func18, Try.ntmps18
  go_wp2_with fail
  go_loop [3, 10] (fun n i => ∃ k : Nat, k ≤ ls.length ∧ i = .int .i64 k ∧ n = .int .i64 (bytesOfAll (ls.take k)) ∧ bytesOfAll (ls.take k) ≤ 1048576) (fun _ i => ls.length - (intOf i).toNat)
  case atStart => exact ⟨0, Nat.zero_le _, rfl, rfl, by simp [bytesOfAll]⟩
  case round =>
    obtain ⟨k, hk, rfl, rfl, hle⟩ := hrel
    by_cases hlt : k < ls.length
    · obtain ⟨b, off, r, rfl, hc, hr⟩ := HR.out k hlt
      obtain ⟨ra, rcap, rfl⟩ := hr.len
      have hsz := HS.out ls[k] (List.getElem_mem hlt)
      have hb1 : bytesOfAll (ls.take (k + 1)) = bytesOfAll (ls.take k) + bytesOf ls[k] := bytesOfAll_take_succ ls k hlt
      have hb2 : bytesOfAll (ls.take (k + 1)) ≤ bytesOfAll ls := bytesOfAll_take_le ls (k + 1)
      have HB1 := Lib.hid hb1
      clear hb1
      have hcell : ∀ i (h : i < ls[k].length), ∃ rb ro, ra = some ⟨rb, ro, none⟩ ∧ w.cell? ⟨rb, ro + i, none⟩ = some (.string ls[k][i]) := by
        intro i h
        obtain ⟨rb, ro, e, f⟩ := hr.cell (by omega)
        exact ⟨rb, ro, e, f i h⟩
      have HC := Lib.hid hcell
      clear hcell hr
      obtain ⟨h1, h2⟩ := hsz
      have H2 := Lib.hid h2
      clear h2
      generalize ls[k] = row at *
      generalize bytesOfAll (ls.take k) = T at *
      go_wp2_with fail
      go_loop [3, 16] (fun n i => ∃ j : Nat, j ≤ row.length ∧ i = .int .i64 j ∧ n = .int .i64 ((T + bytesOf (row.take j) : Nat)) ∧ T + bytesOf (row.take j) ≤ 1048576) (fun _ i => row.length - (intOf i).toNat)
      case atStart => exact ⟨0, Nat.zero_le _, rfl, rfl, by simpa [bytesOf] using hle⟩
      case round =>
        obtain ⟨j, hj, rfl, rfl, hle2⟩ := hrel
        by_cases hlt2 : j < row.length
        · obtain ⟨rb, ro, rfl, hc2⟩ := HC.out j hlt2
          have hsz := H2.out row[j] (List.getElem_mem hlt2)
          have hs1 := bytesOf_take_succ row j hlt2
          have hs2 := bytesOf_take_le row (j + 1)
          have HS1 := Lib.hid hs1
          clear hs1
          generalize row[j] = s at *
          by_cases hbig : T + bytesOf (row.take j) + (1 + s.size) ≤ 1048576
          · go_wp2_with fail
            go_round
            case rel => exact ⟨j + 1, by omega, by go_num, by rw [HS1.out]; go_num, by rw [HS1.out]; omega⟩
            case measure => simp [intOf]; omega
          · have hno : fitsF ls = false := by
              rw [fitsF, decide_eq_false_iff_not]
              have e1 := HB1.out
              have e2 := HS1.out
              omega
            have HNO := Lib.hid hno
            clear hno
            go_wp2_with fail
            go_ret
            exact ⟨by rw [HNO.out]; rfl, rfl⟩
        · have e : row.take j = row := List.take_of_length_le (by omega)
          rw [e] at hle2 ⊢
          go_wp2_with fail
          go_round
          case rel => exact ⟨k + 1, by omega, by go_num, by rw [HB1.out], by rw [HB1.out]; exact hle2⟩
          case measure => simp [intOf]; omega
    · have e : ls.take k = ls := List.take_of_length_le (by omega)
      rw [e] at hle ⊢
      have hyes : fitsF ls = true := decide_eq_true hle
      have HY := Lib.hid hyes
      clear hyes
      go_wp2_with fail
      go_ret
      exact ⟨by rw [HY.out]; rfl, rfl⟩

/-! What is written reads xs this. -/
structure Wrote (s : SetD) (A : List ByteArray) (G : List (Nat × ByteArray)) (L : List ByteArray) : Prop where
  on : ∀ c, goesF s .sets (A ++ c) begin0 = goesF s .sets c ⟨.none, G, L, -1⟩
theorem Wrote.nil (s : SetD) : Wrote s [] [] [] := ⟨fun c => rfl⟩
theorem Wrote.bare {s : SetD} {A : List ByteArray} {G : List (Nat × ByteArray)} {L : List ByteArray} (h : Wrote s A G L) {x : ByteArray} (hb : bareF x = true) (hp : s.plain = false) : Wrote s (A ++ [x]) G (L ++ [x]) := ⟨fun c => by
  rw [List.append_assoc, h.on]
  show goesF s .sets (x :: c) _ = _
  rw [goesF, List.length_cons, goesN, if_neg (by simp [ErrD.isNone]), if_pos hb, if_neg (by simp [hp])]
  rfl⟩
theorem give_takes {s : SetD} {k : Nat} {v : ByteArray} (hb : hasB (s.badOf k) v = false) (G : List (Nat × ByteArray)) (L : List ByteArray) : giveF s .sets k v ⟨.none, G, L, -1⟩ = ⟨.none, G ++ [(k, v)], L, -1⟩ := by
  simp only [giveF, hb]
  rfl
theorem Wrote.give {s : SetD} {A : List ByteArray} {G : List (Nat × ByteArray)} {L : List ByteArray} (h : Wrote s A G L) {xs : List ByteArray} {k : Nat} {v : ByteArray} (hb : hasB (s.badOf k) v = false) (hg : ∀ c r, r.err.isNone = true → goesF s .sets (xs ++ c) r = goesF s .sets c (giveF s .sets k v r)) : Wrote s (A ++ xs) (G ++ [(k, v)]) L := ⟨fun c => by
  rw [List.append_assoc, h.on, hg c _ rfl, give_takes hb]⟩
theorem Wrote.end_ {s : SetD} {A : List ByteArray} {G : List (Nat × ByteArray)} {L : List ByteArray} (h : Wrote s A G L) (B : List ByteArray) : goesF s .sets (A ++ ([(⟨#[45, 45]⟩ : ByteArray)] ++ B)) begin0 = ⟨.none, G, L ++ B, L.length⟩ := by
  rw [h.on]
  show goesF s .sets ((⟨#[45, 45]⟩ : ByteArray) :: B) _ = _
  rw [goesF, List.length_cons, goesN, if_neg (by simp [ErrD.isNone]), if_neg (by decide), if_pos (by decide), if_pos (by decide)]

/-- takes14. -/
theorem takes14_any (fa : Option Addr) (fc : Nat) (fs : List FlagD) (p u fold : Value) (k : Nat) (v : ByteArray) (w : World) (hv : FlagRows w (.slice fa fs.length fc) fs) (hk : k < fs.length) (hl : fs.length ≤ 2147483647) (hbl : fs[k].bad.length ≤ 2147483647) :
    Calls Try.prog 72 #[.agg #[.slice fa fs.length fc, p, u, fold], .int .i64 k, .string v] w fun e w' => e = .returned (.bool (!hasB fs[k].bad v)) ∧ Below w.heap.size w w' := by
  obtain ⟨nb, nof, ba, bc, rfl, hnb, p0, p1, p2, p3, hs⟩ := hv.row hk
  obtain ⟨w1, hw1⟩ : ∃ w1, w.alloc (.cells #[.slice (some ⟨nb, nof, none⟩) fs.length fc, p, u, fold] 24) = w1 := ⟨_, rfl⟩
  have hb1 : Below w.heap.size w w1 := by rw [← hw1]; (repeat (first | (with_reducible exact Below.refl _ _) | (with_reducible assumption) | ((with_reducible refine Below.alloc ?_ ?_ _); rotate_left; focus ((try simp only [World.size_alloc, size_setCell, World.heap_drewN]); (try omega); done)) | ((with_reducible refine Below.setCell ?_ ?_ _); rotate_left; focus ((try simp only [World.size_alloc, size_setCell, World.heap_drewN]); (try omega); done)) | (with_reducible refine Below.drewN' ?_) | (with_reducible refine Below.drew ?_)))
  have q3 : w1.cell? ⟨nb, nof + k * 4 + 3, none⟩ = some (.slice ba fs[k].bad.length bc) := by
    have : w1.cell? ⟨nb, nof + k * 4 + 3, none⟩ = w.cell? ⟨nb, nof + k * 4 + 3, none⟩ := by simp only [World.cell?, hb1.block _ hnb]
    rw [this]; exact p3
  have c0 : w1.cell? ⟨w.heap.size, 0, none⟩ = some (.slice (some ⟨nb, nof, none⟩) fs.length fc) := by rw [← hw1]; unfold World.cell?; rw [heap_at _ _ _ rfl]; rfl
  have hs1 := hs.later hb1.block
  generalize fs[k].bad = l at *
  have hcell : ∀ i (h : i < l.length), ∃ b off, ba = some ⟨b, off, none⟩ ∧ w1.cell? ⟨b, off + i, none⟩ = some (.string l[i]) := by
    intro i h
    obtain ⟨b, off, e, f⟩ := hs1.cell (by omega)
    exact ⟨b, off, e, f i h⟩
  have HC := Lib.hid hcell
  have HB1 := Lib.hid hb1
  clear hcell hs hs1 p0 p1 p2 p3 hv hb1
  go_enter Try.func72, Try.ntmps72
  go_wp2_with fail
  go_loop [16] (fun i => ∃ j : Nat, j ≤ l.length ∧ i = .int .i64 j ∧ hasB l v = hasB (l.drop j) v) (fun i => l.length - (intOf i).toNat)
  case atStart => exact ⟨0, Nat.zero_le _, rfl, rfl⟩
  case round =>
    obtain ⟨j, hj, rfl, hh⟩ := hrel
    have HH := Lib.hid hh
    clear hh
    by_cases hlt : j < l.length
    · obtain ⟨b, off, rfl, hc⟩ := HC.out j hlt
      have hd : l.drop j = l[j] :: l.drop (j + 1) := List.drop_eq_getElem_cons hlt
      have HD := Lib.hid hd
      clear hd
      cases he : eqB l[j] v with
      | true =>
        have he' : (l[j].toList == v.toList) = true := he
        go_wp2_with fail
        go_ret
        exact ⟨by rw [HH.out, HD.out, hasB, List.any_cons, he]; rfl, HB1.out⟩
      | false =>
        have he' : (l[j].toList == v.toList) = false := he
        have HE := Lib.hid he
        clear he
        go_wp2_with fail
        go_round
        case rel => exact ⟨j + 1, by omega, by go_num, by rw [HH.out, HD.out, hasB, List.any_cons, HE.out]; rfl⟩
        case measure => simp [intOf]; omega
    · have e : l.drop j = [] := List.drop_eq_nil_of_le (by omega)
      have HE := Lib.hid e
      clear e
      go_wp2_with fail
      go_ret
      exact ⟨by rw [HH.out, HE.out]; rfl, HB1.out⟩
end Go.Proofs.Ytcpjdgbnfjdakaa
