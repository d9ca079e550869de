/- The flags in memory against the plain set; what parsing may change of them; errors in memory against plain ones. -/
import Derived.Test.YtcpjdgbnfjdakaaNorm2
import Derived.Test.YtcpjdgbnfjdakaaParseFind
namespace Go.Proofs.Ytcpjdgbnfjdakaa
open Go.RowKit
set_option linter.unusedVariables false
set_option linter.unusedSimpArgs false

/-- The flags in memory are those of the plain set, and the maps hold them. -/
structure Ready (D : St) (s : SetD) : Prop where
  norm : NormIs D s.lo s.da
  unk : D.unk = s.unknown
  inter : D.inter = !s.plain
  len : D.rs.length = s.flags.length
  flag : ∀ (i : Nat) (r : FlagR) (f : FlagD), D.rs[i]? = some r → s.flags[i]? = some f → r.nm = s.fold f.name ∧ r.short = f.short ∧ r.noopt = f.noopt ∧ r.bad = f.bad
  form : D.formL = D.rs.map fun r => (r.nm, ptr r.fb)
  short : D.shortL = D.rs.filterMap fun r => (byteO r.short 0).map fun c => (c, ptr r.fb)
  uniq : ∀ (i j : Nat) (r r' : FlagR), D.rs[i]? = some r → D.rs[j]? = some r' → r.nm = r'.nm → i = j
  small : ∀ (i : Nat) (r : FlagR), D.rs[i]? = some r → r.nm.size ≤ 4294967295 ∧ r.noopt.size ≤ 4294967295 ∧ r.bad.length ≤ 2147483647

def FlagR.core (r : FlagR) : FlagR := { r with chg := false }

theorem core_eqs {a b : FlagR} (h : a.core = b.core) : a.nm = b.nm ∧ a.short = b.short ∧ a.noopt = b.noopt ∧ a.fb = b.fb ∧ a.ob = b.ob ∧ a.bv = b.bv ∧ a.bad = b.bad := by
  cases a; cases b
  simp only [FlagR.core, FlagR.mk.injEq] at h
  exact ⟨h.1, h.2.1, h.2.2.1, h.2.2.2.1, h.2.2.2.2.1, h.2.2.2.2.2.1, h.2.2.2.2.2.2.1⟩

/-- What parsing may change of a set. -/
structure Near (D D' : St) : Prop where
  eq : D' = { D with parsed := D'.parsed, dash := D'.dash, act := D'.act, actL := D'.actL, oav := D'.oav, oaL := D'.oaL, argsV := D'.argsV, args := D'.args, saidV := D'.saidV, given := D'.given, rs := D'.rs }
  rs : D'.rs.map FlagR.core = D.rs.map FlagR.core

theorem Near.refl (D : St) : Near D D := ⟨rfl, rfl⟩
theorem Near.trans {a b c : St} (h : Near a b) (k : Near b c) : Near a c :=
  ⟨k.eq.trans (by rw [h.eq]), k.rs.trans h.rs⟩

theorem Near.F {a b : St} (h : Near a b) : b.F = a.F := by rw [h.eq]
theorem Near.Wb {a b : St} (h : Near a b) : b.Wb = a.Wb := by rw [h.eq]
theorem Near.w0 {a b : St} (h : Near a b) : b.w0 = a.w0 := by rw [h.eq]

theorem core_get {l l' : List FlagR} (h : l'.map FlagR.core = l.map FlagR.core) {i : Nat} {r' : FlagR} (hr : l'[i]? = some r') : ∃ r, l[i]? = some r ∧ r'.core = r.core := by
  have := congrArg (·[i]?) h
  simp only [List.getElem?_map, hr, Option.map_some] at this
  cases e : l[i]? with
  | none => rw [e] at this; simp at this
  | some r => rw [e] at this; exact ⟨r, rfl, by simpa using this⟩
theorem core_map {α : Type} {l l' : List FlagR} (h : l'.map FlagR.core = l.map FlagR.core) (f : FlagR → α) (hf : ∀ r, f r.core = f r) : l'.map f = l.map f := by
  have := congrArg (List.map f) h
  simpa [List.map_map, Function.comp_def, hf] using this
theorem core_filterMap {α : Type} {l l' : List FlagR} (h : l'.map FlagR.core = l.map FlagR.core) (f : FlagR → Option α) (hf : ∀ r, f r.core = f r) : l'.filterMap f = l.filterMap f := by
  have := congrArg (List.filterMap f) h
  simpa [List.filterMap_map, Function.comp_def, hf] using this

theorem Near.get {a b : St} (h : Near a b) {i : Nat} {r' : FlagR} (hr : b.rs[i]? = some r') : ∃ r, a.rs[i]? = some r ∧ r'.core = r.core := core_get h.rs hr
theorem Near.get' {a b : St} (h : Near a b) {i : Nat} {r : FlagR} (hr : a.rs[i]? = some r) : ∃ r', b.rs[i]? = some r' ∧ r'.core = r.core := by
  obtain ⟨r', e, k⟩ := core_get h.rs.symm hr
  exact ⟨r', e, k.symm⟩

theorem Ready.near {D D' : St} {s : SetD} (h : Ready D s) (k : Near D D') : Ready D' s := by
  have e := k.eq
  exact {
    norm := by rw [e]; exact h.norm
    unk := by rw [e]; exact h.unk
    inter := by rw [e]; exact h.inter
    len := by rw [← h.len]; simpa using congrArg List.length k.rs
    flag := fun i r f hr hf => by
      obtain ⟨r0, h0, hc⟩ := k.get hr
      have := h.flag i r0 f h0 hf
      have e1 : r.nm = r0.nm := (core_eqs hc).1
      have e2 : r.short = r0.short := (core_eqs hc).2.1
      have e3 : r.noopt = r0.noopt := (core_eqs hc).2.2.1
      have e4 : r.bad = r0.bad := (core_eqs hc).2.2.2.2.2.2
      rw [e1, e2, e3, e4]
      exact this
    form := by
      rw [core_map k.rs (fun r => (r.nm, ptr r.fb)) (fun _ => rfl), ← h.form, e]
    short := by
      rw [core_filterMap k.rs (fun r => (byteO r.short 0).map fun c => (c, ptr r.fb)) (fun _ => rfl), ← h.short, e]
    uniq := fun i j r r' hr hr' hn => by
      obtain ⟨r0, h0, hc⟩ := k.get hr
      obtain ⟨r1, h1, hc1⟩ := k.get hr'
      exact h.uniq i j r0 r1 h0 h1 ((core_eqs hc).1.symm.trans (hn.trans ((core_eqs hc1).1)))
    small := fun i r hr => by
      obtain ⟨r0, h0, hc⟩ := k.get hr
      have e1 : r.nm = r0.nm := (core_eqs hc).1
      have e3 : r.noopt = r0.noopt := (core_eqs hc).2.2.1
      have e4 : r.bad = r0.bad := (core_eqs hc).2.2.2.2.2.2
      rw [e1, e3, e4]
      exact h.small i r0 h0 }

theorem Ready.get {D : St} {s : SetD} (h : Ready D s) {i : Nat} {f : FlagD} (hf : s.flags[i]? = some f) : ∃ r, D.rs[i]? = some r := by
  have : i < D.rs.length := by
    rw [h.len]
    rcases Nat.lt_or_ge i s.flags.length with h' | h'
    · exact h'
    · rw [List.getElem?_eq_none h'] at hf; cases hf
  exact ⟨_, List.getElem?_eq_getElem this⟩
theorem Ready.get' {D : St} {s : SetD} (h : Ready D s) {i : Nat} {r : FlagR} (hr : D.rs[i]? = some r) : ∃ f, s.flags[i]? = some f := by
  have : i < s.flags.length := by
    rw [← h.len]
    rcases Nat.lt_or_ge i D.rs.length with h' | h'
    · exact h'
    · rw [List.getElem?_eq_none h'] at hr; cases hr
  exact ⟨_, List.getElem?_eq_getElem this⟩
theorem Ready.noopt {D : St} {s : SetD} (h : Ready D s) {i : Nat} {r : FlagR} (hr : D.rs[i]? = some r) : s.nooptOf i = r.noopt := by
  obtain ⟨f, hf⟩ := h.get' hr
  rw [(h.flag i r f hr hf).2.2.1]
  simp [SetD.nooptOf, hf]
theorem Ready.bad {D : St} {s : SetD} (h : Ready D s) {i : Nat} {r : FlagR} (hr : D.rs[i]? = some r) : s.badOf i = r.bad := by
  obtain ⟨f, hf⟩ := h.get' hr
  rw [(h.flag i r f hr hf).2.2.2]
  simp [SetD.badOf, hf]

/-- The map of names finds the flag that the plain search finds. -/
theorem Ready.find {D : St} {s : SetD} (h : Ready D s) (n : ByteArray) : mapFind (s.fold n) D.formL 0 = (s.named n).bind fun i => (D.rs[i]?).map fun r => (i, ptr r.fb) := by
  rw [h.form, mapFind_map FlagR.nm (fun r => ptr r.fb)]
  have e : findAt (fun r : FlagR => decide (s.fold n = r.nm)) D.rs 0 = s.named n := by
    refine findAt_congr _ _ _ _ 0 ?_
    apply List.ext_getElem?
    intro i
    rw [List.getElem?_map, List.getElem?_map]
    cases hr : D.rs[i]? with
    | none =>
      have : s.flags[i]? = none := by
        rw [List.getElem?_eq_none_iff] at hr ⊢
        rw [← h.len]; exact hr
      rw [this]; rfl
    | some r =>
      obtain ⟨f, hf⟩ := h.get' hr
      rw [hf, Option.map_some, Option.map_some, (h.flag i r f hr hf).1, eqB_eq]
      exact congrArg some (decide_eq_decide.2 eq_comm)
  rw [e]
  simp

/-- The map of shorthands, likewise. -/
theorem Ready.findS {D : St} {s : SetD} (h : Ready D s) (c : UInt8) : (mapFind c D.shortL 0).map (·.2) = (s.lettered c).bind fun i => (D.rs[i]?).map fun r => ptr r.fb := by
  rw [h.short, mapFind_filterMap (fun r : FlagR => byteO r.short 0) (fun r => ptr r.fb) c D.rs 0 0]
  have e : findAt (fun r : FlagR => byteO r.short 0 == some c) D.rs 0 = s.lettered c := by
    refine findAt_congr _ _ _ _ 0 ?_
    apply List.ext_getElem?
    intro i
    rw [List.getElem?_map, List.getElem?_map]
    cases hr : D.rs[i]? with
    | none =>
      have : s.flags[i]? = none := by
        rw [List.getElem?_eq_none_iff] at hr ⊢
        rw [← h.len]; exact hr
      rw [this]; rfl
    | some r =>
      obtain ⟨f, hf⟩ := h.get' hr
      rw [hf, Option.map_some, Option.map_some, (h.flag i r f hr hf).2.1]
  rw [e]
  simp

/-- The map of names finds a flag by its own name. -/
theorem Ready.own {D : St} {s : SetD} (h : Ready D s) {i : Nat} {r : FlagR} (hr : D.rs[i]? = some r) : mapFind (s.fold r.nm) D.formL 0 = some (i, ptr r.fb) := by
  obtain ⟨f, hf⟩ := h.get' hr
  have e : s.fold r.nm = r.nm := by
    rw [(h.flag i r f hr hf).1]
    exact foldG_idem _ _ _
  rw [e, h.form, mapFind_map FlagR.nm (fun r => ptr r.fb)]
  cases c : findAt (fun x : FlagR => decide (r.nm = x.nm)) D.rs 0 with
  | none =>
    have := findAt_none _ _ _ c r (List.mem_of_getElem? hr)
    simp at this
  | some j =>
    obtain ⟨x, h1, h2⟩ := findAt_sat _ _ _ _ c
    rw [Nat.sub_zero] at h1
    have : i = j := h.uniq i j r x hr h1 (by simpa using h2)
    subst this
    simp [hr]

/-- A run of parsing: what is in memory is what was heard. -/
structure Runs (D : St) (s : SetD) (way : Way) (r : RunD) : Prop where
  ready : Ready D s
  given : D.given = r.given
  args : D.args = r.args
  dash : D.dash = r.dash
  parsed : D.parsed = D.fin
  chg : ∀ (i : Nat) (x : FlagR), D.rs[i]? = some x → x.chg = match way with | .sets => D.given.any (fun g => g.1 == i) | .hands _ => false
  oa : D.oaL.length ≤ D.given.length

/-- An error in memory. -/
def ErrIs (D : St) (w : World) (e : Value) : ErrD → Prop
  | .none => e = .nilIface
  | .help => e = .iface 143 (.string ⟨#[112, 102, 108, 97, 103, 58, 32, 104, 101, 108, 112, 32, 114, 101, 113, 117, 101, 115, 116, 101, 100]⟩)
  | .notExist n sh => ∃ b k, e = .iface 137 (ptr b) ∧ w.heap[b]? = some (.cells #[.string n, .string sh, .int .i64 k] 154 (0, 0))
  | .valueReq i n sh => ∃ b r, e = .iface 139 (ptr b) ∧ D.rs[i]? = some r ∧ w.heap[b]? = some (.cells #[ptr r.fb, .string n, .string sh] 156 (0, 0))
  | .invalid i v => ∃ b r x, e = .iface 141 (ptr b) ∧ D.rs[i]? = some r ∧ w.heap[b]? = some (.cells #[ptr r.fb, .string v, x] 158 (0, 0))
  | .badSyntax t => ∃ b, e = .iface 142 (ptr b) ∧ w.heap[b]? = some (.cells #[.string t] 160 (0, 0))
  | .other => e = .iface 97 (.agg #[])

theorem ErrIs.later {D : St} {w w' : World} {e : Value} {x : ErrD} (h : ErrIs D w e x) (hb : Below w.heap.size w w') : ErrIs D w' e x := by
  cases x with
  | none => exact h
  | help => exact h
  | other => exact h
  | notExist n sh => obtain ⟨b, k, h1, h2⟩ := h; exact ⟨b, k, h1, (hb.block b (lt_of_block h2)).trans h2⟩
  | valueReq i n sh => obtain ⟨b, r, h1, h2, h3⟩ := h; exact ⟨b, r, h1, h2, (hb.block b (lt_of_block h3)).trans h3⟩
  | invalid i v => obtain ⟨b, r, x, h1, h2, h3⟩ := h; exact ⟨b, r, x, h1, h2, (hb.block b (lt_of_block h3)).trans h3⟩
  | badSyntax t => obtain ⟨b, h1, h2⟩ := h; exact ⟨b, h1, (hb.block b (lt_of_block h2)).trans h2⟩

theorem ErrIs.nil_iff {D : St} {w : World} {e : Value} {x : ErrD} (h : ErrIs D w e x) : (x.isNone = true → e = .nilIface) ∧ (x.isNone = false → ∃ t v, e = .iface t v) := by
  cases x with
  | none => exact ⟨fun _ => h, fun h => (nomatch h)⟩
  | help => exact ⟨fun h => (nomatch h), fun _ => ⟨_, _, h⟩⟩
  | other => exact ⟨fun h => (nomatch h), fun _ => ⟨_, _, h⟩⟩
  | notExist n sh => obtain ⟨b, k, h1, h2⟩ := h; exact ⟨fun h => (nomatch h), fun _ => ⟨_, _, h1⟩⟩
  | valueReq i n sh => obtain ⟨b, r, h1, h2, h3⟩ := h; exact ⟨fun h => (nomatch h), fun _ => ⟨_, _, h1⟩⟩
  | invalid i v => obtain ⟨b, r, x, h1, h2, h3⟩ := h; exact ⟨fun h => (nomatch h), fun _ => ⟨_, _, h1⟩⟩
  | badSyntax t => obtain ⟨b, h1, h2⟩ := h; exact ⟨fun h => (nomatch h), fun _ => ⟨_, _, h1⟩⟩
end Go.Proofs.Ytcpjdgbnfjdakaa
