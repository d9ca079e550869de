/- The walk of impl.made: the set that was asked for, in memory. -/
import Derived.Test.YtcpjdgbnfjdakaaMadeA
import Derived.Deep.RegionHeld3
namespace Go.Proofs.Ytcpjdgbnfjdakaa
open Go.RowKit
set_option linter.unusedVariables false
set_option linter.unusedSimpArgs false

/-- A slice of flags' definitions. -/
def FlagRows (w : World) (v : Value) (fs : List FlagD) : Prop :=
  ∃ a cap, v = .slice a fs.length cap ∧ (fs = [] ∨ ∃ b off cs ty fz, a = some ⟨b, off, none⟩ ∧ w.heap[b]? = some (.cells cs ty fz) ∧
    ∀ i (f : FlagD), fs[i]? = some f → ∃ bv, cs[off + i * 4]? = some (.string f.name) ∧ cs[off + i * 4 + 1]? = some (.string f.short) ∧ cs[off + i * 4 + 2]? = some (.string f.noopt) ∧ cs[off + i * 4 + 3]? = some bv ∧ Strs w bv f.bad)

/-- What a right set's flags are like. -/
structure RightP (s : SetD) (fs : List FlagD) : Prop where
  nm : ∀ (i j : Nat) (f g : FlagD), fs[i]? = some f → fs[j]? = some g → s.fold f.name = s.fold g.name → i = j
  one : ∀ (i : Nat) (f : FlagD), fs[i]? = some f → f.short.size = 0 ∨ f.short.size = 1
  sh : ∀ (i j : Nat) (f g : FlagD) (c : UInt8), fs[i]? = some f → fs[j]? = some g → byteO f.short 0 = some c → byteO g.short 0 = some c → i = j
  small : ∀ (i : Nat) (f : FlagD), fs[i]? = some f → f.name.size ≤ 4294967295 ∧ f.noopt.size ≤ 4294967295 ∧ f.bad.length ≤ 2147483647
  len : fs.length ≤ 2147483647

/-- The set whose first k flags are defined. -/
def SetD.upto (s : SetD) (fs : List FlagD) (k : Nat) : SetD := { s with flags := fs.take k, plain := false, unknown := false }

theorem findAt_all {α : Type} (p : α → Bool) : ∀ (l : List α) (k : Nat), (∀ x ∈ l, p x = false) → findAt p l k = none
  | [], _, _ => rfl
  | x :: l, k, h => by
    rw [findAt, h x (by simp), if_neg (by simp)]
    exact findAt_all p l (k + 1) fun y hy => h y (by simp [hy])

theorem mem_take {fs : List FlagD} {k : Nat} {g : FlagD} (h : g ∈ fs.take k) : ∃ j, j < k ∧ fs[j]? = some g := by
  obtain ⟨j, hj⟩ := List.mem_iff_getElem?.1 h
  rw [List.getElem?_take] at hj
  split at hj
  · rename_i c; exact ⟨j, c, hj⟩
  · cases hj

theorem upto_named {s : SetD} {fs : List FlagD} {k : Nat} {f : FlagD} (R : RightP s fs) (hf : fs[k]? = some f) : (s.upto fs k).named f.name = none := by
  refine findAt_all _ _ _ fun g hg => ?_
  obtain ⟨j, hj, hgj⟩ := mem_take hg
  rw [eqB_eq]
  refine decide_eq_false fun e => ?_
  have : j = k := R.nm j k g f hgj hf e
  omega
theorem upto_lettered {s : SetD} {fs : List FlagD} {k : Nat} {f : FlagD} (R : RightP s fs) (hf : fs[k]? = some f) (c : UInt8) (hc : byteO f.short 0 = some c) : (s.upto fs k).lettered c = none := by
  refine findAt_all _ _ _ fun g hg => ?_
  obtain ⟨j, hj, hgj⟩ := mem_take hg
  rw [beq_eq_false_iff_ne]
  intro e
  have : j = k := R.sh j k g f c hgj hf e hc
  omega

theorem take_snoc {fs : List FlagD} {k : Nat} {f : FlagD} (hf : fs[k]? = some f) : fs.take (k + 1) = fs.take k ++ [f] := by
  obtain ⟨h1, h2⟩ := List.getElem?_eq_some_iff.1 hf
  rw [List.take_succ_eq_append_getElem h1, h2]

theorem snoc_get {α : Type} {l : List α} {x : α} {t : Nat} {y : α} (h : (l ++ [x])[t]? = some y) : (t = l.length ∧ y = x) ∨ (t < l.length ∧ l[t]? = some y) := by
  by_cases e : t < l.length
  · rw [List.getElem?_append_left e] at h
    exact .inr ⟨e, h⟩
  · rw [List.getElem?_append_right (by omega)] at h
    cases ht : t - l.length with
    | zero => rw [ht] at h; simp at h; exact .inl ⟨by omega, h.symm⟩
    | succ m => rw [ht] at h; simp at h

theorem Fresh.add {D : St} {s : SetD} {fs : List FlagD} {k : Nat} {f : FlagD} (h : Fresh D (s.upto fs k)) (R : RightP s fs) (hf : fs[k]? = some f) (fb ob : Nat) (bv : Value) (fm sm : Option Nat) (ofv flv : Value) (ofL flL : List Value) (xb : Option (Nat × Array Value)) :
    Fresh { D with rs := D.rs ++ [⟨s.fold f.name, f.short, f.noopt, fb, ob, bv, f.bad, false⟩], fm := fm, formL := D.formL ++ [(s.fold f.name, ptr fb)], ofv := ofv, ofL := ofL, sm := sm, shortL := D.shortL ++ ((byteO f.short 0).map fun c => (c, ptr fb)).toList, flv := flv, flL := flL, xb := xb } (s.upto fs (k + 1)) := by
  obtain ⟨hlt, _⟩ := List.getElem?_eq_some_iff.1 hf
  have hk : D.rs.length = k := by
    have := h.ready.len
    simp only [SetD.upto, List.length_take] at this
    omega
  have old : ∀ (i : Nat) (r : FlagR), D.rs[i]? = some r → ∃ g, fs[i]? = some g ∧ i < k ∧ r.nm = s.fold g.name ∧ r.short = g.short ∧ r.noopt = g.noopt ∧ r.bad = g.bad := by
    intro i r hr
    have hi : i < k := by rw [← hk]; exact (List.getElem?_eq_some_iff.1 hr).1
    have hg : fs[i]? = some (fs[i]'(by omega)) := List.getElem?_eq_getElem (by omega)
    have := h.ready.flag i r _ hr (by simp only [SetD.upto]; rw [List.getElem?_take, if_pos hi]; exact hg)
    exact ⟨_, hg, hi, this⟩
  refine ⟨⟨h.ready.norm, h.ready.unk, h.ready.inter, ?_, ?_, ?_, ?_, ?_, ?_⟩, h.given, h.oa, ?_, h.dash, h.np, h.fin, h.noargs⟩
  · simp only [SetD.upto, List.length_append, List.length_singleton, List.length_take]; omega
  · intro i r g hr hg
    simp only [SetD.upto] at hg
    rw [List.getElem?_take] at hg
    split at hg
    · rcases snoc_get hr with ⟨e, rfl⟩ | ⟨e, hr'⟩
      · have : f = g := by rw [e, hk, hf] at hg; exact Option.some.inj hg
        subst this
        exact ⟨rfl, rfl, rfl, rfl⟩
      · obtain ⟨g', h1, _, h2⟩ := old i r hr'
        have : g' = g := by rw [h1] at hg; exact Option.some.inj hg
        subst this
        exact h2
    · cases hg
  · show D.formL ++ _ = _
    rw [h.ready.form, List.map_append]
    rfl
  · show D.shortL ++ _ = _
    rw [h.ready.short, List.filterMap_append]
    refine congrArg _ ?_
    cases hb : byteO f.short 0 with
    | none => simp [hb]
    | some c => simp [hb]
  · intro i j r r' hr hr' e
    rcases snoc_get hr with ⟨e1, rfl⟩ | ⟨e1, hr1⟩ <;> rcases snoc_get hr' with ⟨e2, rfl⟩ | ⟨e2, hr2⟩
    · omega
    · obtain ⟨g', h1, h3, h2, _⟩ := old j r' hr2
      have := R.nm k j f g' hf h1 (by rw [← h2]; exact e)
      omega
    · obtain ⟨g', h1, h3, h2, _⟩ := old i r hr1
      have := R.nm i k g' f h1 hf (by rw [← h2]; exact e)
      omega
    · exact h.ready.uniq i j r r' hr1 hr2 e
  · intro i r hr
    rcases snoc_get hr with ⟨e, rfl⟩ | ⟨e, hr'⟩
    · obtain ⟨a, b, c⟩ := R.small k f hf
      exact ⟨by show (foldG _ _ _).size ≤ _; rw [size_foldG]; exact a, b, c⟩
    · exact h.ready.small i r hr'
  · intro i x hx
    rcases snoc_get hx with ⟨e, rfl⟩ | ⟨e, hr'⟩
    · rfl
    · exact h.chg i x hr'

theorem fl_end {D : St} {w w2 : World} (h : Inv D w) {o : Obj} (p : Value) (hg : (w.alloc o).grownBy w2 D.flv.ownBlock) (g cap : Nat) (hat : D.flv.ownBlock = some g ∨ g = w.heap.size + 1)
    (hr : w2.ownsRow D.base 91 1 (.slice (some ⟨g, 0, none⟩) (D.flL.length + 1) cap) (D.flL.length + 1) (D.flL ++ [p])) :
    (w2.cell? ⟨D.Wb, 1, none⟩ = some D.flv ∧ w2.frozen? ⟨D.Wb, 1, none⟩ = false) ∧
      Inv { D with flv := .slice (some ⟨g, 0, none⟩) (D.flL.length + 1) cap, flL := D.flL ++ [p] } (w2.setCell ⟨D.Wb, 1, none⟩ (.slice (some ⟨g, 0, none⟩) (D.flL.length + 1) cap)) := by
  have h1 : Inv D (w.alloc o) := h.later ((Below.refl _ w).alloc (Nat.le_refl _) o)
  have e1 : (D.flL ++ [p]).length = D.flL.length + 1 := by simp
  obtain ⟨a, b, c⟩ := h1.appendFl hg g cap (D.flL ++ [p]) (by simpa using hat) (by rw [e1]; exact hr)
  rw [e1] at c
  refine ⟨⟨?_, ?_⟩, c⟩ <;> simp [World.cell?, World.frozen?, a, whCells]

theorem varPF_at {D : St} {w : World} {lo da : Bool} (F : Nat) (hF : D.F = F) (h : Inv D w) (hno : NormIs D lo da) (nm short : ByteArray) (ob : Nat) (bv : Value) (bad : List ByteArray) (ho1 : w.heap[ob]? = some (.cells (ownCells D D.rs.length ⟨nm, short, ⟨#[]⟩, 0, ob, bv, bad, false⟩) 124 (0, 0))) (hbv : Strs D.w0 bv bad)
    (hz : nm.size ≤ 4294967295) (hf : mapFind (foldG lo da nm) D.formL 0 = none)
    (hs : short.size = 0 ∨ ∃ h1 : short.size = 1, mapFind (short[0]'(by omega)) D.shortL 0 = none) (ho : D.ofL.length ≤ 1099511627776) :
    Calls Try.prog 81 #[ptr F, .iface 121 (ptr ob), .string nm, .string short, .string ⟨#[]⟩] w fun e w' => ∃ fb fm sm ofv, e = .returned (ptr fb) ∧
      Inv { D with rs := D.rs ++ [⟨foldG lo da nm, short, ⟨#[]⟩, fb, ob, bv, bad, false⟩], fm := fm, formL := D.formL ++ [(foldG lo da nm, ptr fb)], ofv := ofv, ofL := D.ofL ++ [ptr fb], sm := sm, shortL := D.shortL ++ ((byteO short 0).map fun c => (c, ptr fb)).toList } w' := by
  subst hF
  exact varPF_any h hno nm short ob bv bad ho1 hbv hz hf hs ho

/-- A set that is built: its first k flags are there. -/
structure Build (w1 : World) (D : St) (s : SetD) (fs : List FlagD) (k : Nat) : Prop where
  fresh : Fresh D (s.upto fs k)
  fl : D.flL = D.rs.map fun r => ptr r.fb
  ofl : D.ofL.length = k
  w0 : D.w0 = w1
  F : D.F = w1.heap.size
  Wb : D.Wb = w1.heap.size + 1

theorem Fresh.finish {D : St} {s : SetD} (h : Fresh D (s.upto s.flags s.flags.length)) : Fresh { D with inter := !s.plain, unk := s.unknown } s := by
  have e : (s.upto s.flags s.flags.length).flags = s.flags := List.take_length
  refine ⟨⟨h.ready.norm, rfl, rfl, ?_, ?_, h.ready.form, h.ready.short, h.ready.uniq, h.ready.small⟩, h.given, h.oa, h.chg, h.dash, h.np, h.fin, h.noargs⟩
  · have := h.ready.len; rw [e] at this; exact this
  · intro i r f hr hf
    exact h.ready.flag i r f hr (by rw [e]; exact hf)

theorem Build.start {w1 : World} {s : SetD} {fs : List FlagD} {v : Value} (hn : NormIs { St.start w1 with norm := v } s.lo s.da) : Build w1 { St.start w1 with norm := v } s fs 0 where
  fresh := {
    ready := {
      norm := hn
      unk := rfl
      inter := rfl
      len := by simp [SetD.upto, St.start]
      flag := fun i r f hr => by simp [St.start] at hr
      form := rfl
      short := rfl
      uniq := fun i j r r' hr => by simp [St.start] at hr
      small := fun i r hr => by simp [St.start] at hr }
    given := rfl
    oa := rfl
    chg := fun i x hx => by simp [St.start] at hx
    dash := rfl
    np := rfl
    fin := rfl
    noargs := rfl }
  fl := rfl
  ofl := rfl
  w0 := rfl
  F := rfl
  Wb := rfl

set_option maxRecDepth 100000 in
set_option maxHeartbeats 6400000 in
theorem made_any (fv : Value) (fs : List FlagD) (plain unk : Bool) (fold : Int) (w : World) (hv : FlagRows w fv fs) (s : SetD) (hsf : s.flags = fs) (hsp : s.plain = plain) (hsu : s.unknown = unk) (hlo : s.lo = (fold == 1 || fold == 3)) (hda : s.da = (fold == 2 || fold == 3)) (R : RightP s fs) :
    Calls Try.prog 51 #[.agg #[fv, .bool plain, .bool unk, .int .i64 fold]] w fun e w' => ∃ D, e = .returned (ptr D.Wb) ∧ Inv D w' ∧ Fresh D s ∧ D.flL = (D.rs.map fun r => ptr r.fb) ∧ Below w.heap.size w D.w0 ∧ D.base = w.heap.size + 1 := by
  obtain ⟨av, cv, rfl, hv⟩ := hv
  have hmf : ∀ (fn : Fn) (first cap : Array Value) (w : World), (Instr.makeFunc fn first cap).run Try.prog w = .ok (.func fn first cap) w := fun _ _ _ _ => rfl
  have HV := Lib.hid hv
  clear hv
  have hsz1 : (w.alloc (.cells #[.slice av fs.length cv, .bool plain, .bool unk, .int .i64 fold] 24)).heap.size = w.heap.size + 1 := by rw [World.size_alloc]
  have hbs : (w.alloc (.cells #[.slice av fs.length cv, .bool plain, .bool unk, .int .i64 fold] 24)).heap[w.heap.size]? = some (.cells #[.slice av fs.length cv, .bool plain, .bool unk, .int .i64 fold] 24 (0, 0)) := heap_at _ _ _ rfl
  have hbe : Below w.heap.size w (w.alloc (.cells #[.slice av fs.length cv, .bool plain, .bool unk, .int .i64 fold] 24)) := (Below.refl _ w).alloc (Nat.le_refl _) _
  go_enter Try.func51, Try.ntmps51
  go_wp2_with fail
  generalize w.alloc (.cells #[.slice av fs.length cv, .bool plain, .bool unk, .int .i64 fold] 24) = w1 at *
  have HK := Lib.hid hbe.block
  refine (newSet_any _).mono ?_
  rintro e w2 ⟨rfl, rfl⟩
  have i0 := Inv.start w1
  have hlen := R.len
  obtain ⟨i0P, hi0, hz0, hz1, hz2⟩ := info_parts infoP
  have c3 : w1.cell? ⟨w.heap.size, 3, none⟩ = some (.int .i64 fold) := by simp [World.cell?, hbs]
  have c0 : w1.cell? ⟨w.heap.size, 0, none⟩ = some (.slice av fs.length cv) := by simp [World.cell?, hbs]
  have c1 : w1.cell? ⟨w.heap.size, 1, none⟩ = some (.bool plain) := by simp [World.cell?, hbs]
  have c2 : w1.cell? ⟨w.heap.size, 2, none⟩ = some (.bool unk) := by simp [World.cell?, hbs]
  have lbs : w.heap.size < w1.heap.size := by omega
  by_cases hf0 : fold = 0
  · subst hf0
    have B0 : Build w1 (St.start w1) s fs 0 := Build.start (v := .nilFunc) (.inl ⟨rfl, by rw [hlo]; rfl, by rw [hda]; rfl⟩)
    go_wp2_with fail
    go_loopw [22] (fun vi w' => ∃ k D, vi = .int .i64 ((k : Nat) : Int) ∧ k ≤ fs.length ∧ Inv D w' ∧ Build w1 D s fs k) (fun vi _ => fs.length - (intOf vi).toNat)
    case atStart =>
      refine ⟨0, _, rfl, Nat.zero_le _, ?_, B0⟩
      rw [← hsz1]
      exact i0
    case round =>
      obtain ⟨k, D, rfl, hk, i3, B⟩ := hrel
      by_cases hlt : k < fs.length
      · obtain ⟨b, off, cs, ty, fz, rfl, hbw, hfs⟩ := HV.out.resolve_left (fun e => by rw [e] at hlt; simp at hlt)
        obtain ⟨bv, q0, q1, q2, q3, hbv⟩ := hfs k fs[k] (List.getElem?_eq_getElem hlt)
        obtain ⟨ba, bc, rfl⟩ := hbv.len
        have hb3 : wr.heap[b]? = some (.cells cs ty fz) := (i3.bel.block b (by rw [St.base, B.w0, hsz1]; have := lt_of_block hbw; omega)).trans (by rw [B.w0]; exact (HK.out b (lt_of_block hbw)).trans hbw)
        have p0 : wr.cell? ⟨b, off + k * 4, none⟩ = some (.string fs[k].name) := by simp [World.cell?, hb3, q0]
        have p1 : wr.cell? ⟨b, off + k * 4 + 1, none⟩ = some (.string fs[k].short) := by simp [World.cell?, hb3, q1]
        have p2 : wr.cell? ⟨b, off + k * 4 + 2, none⟩ = some (.string fs[k].noopt) := by simp [World.cell?, hb3, q2]
        have p3 : wr.cell? ⟨b, off + k * 4 + 3, none⟩ = some (.slice ba fs[k].bad.length bc) := by simp [World.cell?, hb3, q3]
        have hg : fs[k]? = some fs[k] := List.getElem?_eq_getElem hlt
        have HBV := Lib.hid hbv
        generalize fs[k] = f at *
        clear q0 q1 q2 q3 hfs hb3 hbv
        have i4 := i3.boxD #[.string f.name, .string f.short, .string f.noopt, .slice ba f.bad.length bc]
        have FR := B.fresh
        have eF : D.F = w.heap.size + 1 := B.F.trans hsz1
        have eW : D.Wb = w.heap.size + 1 + 1 := by rw [B.Wb, hsz1]
        have hfind : mapFind (foldG s.lo s.da f.name) D.formL 0 = none := by
          have q := FR.ready.find f.name
          rw [upto_named R hg] at q
          exact q
        have hsh : f.short.size = 0 ∨ ∃ h1 : f.short.size = 1, mapFind (f.short[0]'(by omega)) D.shortL 0 = none := by
          rcases R.one k f hg with e | e
          · exact .inl e
          · right
            refine ⟨e, ?_⟩
            have q := FR.ready.findS (f.short[0]'(by omega))
            rw [upto_lettered R hg _ (byteO_some (by omega))] at q
            cases c : mapFind (f.short[0]'(by omega)) D.shortL 0 with
            | none => rfl
            | some y => rw [c] at q; simp at q
        obtain ⟨z1, z2, z3⟩ := R.small k f hg
        have hrk : D.rs.length = k := by
          have q := FR.ready.len
          simp only [SetD.upto, List.length_take] at q
          omega
        have HF := Lib.hid hfind
        have HSH := Lib.hid hsh
        have HRK := Lib.hid hrk
        have HEF := Lib.hid eF
        have HEW := Lib.hid eW
        clear hfind hsh hrk FR eF eW
        go_wp2_with fail
        generalize wr.alloc (.cells #[.string f.name, .string f.short, .string f.noopt, .slice ba f.bad.length bc] 62) = w4 at i4 ⊢
        generalize wr.heap.size = X at i4 ⊢
        have cell4 : ∀ w', Inv { D with xb := some (X, #[.string f.name, .string f.short, .string f.noopt, .slice ba f.bad.length bc]) } w' → w'.cell? ⟨w.heap.size + 1 + 1, 0, none⟩ = some (ptr (w.heap.size + 1)) ∧ w'.cell? ⟨X, 0, none⟩ = some (.string f.name) ∧ w'.cell? ⟨X, 1, none⟩ = some (.string f.short) ∧ w'.cell? ⟨X, 3, none⟩ = some (.slice ba f.bad.length bc) := by
          intro w' h'
          have q := h'.hxb _ rfl
          have q2 := h'.whCells.1
          simp only [HEF.out, HEW.out] at q2
          exact ⟨q2, by simp [World.cell?, q], by simp [World.cell?, q], by simp [World.cell?, q]⟩
        have cell5 : ∀ rs fm fl ofv ol sm sl w', Inv { D with xb := some (X, #[.string f.name, .string f.short, .string f.noopt, .slice ba f.bad.length bc]), rs := rs, fm := fm, formL := fl, ofv := ofv, ofL := ol, sm := sm, shortL := sl } w' → w'.cell? ⟨w.heap.size + 1 + 1, 0, none⟩ = some (ptr (w.heap.size + 1)) ∧ w'.cell? ⟨X, 0, none⟩ = some (.string f.name) ∧ w'.cell? ⟨X, 1, none⟩ = some (.string f.short) ∧ w'.cell? ⟨X, 3, none⟩ = some (.slice ba f.bad.length bc) := by
          intro rs fm fl ofv ol sm sl w' h'
          have q := h'.hxb _ rfl
          have q2 := h'.whCells.1
          simp only [HEF.out, HEW.out] at q2
          exact ⟨q2, by simp [World.cell?, q], by simp [World.cell?, q], by simp [World.cell?, q]⟩
        have hno : NormIs { D with xb := some (X, #[.string f.name, .string f.short, .string f.noopt, .slice ba f.bad.length bc]) } s.lo s.da := B.fresh.ready.norm
        have C : ∀ w', Inv { D with xb := some (X, #[.string f.name, .string f.short, .string f.noopt, .slice ba f.bad.length bc]) } w' → Calls Try.prog 81 #[ptr (w.heap.size + 1), .iface 121 (ptr w'.heap.size), .string f.name, .string f.short, .string ⟨#[]⟩] (w'.alloc (.cells #[.int .i64 k, .slice ba f.bad.length bc, .pointer (some ⟨w.heap.size + 1 + 1, 2, none⟩)] 124))
            fun e w'' => ∃ fb fm sm ofv, e = .returned (ptr fb) ∧ Inv { D with xb := some (X, #[.string f.name, .string f.short, .string f.noopt, .slice ba f.bad.length bc]), rs := D.rs ++ [⟨foldG s.lo s.da f.name, f.short, ⟨#[]⟩, fb, w'.heap.size, .slice ba f.bad.length bc, f.bad, false⟩], fm := fm, formL := D.formL ++ [(foldG s.lo s.da f.name, ptr fb)], ofv := ofv, ofL := D.ofL ++ [ptr fb], sm := sm, shortL := D.shortL ++ ((byteO f.short 0).map fun c => (c, ptr fb)).toList } w'' := by
          intro w' h'
          have hc : ownCells { D with xb := some (X, #[.string f.name, .string f.short, .string f.noopt, .slice ba f.bad.length bc]) } D.rs.length ⟨f.name, f.short, ⟨#[]⟩, 0, w'.heap.size, .slice ba f.bad.length bc, f.bad, false⟩ = #[.int .i64 k, .slice ba f.bad.length bc, .pointer (some ⟨w.heap.size + 1 + 1, 2, none⟩)] := by
            simp only [ownCells, HRK.out, HEW.out]
          refine varPF_at (D := { D with xb := some (X, #[.string f.name, .string f.short, .string f.noopt, .slice ba f.bad.length bc]) }) (w.heap.size + 1) HEF.out (h'.later ((Below.refl _ _).alloc (Nat.le_refl _) _)) hno f.name f.short w'.heap.size (.slice ba f.bad.length bc) f.bad ?_ ?_ z1 HF.out HSH.out ?_
          · rw [show ({ D with xb := some (X, #[.string f.name, .string f.short, .string f.noopt, .slice ba f.bad.length bc]) } : St).rs = D.rs from rfl, hc]; exact heap_at _ _ _ rfl
          · show Strs D.w0 _ _
            rw [B.w0]; exact HBV.out.later HK.out
          · show D.ofL.length ≤ _
            rw [B.ofl]; have := R.len; omega
        clear hno
        go_region_held3 (fun w' => w'.cell? ⟨w.heap.size + 1 + 1, 0, none⟩ = some (ptr (w.heap.size + 1)) ∧ w'.cell? ⟨X, 0, none⟩ = some (.string f.name) ∧ w'.cell? ⟨X, 1, none⟩ = some (.string f.short) ∧ w'.cell? ⟨X, 3, none⟩ = some (.slice ba f.bad.length bc))
          (first
            | exact cell4 _ i4
            | exact cell4 _ (i4.drewN 1)
            | exact cell4 _ ((i4.drewN 1).later ((Below.refl _ _).alloc (Nat.le_refl _) _))
            | exact cell5 _ _ _ _ _ _ _ _ i5)
          ((go_simp; go_at_call 81; refine (C _ (i4.drewN 1)).mono ?_; rintro e w5 ⟨fb, fm, sm, ofv, rfl, i5⟩))
        obtain ⟨x0, hx0e⟩ : ∃ x : FlagR, x = ⟨foldG s.lo s.da f.name, f.short, ⟨#[]⟩, fb, w4.heap.size, .slice ba f.bad.length bc, f.bad, false⟩ := ⟨_, rfl⟩
        have hx0 : (D.rs ++ [x0])[k]? = some x0 := by rw [← HRK.out]; simp
        have hset : (D.rs ++ [x0]).set k { x0 with noopt := f.noopt } = D.rs ++ [{ x0 with noopt := f.noopt }] := by
          rw [← HRK.out, List.set_append_right _ _ (Nat.le_refl _)]; simp
        have i5 : Inv { D with xb := some (X, #[.string f.name, .string f.short, .string f.noopt, .slice ba f.bad.length bc]), rs := D.rs ++ [x0], fm := fm, formL := D.formL ++ [(foldG s.lo s.da f.name, ptr fb)], ofv := ofv, ofL := D.ofL ++ [ptr fb], sm := sm, shortL := D.shortL ++ ((byteO f.short 0).map fun c => (c, ptr fb)).toList } w5 := by rw [hx0e]; exact i5
        have efb : x0.fb = fb := by rw [hx0e]
        have i6 := i5.setFlag k x0 { x0 with noopt := f.noopt } hx0 6 (.string f.noopt) rfl rfl rfl rfl rfl
        dsimp only at i6
        rw [hset, efb] at i6
        have q := i5.hxb _ rfl
        have p2' : w5.cell? ⟨X, 2, none⟩ = some (.string f.noopt) := by simp [World.cell?, q]
        have q6 := i5.hfl k x0 hx0
        rw [efb] at q6
        have n6 : w5.cell? ⟨fb, 6, none⟩ = some (.string ⟨#[]⟩) := by simp [World.cell?, q6, flagCells, hx0e]
        have z6 : w5.frozen? ⟨fb, 6, none⟩ = false := by simp [World.frozen?, q6]
        have d1 := i5.whCells.2.1
        have hnW : fb ≠ w.heap.size + 1 + 1 := by
          rw [← HEW.out]; exact cells_ne q6 i5.hW (by decide)
        simp only [HEW.out] at d1
        have rFl : (w5.setCell ⟨fb, 6, none⟩ (.string f.noopt)).ownsRow D.base 91 1 D.flv D.flL.length D.flL := i6.rFl
        have hfl : D.flL.length ≤ 2147483647 := by rw [B.fl, List.length_map, HRK.out]; have := R.len; omega
        have hb6 := i6.bel.size
        clear q q6 C cell4 cell5 i3 i4
        go_wp2_with (
          at_builtin
          refine wpList_append_lies _ (by rfl) _ _ _ (by rfl) D.base 91 i0P _ 1 8 Try.underlying85 hi0 hz0 hz1 hz2 rfl (by omega) D.flv D.flL.length D.flL (by rfl) (rFl.alloc _)
            ⟨w5.heap.size, 0, none⟩ 1 1 [ptr fb] (by rfl) (by rfl) (World.news_of_block (cs := #[ptr fb]) (t := 91) (fr := (0, 0)) (heap_at _ _ _ (by rw [size_setCell]))) (by simp [Value.oneCell'])
            (by omega) (by unfold maxLen; omega) (by omega) (by simp only [World.size_alloc]; exact Nat.le_succ_of_le hb6) (w5.heap.size + 1) (by simp only [World.size_alloc, size_setCell]) ?_
          intro gg cap w7 hown1 hgrow hat hlt7
          obtain ⟨⟨y1, y2⟩, yI⟩ := fl_end i6 (ptr fb) hgrow gg cap (by rw [size_setCell]; exact hat) hown1
          simp only [HEW.out] at y1 y2)
        go_roundw
        case rel =>
          rw [← HEW.out]
          dsimp only at yI
          rw [hx0e] at yI
          refine ⟨k + 1, _, by go_num, hlt, yI, ⟨?_, ?_, ?_, B.w0, B.F, B.Wb⟩⟩
          · exact B.fresh.add R hg fb _ _ _ _ _ _ _ _ _
          · show D.flL ++ [ptr fb] = _
            rw [B.fl, List.map_append]; rfl
          · show (D.ofL ++ [ptr fb]).length = _
            rw [List.length_append, B.ofl]; rfl
        case measure => simp [intOf]; omega
      · have hkk : k = fs.length := by omega
        subst hkk
        have d0 := i3.whCells.1
        rw [B.Wb, B.F, hsz1] at d0
        have c1w : wr.cell? ⟨w.heap.size, 1, none⟩ = some (.bool plain) := by
          rw [World.cell?_of_block (i3.bel.block w.heap.size (by rw [St.base, B.w0]; exact lbs)), B.w0]
          exact c1
        have c2w : wr.cell? ⟨w.heap.size, 2, none⟩ = some (.bool unk) := by
          rw [World.cell?_of_block (i3.bel.block w.heap.size (by rw [St.base, B.w0]; exact lbs)), B.w0]
          exact c2
        go_wp2_with fail
        go_still_tail 7, (by kernel_rfl)
        change wpList _ _ _ _ _ wr.drew
        have i4 : Inv D wr.drew := i3.drewN 1
        have C := setInter_any i4 (!plain)
        have i5 := inter_put i4 (!plain)
        have f15 := i4.cellF 15 (.bool D.inter) rfl
        rw [B.F, hsz1] at C
        generalize wr.drew = w4 at i4 C i5 f15 ⊢
        go_wp2_with fail
        refine C.mono ?_
        rintro e w5 ⟨rfl, rfl⟩
        have d0' := i5.whCells.1
        have c2' : (w4.setCell ⟨D.F, 15, none⟩ (.bool !plain)).cell? ⟨w.heap.size, 2, none⟩ = some (.bool unk) := by
          rw [World.cell?_of_block (i5.bel.block w.heap.size (by show _ < St.base D; rw [St.base, B.w0]; exact lbs)), show ({ D with inter := !plain } : St).w0 = w1 from B.w0]
          exact c2
        have e1 := i5.cellF 1 (.bool D.unk) rfl
        have e2 := i5.freeF 1
        have i6 := (unk_put (i5.drewN 1) unk)
        dsimp only at d0' e1 e2 i6
        rw [B.F, hsz1] at c2' e1 e2
        rw [B.Wb, hsz1, B.F, hsz1] at d0'
        go_wp2_with fail
        go_region
        go_wp2_with fail
        go_ret
        refine ⟨{ D with inter := !plain, unk := unk }, ?_, ?_, ?_, B.fl, ?_, ?_⟩
        · show _ = Ending.returned (ptr D.Wb)
          rw [B.Wb, hsz1]; rfl
        · rw [← hsz1, ← B.F]
          exact i6
        · have q := B.fresh
          rw [← hsf] at q
          have q2 := q.finish
          rw [hsp, hsu] at q2
          exact q2
        · show Below w.heap.size w D.w0
          rw [B.w0]; exact hbe
        · show St.base D = _
          rw [St.base, B.w0]; exact hsz1
  · have hq : (fold == 0) = false := by rw [beq_eq_false_iff_ne]; exact hf0
    have hq2 : (fold != 0) = true := by rw [bne, hq]; rfl
    have B0 : Build w1 { St.start w1 with norm := .func (.func 79) #[] #[ptr w.heap.size] } s fs 0 := Build.start (.inr ⟨w.heap.size, fold, _, rfl, hbs, rfl, hlo, hda⟩)
    go_wp2_with fail
    rw [← hsz1]
    refine (setNorm_any i0 rfl (.func 79) #[] #[ptr w.heap.size]).mono ?_
    rintro e w3 ⟨rfl, j1⟩
    rw [hsz1]
    have c03 : w3.cell? ⟨w.heap.size, 0, none⟩ = some (.slice av fs.length cv) := (World.cell?_of_block (j1.bel.block w.heap.size lbs)).trans c0
    go_wp2_with fail
    go_loopw [22] (fun vi w' => ∃ k D, vi = .int .i64 ((k : Nat) : Int) ∧ k ≤ fs.length ∧ Inv D w' ∧ Build w1 D s fs k) (fun vi _ => fs.length - (intOf vi).toNat)
    case atStart =>
      refine ⟨0, _, rfl, Nat.zero_le _, ?_, B0⟩
      exact j1
    case round =>
      obtain ⟨k, D, rfl, hk, i3, B⟩ := hrel
      by_cases hlt : k < fs.length
      · obtain ⟨b, off, cs, ty, fz, rfl, hbw, hfs⟩ := HV.out.resolve_left (fun e => by rw [e] at hlt; simp at hlt)
        obtain ⟨bv, q0, q1, q2, q3, hbv⟩ := hfs k fs[k] (List.getElem?_eq_getElem hlt)
        obtain ⟨ba, bc, rfl⟩ := hbv.len
        have hb3 : wr.heap[b]? = some (.cells cs ty fz) := (i3.bel.block b (by rw [St.base, B.w0, hsz1]; have := lt_of_block hbw; omega)).trans (by rw [B.w0]; exact (HK.out b (lt_of_block hbw)).trans hbw)
        have p0 : wr.cell? ⟨b, off + k * 4, none⟩ = some (.string fs[k].name) := by simp [World.cell?, hb3, q0]
        have p1 : wr.cell? ⟨b, off + k * 4 + 1, none⟩ = some (.string fs[k].short) := by simp [World.cell?, hb3, q1]
        have p2 : wr.cell? ⟨b, off + k * 4 + 2, none⟩ = some (.string fs[k].noopt) := by simp [World.cell?, hb3, q2]
        have p3 : wr.cell? ⟨b, off + k * 4 + 3, none⟩ = some (.slice ba fs[k].bad.length bc) := by simp [World.cell?, hb3, q3]
        have hg : fs[k]? = some fs[k] := List.getElem?_eq_getElem hlt
        have HBV := Lib.hid hbv
        generalize fs[k] = f at *
        clear q0 q1 q2 q3 hfs hb3 hbv
        have i4 := i3.boxD #[.string f.name, .string f.short, .string f.noopt, .slice ba f.bad.length bc]
        have FR := B.fresh
        have eF : D.F = w.heap.size + 1 := B.F.trans hsz1
        have eW : D.Wb = w.heap.size + 1 + 1 := by rw [B.Wb, hsz1]
        have hfind : mapFind (foldG s.lo s.da f.name) D.formL 0 = none := by
          have q := FR.ready.find f.name
          rw [upto_named R hg] at q
          exact q
        have hsh : f.short.size = 0 ∨ ∃ h1 : f.short.size = 1, mapFind (f.short[0]'(by omega)) D.shortL 0 = none := by
          rcases R.one k f hg with e | e
          · exact .inl e
          · right
            refine ⟨e, ?_⟩
            have q := FR.ready.findS (f.short[0]'(by omega))
            rw [upto_lettered R hg _ (byteO_some (by omega))] at q
            cases c : mapFind (f.short[0]'(by omega)) D.shortL 0 with
            | none => rfl
            | some y => rw [c] at q; simp at q
        obtain ⟨z1, z2, z3⟩ := R.small k f hg
        have hrk : D.rs.length = k := by
          have q := FR.ready.len
          simp only [SetD.upto, List.length_take] at q
          omega
        have HF := Lib.hid hfind
        have HSH := Lib.hid hsh
        have HRK := Lib.hid hrk
        have HEF := Lib.hid eF
        have HEW := Lib.hid eW
        clear hfind hsh hrk FR eF eW
        go_wp2_with fail
        generalize wr.alloc (.cells #[.string f.name, .string f.short, .string f.noopt, .slice ba f.bad.length bc] 62) = w4 at i4 ⊢
        generalize wr.heap.size = X at i4 ⊢
        have cell4 : ∀ w', Inv { D with xb := some (X, #[.string f.name, .string f.short, .string f.noopt, .slice ba f.bad.length bc]) } w' → w'.cell? ⟨w.heap.size + 1 + 1, 0, none⟩ = some (ptr (w.heap.size + 1)) ∧ w'.cell? ⟨X, 0, none⟩ = some (.string f.name) ∧ w'.cell? ⟨X, 1, none⟩ = some (.string f.short) ∧ w'.cell? ⟨X, 3, none⟩ = some (.slice ba f.bad.length bc) := by
          intro w' h'
          have q := h'.hxb _ rfl
          have q2 := h'.whCells.1
          simp only [HEF.out, HEW.out] at q2
          exact ⟨q2, by simp [World.cell?, q], by simp [World.cell?, q], by simp [World.cell?, q]⟩
        have cell5 : ∀ rs fm fl ofv ol sm sl w', Inv { D with xb := some (X, #[.string f.name, .string f.short, .string f.noopt, .slice ba f.bad.length bc]), rs := rs, fm := fm, formL := fl, ofv := ofv, ofL := ol, sm := sm, shortL := sl } w' → w'.cell? ⟨w.heap.size + 1 + 1, 0, none⟩ = some (ptr (w.heap.size + 1)) ∧ w'.cell? ⟨X, 0, none⟩ = some (.string f.name) ∧ w'.cell? ⟨X, 1, none⟩ = some (.string f.short) ∧ w'.cell? ⟨X, 3, none⟩ = some (.slice ba f.bad.length bc) := by
          intro rs fm fl ofv ol sm sl w' h'
          have q := h'.hxb _ rfl
          have q2 := h'.whCells.1
          simp only [HEF.out, HEW.out] at q2
          exact ⟨q2, by simp [World.cell?, q], by simp [World.cell?, q], by simp [World.cell?, q]⟩
        have hno : NormIs { D with xb := some (X, #[.string f.name, .string f.short, .string f.noopt, .slice ba f.bad.length bc]) } s.lo s.da := B.fresh.ready.norm
        have C : ∀ w', Inv { D with xb := some (X, #[.string f.name, .string f.short, .string f.noopt, .slice ba f.bad.length bc]) } w' → Calls Try.prog 81 #[ptr (w.heap.size + 1), .iface 121 (ptr w'.heap.size), .string f.name, .string f.short, .string ⟨#[]⟩] (w'.alloc (.cells #[.int .i64 k, .slice ba f.bad.length bc, .pointer (some ⟨w.heap.size + 1 + 1, 2, none⟩)] 124))
            fun e w'' => ∃ fb fm sm ofv, e = .returned (ptr fb) ∧ Inv { D with xb := some (X, #[.string f.name, .string f.short, .string f.noopt, .slice ba f.bad.length bc]), rs := D.rs ++ [⟨foldG s.lo s.da f.name, f.short, ⟨#[]⟩, fb, w'.heap.size, .slice ba f.bad.length bc, f.bad, false⟩], fm := fm, formL := D.formL ++ [(foldG s.lo s.da f.name, ptr fb)], ofv := ofv, ofL := D.ofL ++ [ptr fb], sm := sm, shortL := D.shortL ++ ((byteO f.short 0).map fun c => (c, ptr fb)).toList } w'' := by
          intro w' h'
          have hc : ownCells { D with xb := some (X, #[.string f.name, .string f.short, .string f.noopt, .slice ba f.bad.length bc]) } D.rs.length ⟨f.name, f.short, ⟨#[]⟩, 0, w'.heap.size, .slice ba f.bad.length bc, f.bad, false⟩ = #[.int .i64 k, .slice ba f.bad.length bc, .pointer (some ⟨w.heap.size + 1 + 1, 2, none⟩)] := by
            simp only [ownCells, HRK.out, HEW.out]
          refine varPF_at (D := { D with xb := some (X, #[.string f.name, .string f.short, .string f.noopt, .slice ba f.bad.length bc]) }) (w.heap.size + 1) HEF.out (h'.later ((Below.refl _ _).alloc (Nat.le_refl _) _)) hno f.name f.short w'.heap.size (.slice ba f.bad.length bc) f.bad ?_ ?_ z1 HF.out HSH.out ?_
          · rw [show ({ D with xb := some (X, #[.string f.name, .string f.short, .string f.noopt, .slice ba f.bad.length bc]) } : St).rs = D.rs from rfl, hc]; exact heap_at _ _ _ rfl
          · show Strs D.w0 _ _
            rw [B.w0]; exact HBV.out.later HK.out
          · show D.ofL.length ≤ _
            rw [B.ofl]; have := R.len; omega
        clear hno
        go_region_held3 (fun w' => w'.cell? ⟨w.heap.size + 1 + 1, 0, none⟩ = some (ptr (w.heap.size + 1)) ∧ w'.cell? ⟨X, 0, none⟩ = some (.string f.name) ∧ w'.cell? ⟨X, 1, none⟩ = some (.string f.short) ∧ w'.cell? ⟨X, 3, none⟩ = some (.slice ba f.bad.length bc))
          (first
            | exact cell4 _ i4
            | exact cell4 _ (i4.drewN 1)
            | exact cell4 _ ((i4.drewN 1).later ((Below.refl _ _).alloc (Nat.le_refl _) _))
            | exact cell5 _ _ _ _ _ _ _ _ i5)
          ((go_simp; go_at_call 81; refine (C _ (i4.drewN 1)).mono ?_; rintro e w5 ⟨fb, fm, sm, ofv, rfl, i5⟩))
        obtain ⟨x0, hx0e⟩ : ∃ x : FlagR, x = ⟨foldG s.lo s.da f.name, f.short, ⟨#[]⟩, fb, w4.heap.size, .slice ba f.bad.length bc, f.bad, false⟩ := ⟨_, rfl⟩
        have hx0 : (D.rs ++ [x0])[k]? = some x0 := by rw [← HRK.out]; simp
        have hset : (D.rs ++ [x0]).set k { x0 with noopt := f.noopt } = D.rs ++ [{ x0 with noopt := f.noopt }] := by
          rw [← HRK.out, List.set_append_right _ _ (Nat.le_refl _)]; simp
        have i5 : Inv { D with xb := some (X, #[.string f.name, .string f.short, .string f.noopt, .slice ba f.bad.length bc]), rs := D.rs ++ [x0], fm := fm, formL := D.formL ++ [(foldG s.lo s.da f.name, ptr fb)], ofv := ofv, ofL := D.ofL ++ [ptr fb], sm := sm, shortL := D.shortL ++ ((byteO f.short 0).map fun c => (c, ptr fb)).toList } w5 := by rw [hx0e]; exact i5
        have efb : x0.fb = fb := by rw [hx0e]
        have i6 := i5.setFlag k x0 { x0 with noopt := f.noopt } hx0 6 (.string f.noopt) rfl rfl rfl rfl rfl
        dsimp only at i6
        rw [hset, efb] at i6
        have q := i5.hxb _ rfl
        have p2' : w5.cell? ⟨X, 2, none⟩ = some (.string f.noopt) := by simp [World.cell?, q]
        have q6 := i5.hfl k x0 hx0
        rw [efb] at q6
        have n6 : w5.cell? ⟨fb, 6, none⟩ = some (.string ⟨#[]⟩) := by simp [World.cell?, q6, flagCells, hx0e]
        have z6 : w5.frozen? ⟨fb, 6, none⟩ = false := by simp [World.frozen?, q6]
        have d1 := i5.whCells.2.1
        have hnW : fb ≠ w.heap.size + 1 + 1 := by
          rw [← HEW.out]; exact cells_ne q6 i5.hW (by decide)
        simp only [HEW.out] at d1
        have rFl : (w5.setCell ⟨fb, 6, none⟩ (.string f.noopt)).ownsRow D.base 91 1 D.flv D.flL.length D.flL := i6.rFl
        have hfl : D.flL.length ≤ 2147483647 := by rw [B.fl, List.length_map, HRK.out]; have := R.len; omega
        have hb6 := i6.bel.size
        clear q q6 C cell4 cell5 i3 i4
        go_wp2_with (
          at_builtin
          refine wpList_append_lies _ (by rfl) _ _ _ (by rfl) D.base 91 i0P _ 1 8 Try.underlying85 hi0 hz0 hz1 hz2 rfl (by omega) D.flv D.flL.length D.flL (by rfl) (rFl.alloc _)
            ⟨w5.heap.size, 0, none⟩ 1 1 [ptr fb] (by rfl) (by rfl) (World.news_of_block (cs := #[ptr fb]) (t := 91) (fr := (0, 0)) (heap_at _ _ _ (by rw [size_setCell]))) (by simp [Value.oneCell'])
            (by omega) (by unfold maxLen; omega) (by omega) (by simp only [World.size_alloc]; exact Nat.le_succ_of_le hb6) (w5.heap.size + 1) (by simp only [World.size_alloc, size_setCell]) ?_
          intro gg cap w7 hown1 hgrow hat hlt7
          obtain ⟨⟨y1, y2⟩, yI⟩ := fl_end i6 (ptr fb) hgrow gg cap (by rw [size_setCell]; exact hat) hown1
          simp only [HEW.out] at y1 y2)
        go_roundw
        case rel =>
          rw [← HEW.out]
          dsimp only at yI
          rw [hx0e] at yI
          refine ⟨k + 1, _, by go_num, hlt, yI, ⟨?_, ?_, ?_, B.w0, B.F, B.Wb⟩⟩
          · exact B.fresh.add R hg fb _ _ _ _ _ _ _ _ _
          · show D.flL ++ [ptr fb] = _
            rw [B.fl, List.map_append]; rfl
          · show (D.ofL ++ [ptr fb]).length = _
            rw [List.length_append, B.ofl]; rfl
        case measure => simp [intOf]; omega
      · have hkk : k = fs.length := by omega
        subst hkk
        have d0 := i3.whCells.1
        rw [B.Wb, B.F, hsz1] at d0
        have c1w : wr.cell? ⟨w.heap.size, 1, none⟩ = some (.bool plain) := by
          rw [World.cell?_of_block (i3.bel.block w.heap.size (by rw [St.base, B.w0]; exact lbs)), B.w0]
          exact c1
        have c2w : wr.cell? ⟨w.heap.size, 2, none⟩ = some (.bool unk) := by
          rw [World.cell?_of_block (i3.bel.block w.heap.size (by rw [St.base, B.w0]; exact lbs)), B.w0]
          exact c2
        go_wp2_with fail
        go_still_tail 7, (by kernel_rfl)
        change wpList _ _ _ _ _ wr.drew
        have i4 : Inv D wr.drew := i3.drewN 1
        have C := setInter_any i4 (!plain)
        have i5 := inter_put i4 (!plain)
        have f15 := i4.cellF 15 (.bool D.inter) rfl
        rw [B.F, hsz1] at C
        generalize wr.drew = w4 at i4 C i5 f15 ⊢
        go_wp2_with fail
        refine C.mono ?_
        rintro e w5 ⟨rfl, rfl⟩
        have d0' := i5.whCells.1
        have c2' : (w4.setCell ⟨D.F, 15, none⟩ (.bool !plain)).cell? ⟨w.heap.size, 2, none⟩ = some (.bool unk) := by
          rw [World.cell?_of_block (i5.bel.block w.heap.size (by show _ < St.base D; rw [St.base, B.w0]; exact lbs)), show ({ D with inter := !plain } : St).w0 = w1 from B.w0]
          exact c2
        have e1 := i5.cellF 1 (.bool D.unk) rfl
        have e2 := i5.freeF 1
        have i6 := (unk_put (i5.drewN 1) unk)
        dsimp only at d0' e1 e2 i6
        rw [B.F, hsz1] at c2' e1 e2
        rw [B.Wb, hsz1, B.F, hsz1] at d0'
        go_wp2_with fail
        go_region
        go_wp2_with fail
        go_ret
        refine ⟨{ D with inter := !plain, unk := unk }, ?_, ?_, ?_, B.fl, ?_, ?_⟩
        · show _ = Ending.returned (ptr D.Wb)
          rw [B.Wb, hsz1]; rfl
        · rw [← hsz1, ← B.F]
          exact i6
        · have q := B.fresh
          rw [← hsf] at q
          have q2 := q.finish
          rw [hsp, hsu] at q2
          exact q2
        · show Below w.heap.size w D.w0
          rw [B.w0]; exact hbe
        · show St.base D = _
          rw [St.base, B.w0]; exact hsz1
end Go.Proofs.Ytcpjdgbnfjdakaa
