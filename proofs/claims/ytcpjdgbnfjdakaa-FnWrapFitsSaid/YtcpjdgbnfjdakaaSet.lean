/- A set of flags in memory: the package's FlagSet, its flags, their values, the maps and the rows; what stays of it behind each kind of write. (Printed by gen_set.py.) -/
import Derived.Test.YtcpjdgbnfjdakaaBase
import Derived.Test.YtcpjdgbnfjdakaaMaps
import Derived.Test.YtcpjdgbnfjdakaaParsePlain
namespace Go.Proofs.Ytcpjdgbnfjdakaa
open Go.RowKit
set_option linter.unusedVariables false
set_option linter.unusedSimpArgs false

/-- A pointer to a block's head. -/
abbrev ptr (b : Nat) : Value := .pointer (some ⟨b, 0, none⟩)

/-- A map value, nil or made. -/
def MapOr {κ : Type} [DecidableEq κ] (K : KeyKind κ) (w : World) (m : Option Nat) (L : List (κ × Value)) : Prop :=
  (m = none ∧ L = []) ∨ ∃ b, m = some b ∧ MapIs K w b L

theorem MapOr.later {κ : Type} [DecidableEq κ] {K : KeyKind κ} {w w' : World} {m : Option Nat} {L : List (κ × Value)} (h : MapOr K w m L) (hk : ∀ b, m = some b → w'.heap[b]? = w.heap[b]?) : MapOr K w' m L := by
  rcases h with h | ⟨b, rfl, h⟩
  · exact .inl h
  · exact .inr ⟨b, rfl, h.at (hk b rfl)⟩
theorem MapOr.lt {κ : Type} [DecidableEq κ] {K : KeyKind κ} {w : World} {m : Option Nat} {L : List (κ × Value)} (h : MapOr K w m L) : ∀ b, m = some b → b < w.heap.size := by
  intro b e
  rcases h with ⟨e', _⟩ | ⟨b', e', h'⟩
  · rw [e'] at e; cases e
  · rw [e'] at e; cases e; exact h'.lt

/-- A flag as it lies in memory: its name, shorthand, what it is worth alone, its block, its value's block, the slice of what it refuses, and whether it was set. -/
structure FlagR where
  nm : ByteArray
  short : ByteArray
  noopt : ByteArray
  fb : Nat
  ob : Nat
  bv : Value
  bad : List ByteArray
  chg : Bool

/-- A set of flags. -/
structure St where
  w0 : World
  F : Nat
  Wb : Nat
  unk : Bool
  inter : Bool
  parsed : Bool
  dash : Int
  norm : Value
  act : Option Nat
  actL : List (ByteArray × Value)
  fm : Option Nat
  formL : List (ByteArray × Value)
  sm : Option Nat
  shortL : List (UInt8 × Value)
  oav : Value
  oaL : List Value
  ofv : Value
  ofL : List Value
  flv : Value
  flL : List Value
  argsV : Value
  args : List ByteArray
  saidV : Value
  given : List (Nat × ByteArray)
  rs : List FlagR
  bx : Option Nat
  bw : Option Nat
  xb : Option (Nat × Array Value)
  fin : Bool

def St.base (D : St) : Nat := D.w0.heap.size

def fsCells (D : St) : Array Value := #[.bool true, .bool D.unk, .bool false, .string ⟨#[]⟩, .bool D.parsed, .map D.act, D.oav, .slice none 0 0, .map D.fm, D.ofv, .slice none 0 0, .map D.sm, D.argsV, .int .i64 D.dash, .int .i64 0, .bool D.inter, D.norm]
def whCells (D : St) : Array Value := #[ptr D.F, D.flv, D.saidV]
def flagCells (r : FlagR) : Array Value := #[.string r.nm, .string r.short, .string ⟨#[]⟩, .iface 121 (ptr r.ob), .string ⟨#[]⟩, .bool r.chg, .string r.noopt, .string ⟨#[]⟩, .bool false, .string ⟨#[]⟩, .map none]
def ownCells (D : St) (i : Nat) (r : FlagR) : Array Value := #[.int .i64 i, r.bv, .pointer (some ⟨D.Wb, 2, none⟩)]
def flat (g : List (Nat × ByteArray)) : List Value := g.flatMap fun x => [.int .i64 x.1, .string x.2]

def St.rowArgs (D : St) (w : World) : Prop := w.ownsRow D.base 9 1 D.argsV D.args.length (D.args.map .string)
def St.rowSaid (D : St) (w : World) : Prop := w.ownsRow D.base 94 2 D.saidV D.given.length (flat D.given)
def St.rowOa (D : St) (w : World) : Prop := w.ownsRow D.base 91 1 D.oav D.oaL.length D.oaL
def St.rowOf (D : St) (w : World) : Prop := w.ownsRow D.base 91 1 D.ofv D.ofL.length D.ofL
def St.rowFl (D : St) (w : World) : Prop := w.ownsRow D.base 91 1 D.flv D.flL.length D.flL

/-- The set as it lies in a world. -/
structure Inv (D : St) (w : World) : Prop where
  bel : Below D.base D.w0 w
  hF : w.heap[D.F]? = some (.cells (fsCells D) 136 (0, 0))
  hW : w.heap[D.Wb]? = some (.cells (whCells D) 87 (0, 0))
  hfm : MapOr strKey w D.fm D.formL
  hsm : MapOr byteKey w D.sm D.shortL
  hact : MapOr strKey w D.act D.actL
  hfl : ∀ (i : Nat) (r : FlagR), D.rs[i]? = some r → w.heap[r.fb]? = some (.cells (flagCells r) 129 (0, 0))
  hown : ∀ (i : Nat) (r : FlagR), D.rs[i]? = some r → w.heap[r.ob]? = some (.cells (ownCells D i r) 124 (0, 0))
  hbx : ∀ b, D.bx = some b → w.heap[b]? = some (.cells #[ptr D.F] 84 (0, 0))
  hbw : ∀ b, D.bw = some b → w.heap[b]? = some (.cells #[ptr D.Wb] 79 (0, 0))
  hxb : ∀ b, D.xb = some b → w.heap[b.1]? = some (.cells b.2 62 (0, 0))
  hbad : ∀ (i : Nat) (r : FlagR), D.rs[i]? = some r → Strs D.w0 r.bv r.bad
  rArgs : D.rowArgs w
  rSaid : D.rowSaid w
  rOa : D.rowOa w
  rOf : D.rowOf w
  rFl : D.rowFl w
  inj : ∀ (i j : Nat) (r r' : FlagR), D.rs[i]? = some r → D.rs[j]? = some r' → r.fb = r'.fb → i = j
  bF : D.base ≤ D.F
  bW : D.base ≤ D.Wb
  bfl : ∀ (i : Nat) (r : FlagR), D.rs[i]? = some r → D.base ≤ r.fb
  bact : ∀ b, D.act = some b → D.base ≤ b ∧ D.fm ≠ some b ∧ D.sm ≠ some b
  bfm : ∀ b, D.fm = some b → D.base ≤ b ∧ D.sm ≠ some b
  bsm : ∀ b, D.sm = some b → D.base ≤ b
  doa : ∀ g, D.oav.ownBlock = some g → D.ofv.ownBlock ≠ some g ∧ D.flv.ownBlock ≠ some g
  dof : ∀ g, D.ofv.ownBlock = some g → D.flv.ownBlock ≠ some g

theorem cells_ne {w : World} {a b : Nat} {c c' : Array Value} {t t' : TypeId} {z z' : Nat × Nat} (ha : w.heap[a]? = some (.cells c t z)) (hb : w.heap[b]? = some (.cells c' t' z')) (h : t ≠ t') : a ≠ b := by
  intro e
  subst e
  rw [ha] at hb
  cases hb
  exact h rfl
theorem ownsRow_cells {w : World} {base : Nat} {e : TypeId} {size : Nat} {v : Value} {n : Nat} {xs : List Value} (h : w.ownsRow base e size v n xs) {g : Nat} (hg : v.ownBlock = some g) : base ≤ g ∧ ∃ c, w.heap[g]? = some (.cells c e (0, 0)) := by
  rcases h.2 with ⟨rfl, _⟩ | ⟨g', cap, cur, rfl, hb, hh, _⟩
  · simp [Value.ownBlock] at hg
  · simp [Value.ownBlock] at hg
    subst hg
    exact ⟨hb, cur, hh⟩
theorem ownsRow_at {w w' : World} {base : Nat} {e : TypeId} {size : Nat} {v : Value} {n : Nat} {xs : List Value} (h : w.ownsRow base e size v n xs) (hk : ∀ g, v.ownBlock = some g → w'.heap[g]? = w.heap[g]?) : w'.ownsRow base e size v n xs := by
  refine ⟨h.1, ?_⟩
  rcases h.2 with h2 | ⟨g', cap, cur, rfl, hb, hh, r⟩
  · exact .inl h2
  · exact .inr ⟨g', cap, cur, rfl, hb, (hk g' rfl).trans hh, r⟩
theorem row_ne {w : World} {b : Nat} {c : Array Value} {t : TypeId} {z : Nat × Nat} (hb : w.heap[b]? = some (.cells c t z)) {base : Nat} {e : TypeId} {size : Nat} {v : Value} {n : Nat} {xs : List Value}
    (hr : w.ownsRow base e size v n xs) (hne : t ≠ e) : v.ownBlock ≠ some b := by
  intro h
  obtain ⟨_, c', hc⟩ := ownsRow_cells hr h
  rw [hb] at hc
  cases hc
  exact hne rfl
theorem map_ne {κ : Type} [DecidableEq κ] {K : KeyKind κ} {w : World} {m : Option Nat} {L : List (κ × Value)} (h : MapOr K w m L) {b : Nat} {c : Array Value} {t : TypeId} {z : Nat × Nat} (hb : w.heap[b]? = some (.cells c t z)) : m ≠ some b := by
  rcases h with ⟨rfl, _⟩ | ⟨b', rfl, h'⟩
  · simp
  · intro e; cases e; exact h'.ne hb rfl
theorem row_map_ne {κ : Type} [DecidableEq κ] {K : KeyKind κ} {w : World} {m : Option Nat} {L : List (κ × Value)} (h : MapOr K w m L) {b : Nat} (hb : m = some b) {base : Nat} {e : TypeId} {size : Nat} {v : Value} {n : Nat} {xs : List Value}
    (hr : w.ownsRow base e size v n xs) : v.ownBlock ≠ some b := by
  intro e'
  obtain ⟨_, c', hc⟩ := ownsRow_cells hr e'
  exact map_ne h hc hb

/-- All of the set but what lies in block X (rows and maps whose block is not X). -/
structure Off (D : St) (X : Nat) (w : World) : Prop where
  hF : D.F ≠ X → w.heap[D.F]? = some (.cells (fsCells D) 136 (0, 0))
  hW : D.Wb ≠ X → w.heap[D.Wb]? = some (.cells (whCells D) 87 (0, 0))
  hfm : D.fm ≠ some X → MapOr strKey w D.fm D.formL
  hsm : D.sm ≠ some X → MapOr byteKey w D.sm D.shortL
  hact : D.act ≠ some X → MapOr strKey w D.act D.actL
  hfl : ∀ (i : Nat) (r : FlagR), D.rs[i]? = some r → r.fb ≠ X → w.heap[r.fb]? = some (.cells (flagCells r) 129 (0, 0))
  hown : ∀ (i : Nat) (r : FlagR), D.rs[i]? = some r → r.ob ≠ X → w.heap[r.ob]? = some (.cells (ownCells D i r) 124 (0, 0))
  hbx : ∀ b, D.bx = some b → b ≠ X → w.heap[b]? = some (.cells #[ptr D.F] 84 (0, 0))
  hbw : ∀ b, D.bw = some b → b ≠ X → w.heap[b]? = some (.cells #[ptr D.Wb] 79 (0, 0))
  hxb : ∀ b, D.xb = some b → b.1 ≠ X → w.heap[b.1]? = some (.cells b.2 62 (0, 0))
  rArgs : D.argsV.ownBlock ≠ some X → D.rowArgs w
  rSaid : D.saidV.ownBlock ≠ some X → D.rowSaid w
  rOa : D.oav.ownBlock ≠ some X → D.rowOa w
  rOf : D.ofv.ownBlock ≠ some X → D.rowOf w
  rFl : D.flv.ownBlock ≠ some X → D.rowFl w

theorem Inv.off {D : St} {w w' : World} (h : Inv D w) (X : Nat) (k : ∀ b, b < w.heap.size → b ≠ X → w'.heap[b]? = w.heap[b]?) : Off D X w' := by
  have row : ∀ {B e size v n xs}, w.ownsRow B e size v n xs → v.ownBlock ≠ some X → w'.ownsRow B e size v n xs := fun hr hne =>
    ownsRow_at hr fun g hg => by obtain ⟨_, c, hc⟩ := ownsRow_cells hr hg; exact k g (lt_of_block hc) (fun e => hne (by rw [hg, e]))
  have mp : ∀ {κ : Type} [DecidableEq κ] {K : KeyKind κ} {m : Option Nat} {L : List (κ × Value)}, MapOr K w m L → m ≠ some X → MapOr K w' m L := by
    intro κ _ K m L hm hne
    exact hm.later fun b e => k _ (hm.lt b e) (fun e' => hne (by rw [e, e']))
  exact {
    hF := fun n => (k _ (lt_of_block h.hF) n).trans h.hF
    hW := fun n => (k _ (lt_of_block h.hW) n).trans h.hW
    hfm := mp h.hfm
    hsm := mp h.hsm
    hact := mp h.hact
    hfl := fun i r hr n => (k _ (lt_of_block (h.hfl i r hr)) n).trans (h.hfl i r hr)
    hown := fun i r hr n => (k _ (lt_of_block (h.hown i r hr)) n).trans (h.hown i r hr)
    hbx := fun b hr n => (k _ (lt_of_block (h.hbx b hr)) n).trans (h.hbx b hr)
    hbw := fun b hr n => (k _ (lt_of_block (h.hbw b hr)) n).trans (h.hbw b hr)
    hxb := fun b hr n => (k _ (lt_of_block (h.hxb b hr)) n).trans (h.hxb b hr)
    rArgs := row h.rArgs
    rSaid := row h.rSaid
    rOa := row h.rOa
    rOf := row h.rOf
    rFl := row h.rFl }

/-- Nothing lies in a block that is not there yet. -/
theorem Inv.later {D : St} {w w' : World} (h : Inv D w) (hb : Below w.heap.size w w') : Inv D w' := by
  have O := h.off w.heap.size (w' := w') (fun b hb' _ => hb.block b hb')
  have nr : ∀ {B e size v n xs}, w.ownsRow B e size v n xs → v.ownBlock ≠ some w.heap.size := fun hr e => by
    obtain ⟨_, c, hc⟩ := ownsRow_cells hr e
    have := lt_of_block hc; omega
  have nm : ∀ {κ : Type} [DecidableEq κ] {K : KeyKind κ} {m : Option Nat} {L : List (κ × Value)}, MapOr K w m L → m ≠ some w.heap.size := by
    intro κ _ K m L hm e
    have := hm.lt _ e; omega
  exact {
    bel := h.bel.trans (hb.mono h.bel.size)
    hF := O.hF (Nat.ne_of_lt (lt_of_block h.hF))
    hW := O.hW (Nat.ne_of_lt (lt_of_block h.hW))
    hfm := O.hfm (nm h.hfm)
    hsm := O.hsm (nm h.hsm)
    hact := O.hact (nm h.hact)
    hfl := fun i r hr => O.hfl i r hr (Nat.ne_of_lt (lt_of_block (h.hfl i r hr)))
    hown := fun i r hr => O.hown i r hr (Nat.ne_of_lt (lt_of_block (h.hown i r hr)))
    hbx := fun b hr => O.hbx b hr (Nat.ne_of_lt (lt_of_block (h.hbx b hr)))
    hbw := fun b hr => O.hbw b hr (Nat.ne_of_lt (lt_of_block (h.hbw b hr)))
    hxb := fun b hr => O.hxb b hr (Nat.ne_of_lt (lt_of_block (h.hxb b hr)))
    rArgs := O.rArgs (nr h.rArgs)
    rSaid := O.rSaid (nr h.rSaid)
    rOa := O.rOa (nr h.rOa)
    rOf := O.rOf (nr h.rOf)
    rFl := O.rFl (nr h.rFl)
    hbad := h.hbad, inj := h.inj, bF := h.bF, bW := h.bW, bfl := h.bfl, bact := h.bact, bfm := h.bfm, bsm := h.bsm, doa := h.doa, dof := h.dof }

theorem Inv.drewN {D : St} {w : World} (h : Inv D w) (n : Nat) : Inv D (w.drewN n) := h.later (Below.drewN' (Below.refl _ _))

/-- A cell of the FlagSet is written: what it holds then must be there already. -/
theorem Inv.setF {D : St} {w : World} (h : Inv D w) (D' : St) (i : Nat) (v : Value) (hc : (fsCells D).setIfInBounds i v = fsCells D')
    (e0 : D'.w0 = D.w0) (e1 : D'.F = D.F) (e2 : whCells D' = whCells D) (e4 : D'.Wb = D.Wb) (e3 : D'.rs = D.rs) (e5 : D'.flv = D.flv) (e6 : D'.flL = D.flL) (e7 : D'.saidV = D.saidV) (e8 : D'.given = D.given) (e9 : D'.bx = D.bx) (e10 : D'.bw = D.bw) (e11 : D'.xb = D.xb)
    (ha : MapOr strKey w D'.act D'.actL) (hf : MapOr strKey w D'.fm D'.formL) (hs : MapOr byteKey w D'.sm D'.shortL) (rA : D'.rowArgs w) (rO : D'.rowOa w) (rF : D'.rowOf w)
    (bact : ∀ b, D'.act = some b → D'.base ≤ b ∧ D'.fm ≠ some b ∧ D'.sm ≠ some b) (bfm : ∀ b, D'.fm = some b → D'.base ≤ b ∧ D'.sm ≠ some b) (bsm : ∀ b, D'.sm = some b → D'.base ≤ b)
    (doa : ∀ g, D'.oav.ownBlock = some g → D'.ofv.ownBlock ≠ some g ∧ D'.flv.ownBlock ≠ some g) (dof : ∀ g, D'.ofv.ownBlock = some g → D'.flv.ownBlock ≠ some g) : Inv D' (w.setCell ⟨D.F, i, none⟩ v) := by
  have k : ∀ b, b < w.heap.size → b ≠ D.F → (w.setCell ⟨D.F, i, none⟩ v).heap[b]? = w.heap[b]? := fun b _ hb => heap_ne w _ v b hb
  have O := h.off D.F k
  have row : ∀ {B e size u n xs}, w.ownsRow B e size u n xs → 136 ≠ e → (w.setCell ⟨D.F, i, none⟩ v).ownsRow B e size u n xs := fun hr hne =>
    ownsRow_at hr fun g hg => by obtain ⟨_, c, hc'⟩ := ownsRow_cells hr hg; exact k g (lt_of_block hc') (Ne.symm (cells_ne h.hF hc' hne))
  have mp : ∀ {κ : Type} [DecidableEq κ] {K : KeyKind κ} {m : Option Nat} {L : List (κ × Value)}, MapOr K w m L → MapOr K (w.setCell ⟨D.F, i, none⟩ v) m L := by
    intro κ _ K m L hm
    exact hm.later fun b e => k b (hm.lt b e) (fun e' => map_ne hm h.hF (by rw [e, e']))
  have eb : D'.base = D.base := by rw [St.base, e0, St.base]
  exact {
    bel := by rw [eb, e0]; exact h.bel.setCell h.bF v
    hF := by rw [e1, heap_set h.hF i v, hc]
    hW := by rw [e4, e2]; exact O.hW (Ne.symm (cells_ne h.hF h.hW (by decide)))
    hfm := mp hf
    hsm := mp hs
    hact := mp ha
    hfl := fun j r hr => by rw [e3] at hr; exact O.hfl j r hr (Ne.symm (cells_ne h.hF (h.hfl j r hr) (by decide)))
    hown := fun j r hr => by
      rw [e3] at hr
      have := O.hown j r hr (Ne.symm (cells_ne h.hF (h.hown j r hr) (by decide)))
      rw [ownCells, e4]
      exact this
    hbx := fun b hb => by rw [e9] at hb; rw [e1]; exact O.hbx b hb (Ne.symm (cells_ne h.hF (h.hbx b hb) (by decide)))
    hbw := fun b hb => by rw [e10] at hb; rw [e4]; exact O.hbw b hb (Ne.symm (cells_ne h.hF (h.hbw b hb) (by decide)))
    hxb := fun b hb => by rw [e11] at hb; exact O.hxb b hb (Ne.symm (cells_ne h.hF (h.hxb b hb) (by decide)))
    rArgs := row rA (by decide)
    rSaid := by
      have := row h.rSaid (by decide)
      unfold St.rowSaid
      rw [eb, e7, e8]
      exact this
    rOa := row rO (by decide)
    rOf := row rF (by decide)
    rFl := by
      have := row h.rFl (by decide)
      unfold St.rowFl
      rw [eb, e5, e6]
      exact this
    hbad := by rw [e0, e3]; exact h.hbad
    inj := by rw [e3]; exact h.inj
    bF := by rw [eb, e1]; exact h.bF
    bW := by rw [eb, e4]; exact h.bW
    bfl := by rw [eb, e3]; exact h.bfl
    bact := bact, bfm := bfm, bsm := bsm, doa := doa, dof := dof }

/-- One flag of the list is another now. -/
def setAt (l : List FlagR) (i : Nat) (r : FlagR) : List FlagR := l.set i r

/-- A cell of a flag is written. -/
theorem Inv.setFlag {D : St} {w : World} (h : Inv D w) (i : Nat) (r r' : FlagR) (hr : D.rs[i]? = some r) (j : Nat) (v : Value) (hc : (flagCells r).setIfInBounds j v = flagCells r') (e1 : r'.fb = r.fb) (e2 : r'.ob = r.ob) (e3 : r'.bv = r.bv) (e4 : r'.bad = r.bad) :
    Inv { D with rs := D.rs.set i r' } (w.setCell ⟨r.fb, j, none⟩ v) := by
  have hX := h.hfl i r hr
  have k : ∀ b, b < w.heap.size → b ≠ r.fb → (w.setCell ⟨r.fb, j, none⟩ v).heap[b]? = w.heap[b]? := fun b _ hb => heap_ne w _ _ b hb
  have O := h.off r.fb k
  have hlt : i < D.rs.length := by
    rcases Nat.lt_or_ge i D.rs.length with h' | h'
    · exact h'
    · rw [List.getElem?_eq_none h'] at hr; cases hr
  have get : ∀ (t : Nat) (r2 : FlagR), (D.rs.set i r')[t]? = some r2 → (t = i ∧ r2 = r') ∨ (t ≠ i ∧ D.rs[t]? = some r2) := by
    intro t r2 h2
    by_cases e : t = i
    · subst e
      rw [List.getElem?_set_self hlt] at h2
      cases h2
      exact .inl ⟨rfl, rfl⟩
    · rw [List.getElem?_set_ne (Ne.symm e)] at h2
      exact .inr ⟨e, h2⟩
  exact {
    bel := h.bel.setCell (h.bfl i r hr) _
    hF := O.hF (cells_ne h.hF hX (by decide))
    hW := O.hW (cells_ne h.hW hX (by decide))
    hfm := O.hfm (map_ne h.hfm hX)
    hsm := O.hsm (map_ne h.hsm hX)
    hact := O.hact (map_ne h.hact hX)
    hfl := fun t r2 h2 => by
      rcases get t r2 h2 with ⟨rfl, rfl⟩ | ⟨hne, h2'⟩
      · rw [e1, heap_set hX j _, hc]
      · exact O.hfl t r2 h2' (fun e' => hne (h.inj t i r2 r h2' hr e'))
    hown := fun t r2 h2 => by
      rcases get t r2 h2 with ⟨rfl, rfl⟩ | ⟨hne, h2'⟩
      · have := O.hown t r hr (cells_ne (h.hown t r hr) hX (by decide))
        rw [e2, ownCells, e3]
        exact this
      · exact O.hown t r2 h2' (cells_ne (h.hown t r2 h2') hX (by decide))
    hbx := fun b hb => O.hbx b hb (cells_ne (h.hbx b hb) hX (by decide))
    hbw := fun b hb => O.hbw b hb (cells_ne (h.hbw b hb) hX (by decide))
    hxb := fun b hb => O.hxb b hb (cells_ne (h.hxb b hb) hX (by decide))
    hbad := fun t r2 h2 => by
      rcases get t r2 h2 with ⟨rfl, rfl⟩ | ⟨hne, h2'⟩
      · rw [e3, e4]; exact h.hbad t r hr
      · exact h.hbad t r2 h2'
    rArgs := O.rArgs (row_ne hX h.rArgs (by decide))
    rSaid := O.rSaid (row_ne hX h.rSaid (by decide))
    rOa := O.rOa (row_ne hX h.rOa (by decide))
    rOf := O.rOf (row_ne hX h.rOf (by decide))
    rFl := O.rFl (row_ne hX h.rFl (by decide))
    inj := fun t u r2 r3 h2 h3 e => by
      rcases get t r2 h2 with ⟨rfl, rfl⟩ | ⟨n2, h2'⟩ <;> rcases get u r3 h3 with ⟨rfl, rfl⟩ | ⟨n3, h3'⟩
      · rfl
      · exact h.inj _ _ r r3 hr h3' (by rw [← e1]; exact e)
      · exact h.inj _ _ r2 r h2' hr (by rw [← e1]; exact e)
      · exact h.inj _ _ r2 r3 h2' h3' e
    bfl := fun t r2 h2 => by
      rcases get t r2 h2 with ⟨rfl, rfl⟩ | ⟨hne, h2'⟩
      · rw [e1]; exact h.bfl t r hr
      · exact h.bfl t r2 h2'
    bF := h.bF, bW := h.bW, bact := h.bact, bfm := h.bfm, bsm := h.bsm, doa := h.doa, dof := h.dof }

/-- A flag is added, whose blocks were made and filled. -/
theorem Inv.addFlag {D : St} {w : World} (h : Inv D w) (r : FlagR) (h1 : w.heap[r.fb]? = some (.cells (flagCells r) 129 (0, 0))) (h2 : w.heap[r.ob]? = some (.cells (ownCells D D.rs.length r) 124 (0, 0))) (h3 : Strs D.w0 r.bv r.bad)
    (h4 : D.base ≤ r.fb) (h5 : ∀ (i : Nat) (r' : FlagR), D.rs[i]? = some r' → r'.fb ≠ r.fb) : Inv { D with rs := D.rs ++ [r] } w := by
  have get : ∀ (t : Nat) (r2 : FlagR), (D.rs ++ [r])[t]? = some r2 → (t = D.rs.length ∧ r2 = r) ∨ (t < D.rs.length ∧ D.rs[t]? = some r2) := by
    intro t r2 h2
    by_cases e : t < D.rs.length
    · rw [List.getElem?_append_left e] at h2
      exact .inr ⟨e, h2⟩
    · rw [List.getElem?_append_right (by omega)] at h2
      cases ht : t - D.rs.length with
      | zero => rw [ht] at h2; simp at h2; exact .inl ⟨by omega, h2.symm⟩
      | succ m => rw [ht] at h2; simp at h2
  exact { h with
    hfl := fun t r2 h2' => by
      rcases get t r2 h2' with ⟨rfl, rfl⟩ | ⟨_, h'⟩
      · exact h1
      · exact h.hfl t r2 h'
    hown := fun t r2 h2' => by
      rcases get t r2 h2' with ⟨rfl, rfl⟩ | ⟨_, h'⟩
      · exact h2
      · exact h.hown t r2 h'
    hbad := fun t r2 h2' => by
      rcases get t r2 h2' with ⟨rfl, rfl⟩ | ⟨_, h'⟩
      · exact h3
      · exact h.hbad t r2 h'
    inj := fun t u r2 r3 h2' h3' e => by
      rcases get t r2 h2' with ⟨rfl, rfl⟩ | ⟨n2, h2''⟩ <;> rcases get u r3 h3' with ⟨rfl, rfl⟩ | ⟨n3, h3''⟩
      · rfl
      · exact absurd e.symm (h5 _ _ h3'')
      · exact absurd e (h5 _ _ h2'')
      · exact h.inj _ _ r2 r3 h2'' h3'' e
    bfl := fun t r2 h2' => by
      rcases get t r2 h2' with ⟨rfl, rfl⟩ | ⟨_, h'⟩
      · exact h4
      · exact h.bfl t r2 h' }

/-- A box of the set's pointer, or of the whole's, is made. -/
theorem Inv.boxX {D : St} {w : World} (h : Inv D w) : Inv { D with bx := some w.heap.size } (w.alloc (.cells #[ptr D.F] 84)) :=
  { h.later ((Below.refl _ w).alloc (Nat.le_refl _) _) with
    hbx := fun b e => by cases e; exact heap_at _ _ _ rfl }
theorem Inv.boxW {D : St} {w : World} (h : Inv D w) : Inv { D with bw := some w.heap.size } (w.alloc (.cells #[ptr D.Wb] 79)) :=
  { h.later ((Below.refl _ w).alloc (Nat.le_refl _) _) with
    hbw := fun b e => by cases e; exact heap_at _ _ _ rfl }

/-- The block of a flag's definition, one at a time. -/
theorem Inv.boxD {D : St} {w : World} (h : Inv D w) (cs : Array Value) : Inv { D with xb := some (w.heap.size, cs) } (w.alloc (.cells cs 62)) :=
  { h.later ((Below.refl _ w).alloc (Nat.le_refl _) _) with
    hxb := fun b e => by cases e; exact heap_at _ _ _ rfl }

/-! Behind an append to a row of the set: X is the row's block, or one that is not there yet. -/
def rowX (v : Value) (w : World) : Nat := v.ownBlock.getD w.heap.size
theorem rowX_of {v : Value} {w : World} : v.ownBlock = some (rowX v w) ∨ v.ownBlock = none := by
  unfold rowX
  cases h : v.ownBlock with
  | none => right; rfl
  | some x => left; rfl
theorem ne_rowX {w : World} {b : Nat} {c : Array Value} {t : TypeId} {z : Nat × Nat} (hb : w.heap[b]? = some (.cells c t z)) {base : Nat} {e : TypeId} {size : Nat} {v : Value} {n : Nat} {xs : List Value}
    (hr : w.ownsRow base e size v n xs) (hne : t ≠ e) : b ≠ rowX v w := by
  intro h
  rcases @rowX_of v w with h2 | h2
  · rw [← h] at h2; exact row_ne hb hr hne h2
  · rw [rowX, h2] at h
    have := lt_of_block hb
    simp at h; omega
theorem map_ne_rowX {κ : Type} [DecidableEq κ] {K : KeyKind κ} {w : World} {m : Option Nat} {L : List (κ × Value)} (h : MapOr K w m L) {base : Nat} {e : TypeId} {size : Nat} {v : Value} {n : Nat} {xs : List Value}
    (hr : w.ownsRow base e size v n xs) : m ≠ some (rowX v w) := by
  intro e'
  have h3 := h.lt _ e'
  rcases @rowX_of v w with h2 | h2
  · obtain ⟨_, c, hc⟩ := ownsRow_cells hr h2
    exact map_ne h hc e'
  · rw [rowX, h2] at h3
    simp at h3
theorem rows_ne_rowX {w : World} {base base' : Nat} {e e' : TypeId} {size size' : Nat} {v v' : Value} {n n' : Nat} {xs xs' : List Value} (h : w.ownsRow base e size v n xs) (h' : w.ownsRow base' e' size' v' n' xs') (hne : e ≠ e' ∨ ∀ g, v'.ownBlock = some g → v.ownBlock ≠ some g) : v.ownBlock ≠ some (rowX v' w) := by
  intro hg
  obtain ⟨_, c, hc⟩ := ownsRow_cells h hg
  rcases @rowX_of v' w with h2 | h2
  · rcases hne with hne | hne
    · obtain ⟨_, c', hc'⟩ := ownsRow_cells h' h2
      rw [hc] at hc'
      cases hc'
      exact hne rfl
    · exact hne _ h2 hg
  · have := lt_of_block hc
    rw [rowX, h2] at this
    simp at this
theorem grownBy_keep {w w1 : World} {v : Value} (hg : w.grownBy w1 v.ownBlock) : ∀ b, b < w.heap.size → b ≠ rowX v w → w1.heap[b]? = w.heap[b]? := by
  intro b hb hne
  refine hg.block b hb ?_
  rcases @rowX_of v w with h | h
  · rw [h]; simp [hne]
  · rw [h]; simp
theorem grownBy_below {B : Nat} {w w1 : World} {row : Option Nat} (hg : w.grownBy w1 row) (hr : ∀ k, row = some k → B ≤ k) (hB : B ≤ w.heap.size) : Below B w w1 :=
  ⟨hg.os, hg.tape, hg.output, hg.size, fun k hk => hg.block k (by omega) (fun e => by have := hr k e.symm; omega)⟩
theorem Inv.grownBelow {D : St} {w w1 : World} (h : Inv D w) {v : Value} (hg : w.grownBy w1 v.ownBlock) {e : TypeId} {size n : Nat} {xs : List Value} (hr : w.ownsRow D.base e size v n xs) : Below D.base D.w0 w1 :=
  h.bel.trans (grownBy_below hg (fun k hk => (ownsRow_cells hr hk).1) h.bel.size)
/-- The block of a row behind an append is the old one, or a new one: so it is none of another row's. -/
theorem lies_ne {w : World} {v u : Value} {g : Nat} (hl : v.ownBlock = some g ∨ g = w.heap.size) {B : Nat} {e : TypeId} {size n : Nat} {xs : List Value} (hu : w.ownsRow B e size u n xs) (hd : ∀ g, v.ownBlock = some g → u.ownBlock ≠ some g) : u.ownBlock ≠ some g := by
  intro e'
  rcases hl with hl | hl
  · exact hd g hl e'
  · obtain ⟨_, c, hc⟩ := ownsRow_cells hu e'
    have := lt_of_block hc; omega

theorem Inv.appendArgs {D : St} {w w1 : World} (h : Inv D w) (hg : w.grownBy w1 D.argsV.ownBlock) (nv : Value) (l : List ByteArray) (hr : w1.ownsRow D.base 9 1 nv l.length (l.map .string)) :
    w1.heap[D.F]? = some (.cells (fsCells D) 136 (0, 0)) ∧ (∀ (j : Nat) (r : FlagR), D.rs[j]? = some r → w1.heap[r.fb]? = some (.cells (flagCells r) 129 (0, 0))) ∧ Inv { D with argsV := nv, args := l } (w1.setCell ⟨D.F, 12, none⟩ nv) := by
  have O := h.off _ (grownBy_keep hg)
  have hB := O.hF (ne_rowX h.hF h.rArgs (by decide))
  have row : ∀ {B e size u n xs}, w1.ownsRow B e size u n xs → 136 ≠ e → (w1.setCell ⟨D.F, 12, none⟩ nv).ownsRow B e size u n xs := fun hr' hne =>
    ownsRow_at hr' fun g hg' => by obtain ⟨_, c, hc'⟩ := ownsRow_cells hr' hg'; exact heap_ne w1 _ _ g (Ne.symm (cells_ne hB hc' hne))
  have cel : ∀ {b c t z}, w1.heap[b]? = some (Obj.cells c t z) → 136 ≠ t → (w1.setCell ⟨D.F, 12, none⟩ nv).heap[b]? = some (Obj.cells c t z) := fun hb hne =>
    (heap_ne w1 _ _ _ (Ne.symm (cells_ne hB hb hne))).trans hb
  have mp : ∀ {κ : Type} [DecidableEq κ] {K : KeyKind κ} {m : Option Nat} {L : List (κ × Value)}, MapOr K w1 m L → MapOr K (w1.setCell ⟨D.F, 12, none⟩ nv) m L := by
    intro κ _ K m L hm
    exact hm.later fun b e => heap_ne w1 _ _ b (fun e' => map_ne hm hB (by rw [e, e']))
  have fl : ∀ (j : Nat) (r : FlagR), D.rs[j]? = some r → w1.heap[r.fb]? = some (.cells (flagCells r) 129 (0, 0)) := fun j r hr' => O.hfl j r hr' (ne_rowX (h.hfl j r hr') h.rArgs (by decide))
  refine ⟨hB, fl, {
    bel := (h.grownBelow hg h.rArgs).setCell h.bF _
    hF := by rw [heap_set hB 12 _]; rfl
    hW := cel (O.hW (ne_rowX h.hW h.rArgs (by decide))) (by decide)
    hfm := mp (O.hfm (map_ne_rowX h.hfm h.rArgs))
    hsm := mp (O.hsm (map_ne_rowX h.hsm h.rArgs))
    hact := mp (O.hact (map_ne_rowX h.hact h.rArgs))
    hfl := fun j r hr' => cel (fl j r hr') (by decide)
    hown := fun j r hr' => cel (O.hown j r hr' (ne_rowX (h.hown j r hr') h.rArgs (by decide))) (by decide)
    hbx := fun b hb => cel (O.hbx b hb (ne_rowX (h.hbx b hb) h.rArgs (by decide))) (by decide)
    hbw := fun b hb => cel (O.hbw b hb (ne_rowX (h.hbw b hb) h.rArgs (by decide))) (by decide)
    hxb := fun b hb => cel (O.hxb b hb (ne_rowX (h.hxb b hb) h.rArgs (by decide))) (by decide)
    rArgs := row hr (by decide)
    rSaid := row (O.rSaid (rows_ne_rowX h.rSaid h.rArgs (.inl (by decide)))) (by decide)
    rOa := row (O.rOa (rows_ne_rowX h.rOa h.rArgs (.inl (by decide)))) (by decide)
    rOf := row (O.rOf (rows_ne_rowX h.rOf h.rArgs (.inl (by decide)))) (by decide)
    rFl := row (O.rFl (rows_ne_rowX h.rFl h.rArgs (.inl (by decide)))) (by decide)
    hbad := h.hbad, inj := h.inj, bF := h.bF, bW := h.bW, bfl := h.bfl, bact := h.bact, bfm := h.bfm, bsm := h.bsm
    doa := h.doa
    dof := h.dof }⟩
theorem Inv.appendSaid {D : St} {w w1 : World} (h : Inv D w) (hg : w.grownBy w1 D.saidV.ownBlock) (g cap : Nat) (l : List (Nat × ByteArray)) (hr : w1.ownsRow D.base 94 2 (.slice (some ⟨g, 0, none⟩) l.length cap) l.length (flat l)) :
    w1.heap[D.Wb]? = some (.cells (whCells D) 87 (0, 0)) ∧ (∀ (j : Nat) (r : FlagR), D.rs[j]? = some r → w1.heap[r.fb]? = some (.cells (flagCells r) 129 (0, 0))) ∧ Inv { D with saidV := .slice (some ⟨g, 0, none⟩) l.length cap, given := l } (w1.setCell ⟨D.Wb, 2, none⟩ (.slice (some ⟨g, 0, none⟩) l.length cap)) := by
  have O := h.off _ (grownBy_keep hg)
  have hB := O.hW (ne_rowX h.hW h.rSaid (by decide))
  have row : ∀ {B e size u n xs}, w1.ownsRow B e size u n xs → 87 ≠ e → (w1.setCell ⟨D.Wb, 2, none⟩ (.slice (some ⟨g, 0, none⟩) l.length cap)).ownsRow B e size u n xs := fun hr' hne =>
    ownsRow_at hr' fun g hg' => by obtain ⟨_, c, hc'⟩ := ownsRow_cells hr' hg'; exact heap_ne w1 _ _ g (Ne.symm (cells_ne hB hc' hne))
  have cel : ∀ {b c t z}, w1.heap[b]? = some (Obj.cells c t z) → 87 ≠ t → (w1.setCell ⟨D.Wb, 2, none⟩ (.slice (some ⟨g, 0, none⟩) l.length cap)).heap[b]? = some (Obj.cells c t z) := fun hb hne =>
    (heap_ne w1 _ _ _ (Ne.symm (cells_ne hB hb hne))).trans hb
  have mp : ∀ {κ : Type} [DecidableEq κ] {K : KeyKind κ} {m : Option Nat} {L : List (κ × Value)}, MapOr K w1 m L → MapOr K (w1.setCell ⟨D.Wb, 2, none⟩ (.slice (some ⟨g, 0, none⟩) l.length cap)) m L := by
    intro κ _ K m L hm
    exact hm.later fun b e => heap_ne w1 _ _ b (fun e' => map_ne hm hB (by rw [e, e']))
  have fl : ∀ (j : Nat) (r : FlagR), D.rs[j]? = some r → w1.heap[r.fb]? = some (.cells (flagCells r) 129 (0, 0)) := fun j r hr' => O.hfl j r hr' (ne_rowX (h.hfl j r hr') h.rSaid (by decide))
  refine ⟨hB, fl, {
    bel := (h.grownBelow hg h.rSaid).setCell h.bW _
    hF := cel (O.hF (ne_rowX h.hF h.rSaid (by decide))) (by decide)
    hW := by rw [heap_set hB 2 _]; rfl
    hfm := mp (O.hfm (map_ne_rowX h.hfm h.rSaid))
    hsm := mp (O.hsm (map_ne_rowX h.hsm h.rSaid))
    hact := mp (O.hact (map_ne_rowX h.hact h.rSaid))
    hfl := fun j r hr' => cel (fl j r hr') (by decide)
    hown := fun j r hr' => cel (O.hown j r hr' (ne_rowX (h.hown j r hr') h.rSaid (by decide))) (by decide)
    hbx := fun b hb => cel (O.hbx b hb (ne_rowX (h.hbx b hb) h.rSaid (by decide))) (by decide)
    hbw := fun b hb => cel (O.hbw b hb (ne_rowX (h.hbw b hb) h.rSaid (by decide))) (by decide)
    hxb := fun b hb => cel (O.hxb b hb (ne_rowX (h.hxb b hb) h.rSaid (by decide))) (by decide)
    rArgs := row (O.rArgs (rows_ne_rowX h.rArgs h.rSaid (.inl (by decide)))) (by decide)
    rSaid := row hr (by decide)
    rOa := row (O.rOa (rows_ne_rowX h.rOa h.rSaid (.inl (by decide)))) (by decide)
    rOf := row (O.rOf (rows_ne_rowX h.rOf h.rSaid (.inl (by decide)))) (by decide)
    rFl := row (O.rFl (rows_ne_rowX h.rFl h.rSaid (.inl (by decide)))) (by decide)
    hbad := h.hbad, inj := h.inj, bF := h.bF, bW := h.bW, bfl := h.bfl, bact := h.bact, bfm := h.bfm, bsm := h.bsm
    doa := h.doa
    dof := h.dof }⟩
theorem Inv.appendOa {D : St} {w w1 : World} (h : Inv D w) (hg : w.grownBy w1 D.oav.ownBlock) (g cap : Nat) (l : List Value) (hl : D.oav.ownBlock = some g ∨ g = w.heap.size) (hr : w1.ownsRow D.base 91 1 (.slice (some ⟨g, 0, none⟩) l.length cap) l.length l) :
    w1.heap[D.F]? = some (.cells (fsCells D) 136 (0, 0)) ∧ (∀ (j : Nat) (r : FlagR), D.rs[j]? = some r → w1.heap[r.fb]? = some (.cells (flagCells r) 129 (0, 0))) ∧ Inv { D with oav := .slice (some ⟨g, 0, none⟩) l.length cap, oaL := l } (w1.setCell ⟨D.F, 6, none⟩ (.slice (some ⟨g, 0, none⟩) l.length cap)) := by
  have O := h.off _ (grownBy_keep hg)
  have hB := O.hF (ne_rowX h.hF h.rOa (by decide))
  have row : ∀ {B e size u n xs}, w1.ownsRow B e size u n xs → 136 ≠ e → (w1.setCell ⟨D.F, 6, none⟩ (.slice (some ⟨g, 0, none⟩) l.length cap)).ownsRow B e size u n xs := fun hr' hne =>
    ownsRow_at hr' fun g hg' => by obtain ⟨_, c, hc'⟩ := ownsRow_cells hr' hg'; exact heap_ne w1 _ _ g (Ne.symm (cells_ne hB hc' hne))
  have cel : ∀ {b c t z}, w1.heap[b]? = some (Obj.cells c t z) → 136 ≠ t → (w1.setCell ⟨D.F, 6, none⟩ (.slice (some ⟨g, 0, none⟩) l.length cap)).heap[b]? = some (Obj.cells c t z) := fun hb hne =>
    (heap_ne w1 _ _ _ (Ne.symm (cells_ne hB hb hne))).trans hb
  have mp : ∀ {κ : Type} [DecidableEq κ] {K : KeyKind κ} {m : Option Nat} {L : List (κ × Value)}, MapOr K w1 m L → MapOr K (w1.setCell ⟨D.F, 6, none⟩ (.slice (some ⟨g, 0, none⟩) l.length cap)) m L := by
    intro κ _ K m L hm
    exact hm.later fun b e => heap_ne w1 _ _ b (fun e' => map_ne hm hB (by rw [e, e']))
  have fl : ∀ (j : Nat) (r : FlagR), D.rs[j]? = some r → w1.heap[r.fb]? = some (.cells (flagCells r) 129 (0, 0)) := fun j r hr' => O.hfl j r hr' (ne_rowX (h.hfl j r hr') h.rOa (by decide))
  refine ⟨hB, fl, {
    bel := (h.grownBelow hg h.rOa).setCell h.bF _
    hF := by rw [heap_set hB 6 _]; rfl
    hW := cel (O.hW (ne_rowX h.hW h.rOa (by decide))) (by decide)
    hfm := mp (O.hfm (map_ne_rowX h.hfm h.rOa))
    hsm := mp (O.hsm (map_ne_rowX h.hsm h.rOa))
    hact := mp (O.hact (map_ne_rowX h.hact h.rOa))
    hfl := fun j r hr' => cel (fl j r hr') (by decide)
    hown := fun j r hr' => cel (O.hown j r hr' (ne_rowX (h.hown j r hr') h.rOa (by decide))) (by decide)
    hbx := fun b hb => cel (O.hbx b hb (ne_rowX (h.hbx b hb) h.rOa (by decide))) (by decide)
    hbw := fun b hb => cel (O.hbw b hb (ne_rowX (h.hbw b hb) h.rOa (by decide))) (by decide)
    hxb := fun b hb => cel (O.hxb b hb (ne_rowX (h.hxb b hb) h.rOa (by decide))) (by decide)
    rArgs := row (O.rArgs (rows_ne_rowX h.rArgs h.rOa (.inl (by decide)))) (by decide)
    rSaid := row (O.rSaid (rows_ne_rowX h.rSaid h.rOa (.inl (by decide)))) (by decide)
    rOa := row hr (by decide)
    rOf := row (O.rOf (rows_ne_rowX h.rOf h.rOa (.inr fun g e => (h.doa g e).1))) (by decide)
    rFl := row (O.rFl (rows_ne_rowX h.rFl h.rOa (.inr fun g e => (h.doa g e).2))) (by decide)
    hbad := h.hbad, inj := h.inj, bF := h.bF, bW := h.bW, bfl := h.bfl, bact := h.bact, bfm := h.bfm, bsm := h.bsm
    doa := fun g' e => by cases e; exact ⟨lies_ne hl h.rOf (fun g e => (h.doa g e).1), lies_ne hl h.rFl (fun g e => (h.doa g e).2)⟩
    dof := h.dof }⟩
theorem Inv.appendOf {D : St} {w w1 : World} (h : Inv D w) (hg : w.grownBy w1 D.ofv.ownBlock) (g cap : Nat) (l : List Value) (hl : D.ofv.ownBlock = some g ∨ g = w.heap.size) (hr : w1.ownsRow D.base 91 1 (.slice (some ⟨g, 0, none⟩) l.length cap) l.length l) :
    w1.heap[D.F]? = some (.cells (fsCells D) 136 (0, 0)) ∧ (∀ (j : Nat) (r : FlagR), D.rs[j]? = some r → w1.heap[r.fb]? = some (.cells (flagCells r) 129 (0, 0))) ∧ Inv { D with ofv := .slice (some ⟨g, 0, none⟩) l.length cap, ofL := l } (w1.setCell ⟨D.F, 9, none⟩ (.slice (some ⟨g, 0, none⟩) l.length cap)) := by
  have O := h.off _ (grownBy_keep hg)
  have hB := O.hF (ne_rowX h.hF h.rOf (by decide))
  have row : ∀ {B e size u n xs}, w1.ownsRow B e size u n xs → 136 ≠ e → (w1.setCell ⟨D.F, 9, none⟩ (.slice (some ⟨g, 0, none⟩) l.length cap)).ownsRow B e size u n xs := fun hr' hne =>
    ownsRow_at hr' fun g hg' => by obtain ⟨_, c, hc'⟩ := ownsRow_cells hr' hg'; exact heap_ne w1 _ _ g (Ne.symm (cells_ne hB hc' hne))
  have cel : ∀ {b c t z}, w1.heap[b]? = some (Obj.cells c t z) → 136 ≠ t → (w1.setCell ⟨D.F, 9, none⟩ (.slice (some ⟨g, 0, none⟩) l.length cap)).heap[b]? = some (Obj.cells c t z) := fun hb hne =>
    (heap_ne w1 _ _ _ (Ne.symm (cells_ne hB hb hne))).trans hb
  have mp : ∀ {κ : Type} [DecidableEq κ] {K : KeyKind κ} {m : Option Nat} {L : List (κ × Value)}, MapOr K w1 m L → MapOr K (w1.setCell ⟨D.F, 9, none⟩ (.slice (some ⟨g, 0, none⟩) l.length cap)) m L := by
    intro κ _ K m L hm
    exact hm.later fun b e => heap_ne w1 _ _ b (fun e' => map_ne hm hB (by rw [e, e']))
  have fl : ∀ (j : Nat) (r : FlagR), D.rs[j]? = some r → w1.heap[r.fb]? = some (.cells (flagCells r) 129 (0, 0)) := fun j r hr' => O.hfl j r hr' (ne_rowX (h.hfl j r hr') h.rOf (by decide))
  refine ⟨hB, fl, {
    bel := (h.grownBelow hg h.rOf).setCell h.bF _
    hF := by rw [heap_set hB 9 _]; rfl
    hW := cel (O.hW (ne_rowX h.hW h.rOf (by decide))) (by decide)
    hfm := mp (O.hfm (map_ne_rowX h.hfm h.rOf))
    hsm := mp (O.hsm (map_ne_rowX h.hsm h.rOf))
    hact := mp (O.hact (map_ne_rowX h.hact h.rOf))
    hfl := fun j r hr' => cel (fl j r hr') (by decide)
    hown := fun j r hr' => cel (O.hown j r hr' (ne_rowX (h.hown j r hr') h.rOf (by decide))) (by decide)
    hbx := fun b hb => cel (O.hbx b hb (ne_rowX (h.hbx b hb) h.rOf (by decide))) (by decide)
    hbw := fun b hb => cel (O.hbw b hb (ne_rowX (h.hbw b hb) h.rOf (by decide))) (by decide)
    hxb := fun b hb => cel (O.hxb b hb (ne_rowX (h.hxb b hb) h.rOf (by decide))) (by decide)
    rArgs := row (O.rArgs (rows_ne_rowX h.rArgs h.rOf (.inl (by decide)))) (by decide)
    rSaid := row (O.rSaid (rows_ne_rowX h.rSaid h.rOf (.inl (by decide)))) (by decide)
    rOa := row (O.rOa (rows_ne_rowX h.rOa h.rOf (.inr fun g e e2 => (h.doa g e2).1 e))) (by decide)
    rOf := row hr (by decide)
    rFl := row (O.rFl (rows_ne_rowX h.rFl h.rOf (.inr h.dof))) (by decide)
    hbad := h.hbad, inj := h.inj, bF := h.bF, bW := h.bW, bfl := h.bfl, bact := h.bact, bfm := h.bfm, bsm := h.bsm
    doa := fun g' e => ⟨fun e' => by cases e'; exact lies_ne hl h.rOa (fun g e e2 => (h.doa g e2).1 e) e, (h.doa g' e).2⟩
    dof := fun g' e => by cases e; exact lies_ne hl h.rFl h.dof }⟩
theorem Inv.appendFl {D : St} {w w1 : World} (h : Inv D w) (hg : w.grownBy w1 D.flv.ownBlock) (g cap : Nat) (l : List Value) (hl : D.flv.ownBlock = some g ∨ g = w.heap.size) (hr : w1.ownsRow D.base 91 1 (.slice (some ⟨g, 0, none⟩) l.length cap) l.length l) :
    w1.heap[D.Wb]? = some (.cells (whCells D) 87 (0, 0)) ∧ (∀ (j : Nat) (r : FlagR), D.rs[j]? = some r → w1.heap[r.fb]? = some (.cells (flagCells r) 129 (0, 0))) ∧ Inv { D with flv := .slice (some ⟨g, 0, none⟩) l.length cap, flL := l } (w1.setCell ⟨D.Wb, 1, none⟩ (.slice (some ⟨g, 0, none⟩) l.length cap)) := by
  have O := h.off _ (grownBy_keep hg)
  have hB := O.hW (ne_rowX h.hW h.rFl (by decide))
  have row : ∀ {B e size u n xs}, w1.ownsRow B e size u n xs → 87 ≠ e → (w1.setCell ⟨D.Wb, 1, none⟩ (.slice (some ⟨g, 0, none⟩) l.length cap)).ownsRow B e size u n xs := fun hr' hne =>
    ownsRow_at hr' fun g hg' => by obtain ⟨_, c, hc'⟩ := ownsRow_cells hr' hg'; exact heap_ne w1 _ _ g (Ne.symm (cells_ne hB hc' hne))
  have cel : ∀ {b c t z}, w1.heap[b]? = some (Obj.cells c t z) → 87 ≠ t → (w1.setCell ⟨D.Wb, 1, none⟩ (.slice (some ⟨g, 0, none⟩) l.length cap)).heap[b]? = some (Obj.cells c t z) := fun hb hne =>
    (heap_ne w1 _ _ _ (Ne.symm (cells_ne hB hb hne))).trans hb
  have mp : ∀ {κ : Type} [DecidableEq κ] {K : KeyKind κ} {m : Option Nat} {L : List (κ × Value)}, MapOr K w1 m L → MapOr K (w1.setCell ⟨D.Wb, 1, none⟩ (.slice (some ⟨g, 0, none⟩) l.length cap)) m L := by
    intro κ _ K m L hm
    exact hm.later fun b e => heap_ne w1 _ _ b (fun e' => map_ne hm hB (by rw [e, e']))
  have fl : ∀ (j : Nat) (r : FlagR), D.rs[j]? = some r → w1.heap[r.fb]? = some (.cells (flagCells r) 129 (0, 0)) := fun j r hr' => O.hfl j r hr' (ne_rowX (h.hfl j r hr') h.rFl (by decide))
  refine ⟨hB, fl, {
    bel := (h.grownBelow hg h.rFl).setCell h.bW _
    hF := cel (O.hF (ne_rowX h.hF h.rFl (by decide))) (by decide)
    hW := by rw [heap_set hB 1 _]; rfl
    hfm := mp (O.hfm (map_ne_rowX h.hfm h.rFl))
    hsm := mp (O.hsm (map_ne_rowX h.hsm h.rFl))
    hact := mp (O.hact (map_ne_rowX h.hact h.rFl))
    hfl := fun j r hr' => cel (fl j r hr') (by decide)
    hown := fun j r hr' => cel (O.hown j r hr' (ne_rowX (h.hown j r hr') h.rFl (by decide))) (by decide)
    hbx := fun b hb => cel (O.hbx b hb (ne_rowX (h.hbx b hb) h.rFl (by decide))) (by decide)
    hbw := fun b hb => cel (O.hbw b hb (ne_rowX (h.hbw b hb) h.rFl (by decide))) (by decide)
    hxb := fun b hb => cel (O.hxb b hb (ne_rowX (h.hxb b hb) h.rFl (by decide))) (by decide)
    rArgs := row (O.rArgs (rows_ne_rowX h.rArgs h.rFl (.inl (by decide)))) (by decide)
    rSaid := row (O.rSaid (rows_ne_rowX h.rSaid h.rFl (.inl (by decide)))) (by decide)
    rOa := row (O.rOa (rows_ne_rowX h.rOa h.rFl (.inr fun g e e2 => (h.doa g e2).2 e))) (by decide)
    rOf := row (O.rOf (rows_ne_rowX h.rOf h.rFl (.inr fun g e e2 => h.dof g e2 e))) (by decide)
    rFl := row hr (by decide)
    hbad := h.hbad, inj := h.inj, bF := h.bF, bW := h.bW, bfl := h.bfl, bact := h.bact, bfm := h.bfm, bsm := h.bsm
    doa := fun g' e => ⟨(h.doa g' e).1, fun e' => by cases e'; exact lies_ne hl h.rOa (fun g e e2 => (h.doa g e2).2 e) e⟩
    dof := fun g' e e' => by cases e'; exact lies_ne hl h.rOf (fun g e e2 => h.dof g e2 e) e }⟩

/-- An entry of a map of the set is written. -/
theorem Inv.putAct {D : St} {w : World} (h : Inv D w) (am : Nat) (ha : D.act = some am) (o : Obj) (l : List (ByteArray × Value)) (hm : MapIs strKey { w with heap := w.heap.setIfInBounds am o } am l) :
    Inv { D with actL := l } { w with heap := w.heap.setIfInBounds am o } := by
  have k : ∀ b, b < w.heap.size → b ≠ am → ({ w with heap := w.heap.setIfInBounds am o } : World).heap[b]? = w.heap[b]? := fun b _ hb => setBlock_ne hb
  have O := h.off am k
  have ne : ∀ {b c t z}, w.heap[b]? = some (Obj.cells c t z) → b ≠ am := fun hb e => map_ne h.hact hb (by rw [ha, e])
  have nr : ∀ {B e size u n xs}, w.ownsRow B e size u n xs → u.ownBlock ≠ some am := fun hr => row_map_ne h.hact ha hr
  have hb : D.base ≤ am := (h.bact am ha).1
  exact {
    bel := h.bel.trans ⟨rfl, rfl, rfl, by simp, fun b hb' => setBlock_ne (by omega)⟩
    hF := O.hF (ne h.hF)
    hW := O.hW (ne h.hW)
    hact := .inr ⟨am, ha, hm⟩
    hfm := O.hfm (h.bact am ha).2.1
    hsm := O.hsm (h.bact am ha).2.2
    hfl := fun j r hr => O.hfl j r hr (ne (h.hfl j r hr))
    hown := fun j r hr => O.hown j r hr (ne (h.hown j r hr))
    hbx := fun b hr => O.hbx b hr (ne (h.hbx b hr))
    hbw := fun b hr => O.hbw b hr (ne (h.hbw b hr))
    hxb := fun b hr => O.hxb b hr (ne (h.hxb b hr))
    rArgs := O.rArgs (nr h.rArgs)
    rSaid := O.rSaid (nr h.rSaid)
    rOa := O.rOa (nr h.rOa)
    rOf := O.rOf (nr h.rOf)
    rFl := O.rFl (nr h.rFl)
    hbad := h.hbad, inj := h.inj, bF := h.bF, bW := h.bW, bfl := h.bfl, bact := h.bact, bfm := h.bfm, bsm := h.bsm, doa := h.doa, dof := h.dof }

/-- An entry of a map of the set is written. -/
theorem Inv.putForm {D : St} {w : World} (h : Inv D w) (am : Nat) (ha : D.fm = some am) (o : Obj) (l : List (ByteArray × Value)) (hm : MapIs strKey { w with heap := w.heap.setIfInBounds am o } am l) :
    Inv { D with formL := l } { w with heap := w.heap.setIfInBounds am o } := by
  have k : ∀ b, b < w.heap.size → b ≠ am → ({ w with heap := w.heap.setIfInBounds am o } : World).heap[b]? = w.heap[b]? := fun b _ hb => setBlock_ne hb
  have O := h.off am k
  have ne : ∀ {b c t z}, w.heap[b]? = some (Obj.cells c t z) → b ≠ am := fun hb e => map_ne h.hfm hb (by rw [ha, e])
  have nr : ∀ {B e size u n xs}, w.ownsRow B e size u n xs → u.ownBlock ≠ some am := fun hr => row_map_ne h.hfm ha hr
  have hb : D.base ≤ am := (h.bfm am ha).1
  exact {
    bel := h.bel.trans ⟨rfl, rfl, rfl, by simp, fun b hb' => setBlock_ne (by omega)⟩
    hF := O.hF (ne h.hF)
    hW := O.hW (ne h.hW)
    hfm := .inr ⟨am, ha, hm⟩
    hact := O.hact (fun e => (h.bact am e).2.1 ha)
    hsm := O.hsm (h.bfm am ha).2
    hfl := fun j r hr => O.hfl j r hr (ne (h.hfl j r hr))
    hown := fun j r hr => O.hown j r hr (ne (h.hown j r hr))
    hbx := fun b hr => O.hbx b hr (ne (h.hbx b hr))
    hbw := fun b hr => O.hbw b hr (ne (h.hbw b hr))
    hxb := fun b hr => O.hxb b hr (ne (h.hxb b hr))
    rArgs := O.rArgs (nr h.rArgs)
    rSaid := O.rSaid (nr h.rSaid)
    rOa := O.rOa (nr h.rOa)
    rOf := O.rOf (nr h.rOf)
    rFl := O.rFl (nr h.rFl)
    hbad := h.hbad, inj := h.inj, bF := h.bF, bW := h.bW, bfl := h.bfl, bact := h.bact, bfm := h.bfm, bsm := h.bsm, doa := h.doa, dof := h.dof }

/-- An entry of a map of the set is written. -/
theorem Inv.putShort {D : St} {w : World} (h : Inv D w) (am : Nat) (ha : D.sm = some am) (o : Obj) (l : List (UInt8 × Value)) (hm : MapIs byteKey { w with heap := w.heap.setIfInBounds am o } am l) :
    Inv { D with shortL := l } { w with heap := w.heap.setIfInBounds am o } := by
  have k : ∀ b, b < w.heap.size → b ≠ am → ({ w with heap := w.heap.setIfInBounds am o } : World).heap[b]? = w.heap[b]? := fun b _ hb => setBlock_ne hb
  have O := h.off am k
  have ne : ∀ {b c t z}, w.heap[b]? = some (Obj.cells c t z) → b ≠ am := fun hb e => map_ne h.hsm hb (by rw [ha, e])
  have nr : ∀ {B e size u n xs}, w.ownsRow B e size u n xs → u.ownBlock ≠ some am := fun hr => row_map_ne h.hsm ha hr
  have hb : D.base ≤ am := h.bsm am ha
  exact {
    bel := h.bel.trans ⟨rfl, rfl, rfl, by simp, fun b hb' => setBlock_ne (by omega)⟩
    hF := O.hF (ne h.hF)
    hW := O.hW (ne h.hW)
    hsm := .inr ⟨am, ha, hm⟩
    hact := O.hact (fun e => (h.bact am e).2.2 ha)
    hfm := O.hfm (fun e => (h.bfm am e).2 ha)
    hfl := fun j r hr => O.hfl j r hr (ne (h.hfl j r hr))
    hown := fun j r hr => O.hown j r hr (ne (h.hown j r hr))
    hbx := fun b hr => O.hbx b hr (ne (h.hbx b hr))
    hbw := fun b hr => O.hbw b hr (ne (h.hbw b hr))
    hxb := fun b hr => O.hxb b hr (ne (h.hxb b hr))
    rArgs := O.rArgs (nr h.rArgs)
    rSaid := O.rSaid (nr h.rSaid)
    rOa := O.rOa (nr h.rOa)
    rOf := O.rOf (nr h.rOf)
    rFl := O.rFl (nr h.rFl)
    hbad := h.hbad, inj := h.inj, bF := h.bF, bW := h.bW, bfl := h.bfl, bact := h.bact, bfm := h.bfm, bsm := h.bsm, doa := h.doa, dof := h.dof }
end Go.Proofs.Ytcpjdgbnfjdakaa
