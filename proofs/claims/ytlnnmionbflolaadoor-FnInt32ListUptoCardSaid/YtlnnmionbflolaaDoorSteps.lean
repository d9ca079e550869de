/- Steps of a list's value, as they lie; what a list is behind them. -/
import Derived.Test.YtlnnmionbflolaaDoorFresh
namespace Go.Proofs.YtlnnmionbflolaaDoor
open Go.RowKit
set_option linter.unusedVariables false
set_option linter.unusedSimpArgs false

/-- A step: what to do, the text, the texts. -/
structure StepD where
  d : Int
  s : ByteArray
  l : List ByteArray
  deriving Inhabited

def StepAt (w : World) (b off : Nat) (x : StepD) : Prop :=
  w.cell? ⟨b, off, none⟩ = some (.int .i64 x.d) ∧ w.cell? ⟨b, off + 1, none⟩ = some (.string x.s) ∧ ∃ va vn vc, w.cell? ⟨b, off + 2, none⟩ = some (.slice va vn vc) ∧ Strs w (.slice va vn vc) x.l
def Steps (w : World) (v : Value) (l : List StepD) : Prop :=
  ∃ a cap, v = .slice a l.length cap ∧ ∀ i (h : i < l.length), ∃ b off, a = some ⟨b, off, none⟩ ∧ StepAt w b (off + i * 3) l[i]
theorem lt_of_cell {w : World} {b off : Nat} {v : Value} (h : w.cell? ⟨b, off, none⟩ = some v) : b < w.heap.size := by
  rcases Nat.lt_or_ge b w.heap.size with h' | h'
  · exact h'
  · simp [World.cell?, Array.getElem?_eq_none h'] at h
theorem StepAt.later {w w' : World} {b off : Nat} {x : StepD} (h : StepAt w b off x) (hb : Below w.heap.size w w') : StepAt w' b off x := by
  obtain ⟨h0, h1, va, vn, vc, h2, h3⟩ := h
  have hlt := lt_of_cell h0
  exact ⟨(hb.cell (p := ⟨b, _, none⟩) hlt).trans h0, (hb.cell (p := ⟨b, _, none⟩) hlt).trans h1, va, vn, vc, (hb.cell (p := ⟨b, _, none⟩) hlt).trans h2, h3.later hb.block⟩
theorem Steps.later {w w' : World} {v : Value} {l : List StepD} (h : Steps w v l) (hb : Below w.heap.size w w') : Steps w' v l := by
  obtain ⟨a, cap, e, h⟩ := h
  exact ⟨a, cap, e, fun i hi => by
    obtain ⟨b, off, e, k⟩ := h i hi
    exact ⟨b, off, e, k.later hb⟩⟩
theorem Steps.len {w : World} {v : Value} {l : List StepD} (h : Steps w v l) : ∃ a cap, v = .slice a l.length cap := by
  obtain ⟨a', cap', e, h⟩ := h
  exact ⟨a', cap', e⟩
theorem Steps.at {w : World} {a : Option Addr} {n cap : Nat} {l : List StepD} (h : Steps w (.slice a n cap) l) (i : Nat) (hi : i < l.length) : ∃ b off, a = some ⟨b, off, none⟩ ∧ StepAt w b (off + i * 3) l[i] := by
  obtain ⟨a', cap', e, h⟩ := h
  cases e
  exact h i hi

section
variable {V : Type}
/-- All of them, or none. -/
def eachG (one : ByteArray → Option V) : List ByteArray → Option (List V)
  | [] => some []
  | t :: l => match one t with
    | none => none
    | some v => (eachG one l).map (v :: ·)
/-- What a step is to a list: whether it is an error, whether the list was set, the list. -/
def stepG (cut : ByteArray → Option (List V)) (one : ByteArray → Option V) (st : Bool × List V) (x : StepD) : Bool × (Bool × List V) :=
  if x.d = 0 then match cut x.s with
    | none => (true, st)
    | some l => (false, (true, if st.1 then st.2 ++ l else l))
  else if x.d = 1 then match one x.s with
    | none => (true, st)
    | some v => (false, (st.1, st.2 ++ [v]))
  else match eachG one x.l with
    | none => (true, st)
    | some l => (false, (st.1, l))
def toldG (x : StepD) : Bool := decide (0 ≤ x.d ∧ x.d ≤ 2)
def runG (cut : ByteArray → Option (List V)) (one : ByteArray → Option V) (s : (Bool × List V) × List (Bool × List V)) (x : StepD) : (Bool × List V) × List (Bool × List V) :=
  if toldG x then ((stepG cut one s.1 x).2, s.2 ++ [((stepG cut one s.1 x).1, (stepG cut one s.1 x).2.2)]) else s
def runsG (cut : ByteArray → Option (List V)) (one : ByteArray → Option V) (df : List V) (l : List StepD) : (Bool × List V) × List (Bool × List V) := l.foldl (runG cut one) ((false, df), [])
theorem runsG_next (cut : ByteArray → Option (List V)) (one : ByteArray → Option V) (df : List V) (l : List StepD) (k : Nat) (h : k < l.length) : runsG cut one df (l.take (k + 1)) = runG cut one (runsG cut one df (l.take k)) l[k] := by
  rw [runsG, List.take_succ_eq_append_getElem h, List.foldl_append]
  rfl
theorem runG_no {cut : ByteArray → Option (List V)} {one : ByteArray → Option V} {s : (Bool × List V) × List (Bool × List V)} {x : StepD} (h0 : x.d ≠ 0) (h1 : x.d ≠ 1) (h2 : x.d ≠ 2) : runG cut one s x = s := by
  have : toldG x = false := by
    unfold toldG
    rw [decide_eq_false_iff_not]
    omega
  rw [runG, this]; rfl
theorem runG_yes {cut : ByteArray → Option (List V)} {one : ByteArray → Option V} {s : (Bool × List V) × List (Bool × List V)} {x : StepD} (h : x.d = 0 ∨ x.d = 1 ∨ x.d = 2) : runG cut one s x = ((stepG cut one s.1 x).2, s.2 ++ [((stepG cut one s.1 x).1, (stepG cut one s.1 x).2.2)]) := by
  have : toldG x = true := by
    unfold toldG
    rw [decide_eq_true_iff]
    omega
  rw [runG, this]; rfl
theorem runsG_len (cut : ByteArray → Option (List V)) (one : ByteArray → Option V) (df : List V) (l : List StepD) : (runsG cut one df l).2.length = (l.filter toldG).length := by
  have : ∀ (l : List StepD) (s : (Bool × List V) × List (Bool × List V)), (l.foldl (runG cut one) s).2.length = s.2.length + (l.filter toldG).length := by
    intro l
    induction l with
    | nil => intro s; simp
    | cons x l ih =>
      intro s
      rw [List.foldl_cons, ih]
      by_cases h : toldG x = true
      · simp [runG, h]; omega
      · have h' : toldG x = false := by simpa using h
        simp [runG, h']
  rw [runsG, this]
  simp
end
end Go.Proofs.YtlnnmionbflolaaDoor
