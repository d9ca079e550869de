/- What a row's listed variables give: the errors of strconv are interface values, the table of powers of ten lies as its text lays it. -/
import Derived.Test.YtfeijmoncadkiaaDoorRows
import Derived.RowKit3
import Derived.LaidSub
import Derived.LaidLaws
import Derived.Stop.LaidErr
import Derived.Lib.LaidTab
import Derived.KernelRfl
namespace Go.Proofs.YtfeijmoncadkiaaDoor
open Go.RowKit Go.ChangeShapes
set_option linter.unusedVariables false
set_option linter.unusedSimpArgs false

def Reads (P : Program) (w : World) (n : String) (d : DataW Unit) : Prop :=
  ∃ g t cs fuel p, P.globalNamed n = some g ∧ (P.globals[g]?).map (·.type) = some t ∧ w.var? P n = some cs ∧ DataW.trod (fun _ => ()) P w 0 (fun _ => true) false fuel t cs.toList = some (d, p)
theorem reads_of {P : Program} {w : World} : ∀ {l : List (String × DataW Unit)} {ps : List MemPlace}, DataW.LaidVars P w l ps → ∀ n d, (n, d) ∈ l → Reads P w n d
  | [], _, _, _, _, hm => by cases hm
  | (n', d') :: r, ps, h, n, d, hm => by
    obtain ⟨g, t, cs, fuel, p, q, h1, h2, h3, h4, h5, _⟩ := h
    rcases List.mem_cons.1 hm with e | e
    · cases e
      exact ⟨g, t, cs, fuel, p, h1, h2, h3, h4⟩
    · exact reads_of h5 n d e
theorem laid_reads {P : Program} {w : World} {l : List (String × DataW Unit)} (h : laidMet P l w) {n : String} {d : DataW Unit} (hm : (n, d) ∈ l) : Reads P w n d := by
  obtain ⟨_, hv, _⟩ := h
  exact reads_of hv n d hm
/-- A variable of an interface type that is listed holds an interface value. -/
theorem iface_of_reads {P : Program} {w : World} {n nm : String} {d : DataW Unit} {g : Nat} {ti : TypeId} {ms : Array (String × TypeId)} (h : Reads P w n (.iface nm d)) (hg : P.globalNamed n = some g) (ht : (P.globals[g]?).map (·.type) = some ti) (hi : P.underlying ti = some (.interface ms)) : ∃ t p, w.cell? ⟨g, 0, none⟩ = some (.iface t p) := by
  obtain ⟨g', t, cs, fuel, p, e1, e2, e3, e4⟩ := h
  obtain rfl := Option.some.inj (hg.symm.trans e1)
  obtain rfl := Option.some.inj (ht.symm.trans e2)
  obtain ⟨f1, u, v, hcs, -, -⟩ := iface_of_trod hi e4
  have hc : cs = #[.iface u v] := by
    obtain ⟨c⟩ := cs
    simp only at hcs
    rw [hcs]
  subst hc
  exact ⟨u, v, by simpa using World.var?_cell e1 e3 0⟩
end Go.Proofs.YtfeijmoncadkiaaDoor
