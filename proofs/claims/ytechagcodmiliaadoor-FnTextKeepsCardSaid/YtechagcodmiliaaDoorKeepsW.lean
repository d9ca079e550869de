/- The law FnTextKeeps at its arguments as they are read. -/
import Derived.Test.YtechagcodmiliaaDoorKeeps
import Derived.Test.YtechagcodmiliaaDoorRows
namespace Go.Proofs.YtechagcodmiliaaDoor
open Go.RowKit
set_option linter.unusedVariables false
set_option linter.unusedSimpArgs false

set_option maxRecDepth 1000000 in
theorem fnTextKeeps_walk {H : Type} (enc : TypeId × Value → H) (W : World) {sp1 : Nat → Bool} {held1 : Bool} {b1 : Nat}
    (v1 : Value) (d1 : DataW H) (p1 : List MemPlace) (o1 : Value.okWide Tryd.prog W .any b1 22 v1) (h1 : DataW.Trod enc Tryd.prog W 0 sp1 held1 22 v1 d1 p1) :
    Calls Tryd.prog 4 #[v1] W fun e w' => e = .returned (.bool true) ∧ Below W.heap.size W w' := by
  obtain ⟨l, ht, hll, -⟩ := open_texts o1 h1
  unfold maxLen at hll
  exact fnTextKeeps_law v1 l W ht (by omega)
end Go.Proofs.YtechagcodmiliaaDoor
