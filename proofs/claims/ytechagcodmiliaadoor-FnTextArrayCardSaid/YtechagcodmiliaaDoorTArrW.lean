/- The law FnTextArray at its arguments as they are read. -/
import Derived.Test.YtechagcodmiliaaDoorTArr
import Derived.Test.YtechagcodmiliaaDoorRows
namespace Go.Proofs.YtechagcodmiliaaDoor
open Go.RowKit
set_option linter.unusedVariables false
set_option linter.unusedSimpArgs false

set_option maxRecDepth 1000000 in
theorem fnTextArray_walk {H : Type} (enc : TypeId × Value → H) (W : World) {sp1 sp2 : Nat → Bool} {held1 held2 : Bool} {b1 b2 : Nat}
    (v1 : Value) (d1 : DataW H) (p1 : List MemPlace) (o1 : Value.okWide Tryd.prog W .any b1 22 v1) (h1 : DataW.Trod enc Tryd.prog W 0 sp1 held1 22 v1 d1 p1)
    (v2 : Value) (d2 : DataW H) (p2 : List MemPlace) (o2 : Value.okWide Tryd.prog W .any b2 23 v2) (h2 : DataW.Trod enc Tryd.prog W 0 sp2 held2 23 v2 d2 p2) :
    Calls Tryd.prog 3 #[v1, v2] W fun e w' => e = .returned (.bool true) ∧ Below W.heap.size W w' := by
  obtain ⟨df, ht, hll, -⟩ := open_texts o1 h1
  obtain ⟨l, hs, hl2, hx⟩ := open_steps o2 h2
  unfold maxLen at hll hl2 hx
  exact fnTextArray_law v1 df v2 l W ht hs (by omega) (by omega) (fun x hm => by have := hx x hm; omega)
end Go.Proofs.YtechagcodmiliaaDoor
