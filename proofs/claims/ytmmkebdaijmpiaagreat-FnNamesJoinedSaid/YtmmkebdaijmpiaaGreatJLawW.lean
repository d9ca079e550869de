/- The law FnNamesJoined at its arguments as they are read. -/
import Derived.Test.YtmmkebdaijmpiaaGreatJLaw
import Derived.Test.YtmmkebdaijmpiaaGreatNOpen
import Derived.Test.YtmmkebdaijmpiaaGreatRows
namespace Go.Proofs.YtmmkebdaijmpiaaGreat
open Go.RowKit Go.ChangeShapes Go.WideShapes Go.Deep
set_option linter.unusedVariables false
set_option linter.unusedSimpArgs false

set_option maxRecDepth 1000000 in
theorem fnNamesJoined_walk {H : Type} (enc : TypeId × Value → H) (W : World) {sp1 sp2 : Nat → Bool} {held1 held2 : Bool} {b1 b2 : Nat}
    (v1 : Value) (d1 : DataW H) (p1 : List MemPlace) (o1 : Value.okWide Tryz.prog W .any b1 22 v1) (h1 : DataW.Trod enc Tryz.prog W 0 sp1 held1 22 v1 d1 p1)
    (v2 : Value) (d2 : DataW H) (p2 : List MemPlace) (o2 : Value.okWide Tryz.prog W .any b2 22 v2) (h2 : DataW.Trod enc Tryz.prog W 0 sp2 held2 22 v2 d2 p2) :
    Calls Tryz.prog 4 #[v1, v2] W fun e w' => e = .returned (.bool true) ∧ Below W.heap.size W w' := by
  obtain ⟨l, ht, hll⟩ := open_defs o1 h1
  obtain ⟨m, hs, hsl⟩ := open_defs o2 h2
  exact fnNamesJoined_law v1 v2 l m W ht hll hs hsl
end Go.Proofs.YtmmkebdaijmpiaaGreat
