/- The law FnCut at its arguments as they are read. (Printed by gen6.py.) -/
import Derived.Test.YtcpjdgbnfjdakaaCutLaw
import Derived.Test.YtcpjdgbnfjdakaaOpenS
namespace Go.Proofs.Ytcpjdgbnfjdakaa
open Go.RowKit
set_option linter.unusedVariables false
set_option linter.unusedSimpArgs false

set_option maxRecDepth 1000000 in
theorem fnCut_walk {H : Type} (enc : TypeId × Value → H) (W : World) {sp sp1 sp2 : Nat → Bool} {held held1 held2 : Bool} {b0 b1 b2 : Nat} (v0 : Value) (d0 : DataW H) (p0 : List MemPlace) (o0 : Value.okWide Try.prog W .any b0 24 v0) (h0 : DataW.Trod enc Try.prog W 0 sp held 24 v0 d0 p0)
    (v1 : Value) (d1 : DataW H) (p1 : List MemPlace) (o1 : Value.okWide Try.prog W .any b1 25 v1) (h1 : DataW.Trod enc Try.prog W 0 sp1 held1 25 v1 d1 p1)
    (v2 : Value) (d2 : DataW H) (p2 : List MemPlace) (o2 : Value.okWide Try.prog W .any b2 25 v2) (h2 : DataW.Trod enc Try.prog W 0 sp2 held2 25 v2 d2 p2) :
    Calls Try.prog 8 #[v0, v1, v2] W fun e w' => e = .returned (.bool true) ∧ Below W.heap.size W w' := by
  obtain ⟨fv, fs, plain, unk, fold, rfl, hv, hl, hb⟩ := open_set o0 h0
  obtain ⟨l1, ht1, hll1, -⟩ := open_texts o1 h1
  obtain ⟨l2, ht2, hll2, -⟩ := open_texts o2 h2
  unfold maxLen at hl hb hll1 hll2
  exact fnCut_law fv v1 v2 plain unk fold fs l1 l2 W hv (by omega) (fun f hf => by have := hb f hf; omega) ht1 (by omega) ht2 (by omega)
end Go.Proofs.Ytcpjdgbnfjdakaa
