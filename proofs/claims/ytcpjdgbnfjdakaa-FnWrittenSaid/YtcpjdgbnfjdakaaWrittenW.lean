/- The law FnWritten at its arguments as they are read. (Printed by gen6.py.) -/
import Derived.Test.YtcpjdgbnfjdakaaWrittenLaw
import Derived.Test.YtcpjdgbnfjdakaaOpenS
namespace Go.Proofs.Ytcpjdgbnfjdakaa
open Go.RowKit
set_option linter.unusedVariables false
set_option linter.unusedSimpArgs false

set_option maxRecDepth 1000000 in
theorem fnWritten_walk {H : Type} (enc : TypeId × Value → H) (W : World) {sp sp1 : Nat → Bool} {held held1 : Bool} {b0 b1 : Nat} (v0 : Value) (d0 : DataW H) (p0 : List MemPlace) (o0 : Value.okWide Try.prog W .any b0 24 v0) (h0 : DataW.Trod enc Try.prog W 0 sp held 24 v0 d0 p0)
    {sps : Nat → Bool} {helds : Bool} {bs : Nat} (vs : Value) (ds : DataW H) (ps : List MemPlace) (os : Value.okWide Try.prog W .any bs 65 vs) (hs : DataW.Trod enc Try.prog W 0 sps helds 65 vs ds ps)
    (v1 : Value) (d1 : DataW H) (p1 : List MemPlace) (o1 : Value.okWide Try.prog W .any b1 25 v1) (h1 : DataW.Trod enc Try.prog W 0 sp1 held1 25 v1 d1 p1) :
    Calls Try.prog 13 #[v0, vs, v1] W fun e w' => e = .returned (.bool true) ∧ Below W.heap.size W w' := by
  obtain ⟨fv, fs, plain, unk, fold, rfl, hv, hl, hb⟩ := open_set o0 h0
  obtain ⟨l1, ht1, hll1, -⟩ := open_texts o1 h1
  obtain ⟨ls, hls, hll⟩ := open_saids os hs
  unfold maxLen at hl hb hll1 hll
  exact fnWritten_law fv v1 plain unk fold fs l1 W hv (by omega) (fun f hf => by have := hb f hf; omega) ht1 (by omega) vs ls hls (by omega)
end Go.Proofs.Ytcpjdgbnfjdakaa
