/- The law FnShort at its arguments as they are read. -/
import Derived.Test.YtcpjdgbnfjdakaaShortLaw
import Derived.Test.YtcpjdgbnfjdakaaOpenS
namespace Go.Proofs.Ytcpjdgbnfjdakaa
open Go.RowKit
set_option linter.unusedVariables false
set_option linter.unusedSimpArgs false

set_option maxRecDepth 1000000 in
theorem fnShort_walk {H : Type} (enc : TypeId × Value → H) (W : World) {sp sp1 : Nat → Bool} {held held1 : Bool} {b0 b1 : Nat} (v0 : Value) (d0 : DataW H) (p0 : List MemPlace) (o0 : Value.okWide Try.prog W .any b0 24 v0) (h0 : DataW.Trod enc Try.prog W 0 sp held 24 v0 d0 p0)
    (t : ByteArray) (ht : t.size ≤ maxLen) (v1 : Value) (d1 : DataW H) (p1 : List MemPlace) (o1 : Value.okWide Try.prog W .any b1 25 v1) (h1 : DataW.Trod enc Try.prog W 0 sp1 held1 25 v1 d1 p1) :
    Calls Try.prog 5 #[v0, .string t, v1] W fun e w' => e = .returned (.bool true) ∧ Below W.heap.size W w' := by
  obtain ⟨fv, fs, plain, unk, fold, rfl, hv, hl, hb⟩ := open_set o0 h0
  obtain ⟨l, hl1, hll, -⟩ := open_texts o1 h1
  unfold maxLen at hl hb hll ht
  exact fnShort_law fv v1 plain unk fold fs t (by omega) l W hv (by omega) (fun f hf => by have := hb f hf; omega) hl1 (by omega)
end Go.Proofs.Ytcpjdgbnfjdakaa
