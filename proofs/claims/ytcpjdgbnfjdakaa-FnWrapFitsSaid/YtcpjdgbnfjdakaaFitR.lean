/- strings.Repeat of a blank. -/
import Derived.Test.YtcpjdgbnfjdakaaShelfP
import Derived.Shelf.Strings.Repeat
namespace Go.Proofs.Ytcpjdgbnfjdakaa
open Go.RowKit Go.Shelf

theorem extraP : Builder.Extra Try.prog lays105_ren where
  sizeBuilder := by kernel_rfl
  liesBuilder := by kernel_rfl
  t5 := lays105.t5
  a5 := lays105.a5
  z5 := lays105.z5
  v5 := lays105.v5
  infoByte := by kernel_rfl
  cellsByte := by kernel_rfl
  sizeByte := by kernel_rfl
  neB5 := by decide
/-- So many blanks. -/
def spaces (c : Nat) : ByteArray := ⟨(List.replicate c (32 : UInt8)).toArray⟩
theorem spaces_size (c : Nat) : (spaces c).size = c := by
  show ((List.replicate c (32 : UInt8)).toArray).size = c
  simp
theorem repeat_any (c : Nat) (hc : c ≤ 1024) (w : World) : Calls Try.prog 109 #[.string ⟨#[32]⟩, .int .i64 c] w fun e w' => e = .returned (.string (spaces c)) ∧ Below w.heap.size w w' := by
  refine (Any.strings_Repeat lays105 extraP ⟨#[32]⟩ c w (by omega) (by show 1 * c ≤ _; omega)).mono ?_
  rintro e w' ⟨rfl, hb⟩
  refine ⟨?_, hb⟩
  have : Lib.repeatL [(32 : UInt8)] c = List.replicate c 32 := by
    clear hb
    induction c with
    | zero => rfl
    | succ c ih => rw [Lib.repeatL, ih (by omega), List.replicate_succ]; rfl
  show Ending.returned (.string ⟨(Lib.repeatL [(32 : UInt8)] c).toArray⟩) = _
  rw [this]
  rfl
end Go.Proofs.Ytcpjdgbnfjdakaa
