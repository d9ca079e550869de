/- Two things that were given are compared. -/
import Derived.Test.YtcpjdgbnfjdakaaLists
import Derived.Laws.StructEq
namespace Go.Proofs.Ytcpjdgbnfjdakaa
open Go.RowKit
set_option linter.unusedVariables false
set_option linter.unusedSimpArgs false

theorem given_guard : Try.prog.eqGuardType Try.prog.depth 94 = false := by kernel_rfl

theorem given_neq (x1 y1 : Int) (x2 y2 : ByteArray) (w : World) : (binOp .neq 94 (.agg #[.int .i64 x1, .string x2]) (.agg #[.int .i64 y1, .string y2])).run Try.prog w = .ok (.bool (!((x1 == y1) && (x2.toList == y2.toList)))) w := by
  rw [run_neq_struct, run_equalIn_struct (P := Try.prog) w 9999 94 _ _ (by kernel_rfl) (by kernel_rfl)]
  have h3 := Try.underlying3
  have h9 := Try.underlying9
  simp only [Program.fieldsOf, Try.underlying94]
  cases e1 : (x1 == y1) <;> cases e2 : (x2.toList == y2.toList) <;> go_simp
end Go.Proofs.Ytcpjdgbnfjdakaa
