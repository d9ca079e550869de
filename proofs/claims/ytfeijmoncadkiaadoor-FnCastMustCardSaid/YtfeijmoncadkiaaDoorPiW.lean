/- What ParseInt hands back; two of strconv's inner errors are compared. -/
import Derived.Test.YtfeijmoncadkiaaDoorPi0
import Derived.Test.YtfeijmoncadkiaaDoorPubW
import Derived.Lib.IfaceNeq
namespace Go.Proofs.YtfeijmoncadkiaaDoor
open Go.RowKit
set_option linter.unusedVariables false
set_option linter.unusedSimpArgs false

/-- What ParseInt hands back. -/
def errI : Nat → Value
  | 0 => .nilIface
  | k + 1 => .iface 122 (.int .i64 (k + 1 : Nat))
def ri (x : Int × Nat) : Value := .tuple #[.int .i64 x.1, errI x.2]
theorem r0_ok (M n : Nat) (us : Bool) : r0 M (.ok n us) = .tuple #[.int .u64 (n : Nat), .nilIface] := rfl
theorem neq_err (W : World) (a b : Int) : (binOp .neq 37 (.iface 122 (.int .i64 a)) (.iface 122 (.int .i64 b))).run Tryd.prog W = .ok (.bool (a != b)) W :=
  Lib.run_neq_iface_int W a b Tryd.underlying37 (by kernel_rfl) Tryd.underlying122
end Go.Proofs.YtfeijmoncadkiaaDoor
