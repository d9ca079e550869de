/- What is told of an error, and the cells of what was heard. -/
import Derived.Test.YtcpjdgbnfjdakaaSet
namespace Go.Proofs.Ytcpjdgbnfjdakaa
open Go.RowKit

/-- What is told of an error: its kind, name, shorthands, value, and the flag's place. -/
def ErrD.kind : ErrD → Int
  | .none => 0
  | .help => 1
  | .notExist _ _ => 2
  | .valueReq _ _ _ => 3
  | .invalid _ _ => 4
  | .badSyntax _ => 5
  | .other => 6
def ErrD.name : ErrD → ByteArray
  | .notExist n _ => n
  | .valueReq _ n _ => n
  | .badSyntax t => t
  | _ => ⟨#[]⟩
def ErrD.shorts : ErrD → ByteArray
  | .notExist _ sh => sh
  | .valueReq _ _ sh => sh
  | _ => ⟨#[]⟩
def ErrD.value : ErrD → ByteArray
  | .invalid _ v => v
  | _ => ⟨#[]⟩
def ErrD.place : ErrD → Int
  | .valueReq i _ _ => i
  | .invalid i _ => i
  | _ => -1
/-- The cells of what was heard, ahead of the lists. -/
def hCells (x : ErrD) (dash : Int) (parsed : Bool) (gv av cv : Value) : Array Value :=
  #[.int .i64 x.kind, .string x.name, .string x.shorts, .string x.value, .int .i64 x.place, gv, av, .int .i64 dash, cv, .bool parsed, .bool false]
end Go.Proofs.Ytcpjdgbnfjdakaa
