/- What parsing comes to, as plain functions over lists of texts. No program here. -/
import Derived.Test.YtcpjdgbnfjdakaaUnqPlain
import GoSem.Core.Utf8
namespace Go.Proofs.Ytcpjdgbnfjdakaa

/-- A text's byte at a place. -/
def byteO (s : ByteArray) (i : Nat) : Option UInt8 := if h : i < s.size then some s[i] else none
theorem byteO_some {s : ByteArray} {i : Nat} (h : i < s.size) : byteO s i = some s[i] := dif_pos h
theorem byteO_none {s : ByteArray} {i : Nat} (h : s.size ≤ i) : byteO s i = none := dif_neg (by omega)

/-- A byte of a name, translated: A to Z as a to z (lo), _ and . as - (da). -/
def foldB (lo da : Bool) (b : UInt8) : UInt8 :=
  if da && (b == 95 || b == 46) then 45 else if lo && (decide (65 ≤ b.toNat) && decide (b.toNat ≤ 90)) then b + 32 else b
def foldG (lo da : Bool) (s : ByteArray) : ByteArray := ⟨(s.data.toList.map (foldB lo da)).toArray⟩

/-- How a flag is defined. -/
structure FlagD where
  name : ByteArray
  short : ByteArray
  noopt : ByteArray
  bad : List ByteArray

/-- A set of flags: whether arguments end the flags, whether unknown flags are let by, and how names are translated (two truths). -/
structure SetD where
  flags : List FlagD
  plain : Bool
  unknown : Bool
  lo : Bool
  da : Bool

def SetD.fold (s : SetD) (n : ByteArray) : ByteArray := foldG s.lo s.da n

/-- What is wrong. -/
inductive ErrD where
  | none
  | help
  | notExist (name shorts : ByteArray)
  | valueReq (flag : Nat) (name shorts : ByteArray)
  | invalid (flag : Nat) (value : ByteArray)
  | badSyntax (s : ByteArray)
  | other

/-- A run: what is wrong so far, what was given, which arguments are left, where -- was found. -/
structure RunD where
  err : ErrD
  given : List (Nat × ByteArray)
  args : List ByteArray
  dash : Int

def ErrD.isNone : ErrD → Bool
  | .none => true
  | _ => false

/-- Of values that are given: set, where the flag does not refuse them; or handed to a function, which refuses some. -/
inductive Way where
  | sets
  | hands (bad : List ByteArray)

def eqB (a b : ByteArray) : Bool := a.toList == b.toList
def hasB (l : List ByteArray) (s : ByteArray) : Bool := l.any (eqB · s)

def SetD.badOf (s : SetD) (i : Nat) : List ByteArray := (s.flags[i]?.map FlagD.bad).getD []
def SetD.nooptOf (s : SetD) (i : Nat) : ByteArray := (s.flags[i]?.map FlagD.noopt).getD ⟨#[]⟩

def giveF (s : SetD) (w : Way) (i : Nat) (v : ByteArray) (r : RunD) : RunD :=
  match w with
  | .sets => if hasB (s.badOf i) v then { r with err := .invalid i v } else { r with given := r.given ++ [(i, v)] }
  | .hands bad => { r with given := r.given ++ [(i, v)], err := if hasB bad v then .other else r.err }

/-- The first place from k on of a list whose element has p. -/
def findAt {α : Type} (p : α → Bool) : List α → Nat → Option Nat
  | [], _ => none
  | x :: l, k => if p x then some k else findAt p l (k + 1)

def SetD.named (s : SetD) (n : ByteArray) : Option Nat := findAt (fun f => eqB (s.fold f.name) (s.fold n)) s.flags 0
def SetD.lettered (s : SetD) (c : UInt8) : Option Nat := findAt (fun f => byteO f.short 0 == some c) s.flags 0

def isEq (b : UInt8) : Bool := b == 61

/-- The arguments behind an unknown flag. -/
def stripF : List ByteArray → List ByteArray
  | [] => []
  | a :: l => if byteO a 0 == some 45 then a :: l else l

/-- A flag that has no value of its own. -/
def wantsF (s : SetD) (w : Way) (i : Nat) (name shorts : ByteArray) (rest : List ByteArray) (r : RunD) : RunD × List ByteArray :=
  match rest with
  | [] => ({ r with err := .valueReq i name shorts }, [])
  | v :: l => (giveF s w i v r, l)

def helpT : ByteArray := ⟨#[104, 101, 108, 112]⟩

/-- A long argument. -/
def longF (s : SetD) (w : Way) (arg : ByteArray) (rest : List ByteArray) (r : RunD) : RunD × List ByteArray :=
  let text := arg.extract 2 arg.size
  if byteO text 0 == none || byteO text 0 == some 45 || byteO text 0 == some 61 then ({ r with err := .badSyntax arg }, rest)
  else
    let e := firstFrom isEq text 0
    let name := text.extract 0 e
    match s.named name with
    | none =>
      if eqB name helpT then ({ r with err := .help }, rest)
      else if s.unknown then (r, if e < text.size then rest else stripF rest)
      else ({ r with err := .notExist name ⟨#[]⟩ }, rest)
    | some i =>
      if e < text.size then (giveF s w i (text.extract (e + 1) text.size) r, rest)
      else if (s.nooptOf i).size ≠ 0 then (giveF s w i (s.nooptOf i) r, rest)
      else wantsF s w i name ⟨#[]⟩ rest r

/-- A byte as a text. -/
def runeT (c : UInt8) : ByteArray := Utf8.encode (c.toNat : Int)

/-- The first of shorthands. -/
def shortF (s : SetD) (w : Way) (shorts : ByteArray) (rest : List ByteArray) (r : RunD) : RunD × ByteArray × List ByteArray :=
  if (shorts.extract 0 5).toList == [116, 101, 115, 116, 46] then (r, ⟨#[]⟩, rest)
  else
    let c := (byteO shorts 0).getD 0
    let more := shorts.extract 1 shorts.size
    let own := decide (2 < shorts.size) && (byteO shorts 1 == some 61)
    match s.lettered c with
    | none =>
      if c == 104 then ({ r with err := .help }, more, rest)
      else if s.unknown then (if own then (r, ⟨#[]⟩, rest) else (r, more, stripF rest))
      else ({ r with err := .notExist (runeT c) shorts }, more, rest)
    | some i =>
      if own then (giveF s w i (shorts.extract 2 shorts.size) r, ⟨#[]⟩, rest)
      else if (s.nooptOf i).size ≠ 0 then (giveF s w i (s.nooptOf i) r, more, rest)
      else if more.size ≠ 0 then (giveF s w i more r, ⟨#[]⟩, rest)
      else ((wantsF s w i (runeT c) shorts rest r).1, ⟨#[]⟩, (wantsF s w i (runeT c) shorts rest r).2)

/-- All shorthands of one argument. -/
def shortsN (s : SetD) (w : Way) (rest : List ByteArray) : Nat → ByteArray → RunD → List ByteArray → RunD × List ByteArray
  | 0, _, r, left => (r, left)
  | n + 1, text, r, left =>
    if text.size = 0 then (r, left)
    else if r.err.isNone = false then (r, left)
    else shortsN s w rest n (shortF s w text rest r).2.1 (shortF s w text rest r).1 (shortF s w text rest r).2.2

def shortsF (s : SetD) (w : Way) (text : ByteArray) (rest : List ByteArray) (r : RunD) : RunD × List ByteArray := shortsN s w rest text.size text r rest

/-- An argument that is no flag. -/
def bareF (arg : ByteArray) : Bool := decide (arg.size ≤ 1) || !(byteO arg 0 == some 45)

/-- All arguments, up to the first that is wrong. -/
def goesN (s : SetD) (w : Way) : Nat → List ByteArray → RunD → RunD
  | 0, _, r => r
  | _ + 1, [], r => r
  | n + 1, arg :: rest, r =>
    if r.err.isNone = false then r
    else if bareF arg then
      if s.plain then { r with args := r.args ++ (arg :: rest) } else goesN s w n rest { r with args := r.args ++ [arg] }
    else if byteO arg 1 == some 45 then
      if arg.size = 2 then { r with dash := r.args.length, args := r.args ++ rest }
      else goesN s w n (longF s w arg rest r).2 (longF s w arg rest r).1
    else goesN s w n (shortsF s w (arg.extract 1 arg.size) rest r).2 (shortsF s w (arg.extract 1 arg.size) rest r).1

def goesF (s : SetD) (w : Way) (args : List ByteArray) (r : RunD) : RunD := goesN s w args.length args r

def begin0 : RunD := { err := .none, given := [], args := [], dash := -1 }

/-- The places of the flags that were given values. -/
def changedF (s : SetD) (g : List (Nat × ByteArray)) : List Nat := (List.range s.flags.length).filter fun i => g.any fun x => x.1 == i
end Go.Proofs.Ytcpjdgbnfjdakaa
