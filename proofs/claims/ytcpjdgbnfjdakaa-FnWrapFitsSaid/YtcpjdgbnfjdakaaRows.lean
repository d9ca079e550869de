/-
  No cell of these rows narrows 'for every input' (looked for: loops, veiled, ifaces, maps, wideKeys, modest, calm, conditions, laid).
  DERIVED. THE GIVEN ROWS OF THIS SEAT. 12 by the template 'for every input the law returns true; each argument reads behind the call as it read before'; 0 by the template 'total and deterministic' (their statements: YtcpjdgbnfjdakaaTotals.lean).
  GIVEN WITH THE SEED: the statements are not yours to turn. If you find one false, say at which input.
  Laid BY PROGRAM, IN A SANDBOX (cutbox-rows.mjs): the forced cells as the released guide's own fill.sh prints them over the translation a0c99103e09b78ec… (all of the seat's roots in one cut). By AI agents, Wed Nov 11 2026. No macro, syntax, notation, axiom, sorry.
-/
import Derived.Test.YtcpjdgbnfjdakaaChecked
import GoSem.Claim
import GoSem.ClaimJoined
import GoSem.ClaimMapViews
import Derived.JoinedTies
import Derived.KernelRfl
namespace Go.Proofs.Ytcpjdgbnfjdakaa
/- THE CELL 'sum', in the pinned program and in every row, IS THE sha256 OF THE DUMP (.gsa) THAT YtcpjdgbnfjdakaaProg.lean LOADS. Nothing in Lean hashes anything: it is a label: what it is worth is what the hold of that sum in a sandbox is worth. -/
noncomputable def Try.pinned : Pinned := { name := "ytcpjdgbnfjdakaa", sum := "a0c99103e09b78ec52dac4267977f276a6c966c84e83445489261a09210572f3", checked := Try.checked }
namespace Rows
def none {H : Type} : Left H := { results := [], args := [] }

/-- 'laws.FnParse': WHATEVER THE INPUT: true; the input reads as it did. -/
def fnParseSpec : ChangeSpec := { name := "fnParse", fn := fun _ => fun
  | [d1, d2] => { results := [.lit (.bool true)], args := [d1, d2] }
  | _ => none }
def fnParseRow : OpenClaim := { program := "ytcpjdgbnfjdakaa", sum := "a0c99103e09b78ec52dac4267977f276a6c966c84e83445489261a09210572f3", func := "pub-ensign/laws.FnParse", spec := "fnParse", unfollowed := true, recurses := true, apart := false }
def FnParseSaid : Prop := fnParseRow.holds Try.pinned (OpenSpec.ofChange fnParseSpec)

/-- ITS FALSE NEIGHBOUR: 'it returns false'. Refute it at one input. -/
def fnParseWrong : ChangeSpec := { name := "fnParse", fn := fun _ => fun
  | [d1, d2] => { results := [.lit (.bool false)], args := [d1, d2] }
  | _ => none }
def FnParseWrongFalsely : Prop := fnParseRow.holds Try.pinned (OpenSpec.ofChange fnParseWrong)

/-- 'laws.FnParseAll': WHATEVER THE INPUT: true; the input reads as it did. -/
def fnParseAllSpec : ChangeSpec := { name := "fnParseAll", fn := fun _ => fun
  | [d1, d2, d3] => { results := [.lit (.bool true)], args := [d1, d2, d3] }
  | _ => none }
def fnParseAllRow : OpenClaim := { program := "ytcpjdgbnfjdakaa", sum := "a0c99103e09b78ec52dac4267977f276a6c966c84e83445489261a09210572f3", func := "pub-ensign/laws.FnParseAll", spec := "fnParseAll", unfollowed := true, recurses := true, apart := false }
def FnParseAllSaid : Prop := fnParseAllRow.holds Try.pinned (OpenSpec.ofChange fnParseAllSpec)

/-- ITS FALSE NEIGHBOUR: 'it returns false'. Refute it at one input. -/
def fnParseAllWrong : ChangeSpec := { name := "fnParseAll", fn := fun _ => fun
  | [d1, d2, d3] => { results := [.lit (.bool false)], args := [d1, d2, d3] }
  | _ => none }
def FnParseAllWrongFalsely : Prop := fnParseAllRow.holds Try.pinned (OpenSpec.ofChange fnParseAllWrong)

/-- 'laws.FnShort': WHATEVER THE INPUT: true; the input reads as it did. -/
def fnShortSpec : ChangeSpec := { name := "fnShort", fn := fun _ => fun
  | [d1, d2, d3] => { results := [.lit (.bool true)], args := [d1, d2, d3] }
  | _ => none }
def fnShortRow : OpenClaim := { program := "ytcpjdgbnfjdakaa", sum := "a0c99103e09b78ec52dac4267977f276a6c966c84e83445489261a09210572f3", func := "pub-ensign/laws.FnShort", spec := "fnShort", unfollowed := true, recurses := true, apart := false }
def FnShortSaid : Prop := fnShortRow.holds Try.pinned (OpenSpec.ofChange fnShortSpec)

/-- ITS FALSE NEIGHBOUR: 'it returns false'. Refute it at one input. -/
def fnShortWrong : ChangeSpec := { name := "fnShort", fn := fun _ => fun
  | [d1, d2, d3] => { results := [.lit (.bool false)], args := [d1, d2, d3] }
  | _ => none }
def FnShortWrongFalsely : Prop := fnShortRow.holds Try.pinned (OpenSpec.ofChange fnShortWrong)

/-- 'laws.FnArg': WHATEVER THE INPUT: true; the input reads as it did. -/
def fnArgSpec : ChangeSpec := { name := "fnArg", fn := fun _ => fun
  | [d1, d2, d3] => { results := [.lit (.bool true)], args := [d1, d2, d3] }
  | _ => none }
def fnArgRow : OpenClaim := { program := "ytcpjdgbnfjdakaa", sum := "a0c99103e09b78ec52dac4267977f276a6c966c84e83445489261a09210572f3", func := "pub-ensign/laws.FnArg", spec := "fnArg", unfollowed := true, recurses := true, apart := false }
def FnArgSaid : Prop := fnArgRow.holds Try.pinned (OpenSpec.ofChange fnArgSpec)

/-- ITS FALSE NEIGHBOUR: 'it returns false'. Refute it at one input. -/
def fnArgWrong : ChangeSpec := { name := "fnArg", fn := fun _ => fun
  | [d1, d2, d3] => { results := [.lit (.bool false)], args := [d1, d2, d3] }
  | _ => none }
def FnArgWrongFalsely : Prop := fnArgRow.holds Try.pinned (OpenSpec.ofChange fnArgWrong)

/-- 'laws.FnChanged': WHATEVER THE INPUT: true; the input reads as it did. -/
def fnChangedSpec : ChangeSpec := { name := "fnChanged", fn := fun _ => fun
  | [d1, d2] => { results := [.lit (.bool true)], args := [d1, d2] }
  | _ => none }
def fnChangedRow : OpenClaim := { program := "ytcpjdgbnfjdakaa", sum := "a0c99103e09b78ec52dac4267977f276a6c966c84e83445489261a09210572f3", func := "pub-ensign/laws.FnChanged", spec := "fnChanged", unfollowed := true, recurses := true, apart := false }
def FnChangedSaid : Prop := fnChangedRow.holds Try.pinned (OpenSpec.ofChange fnChangedSpec)

/-- ITS FALSE NEIGHBOUR: 'it returns false'. Refute it at one input. -/
def fnChangedWrong : ChangeSpec := { name := "fnChanged", fn := fun _ => fun
  | [d1, d2] => { results := [.lit (.bool false)], args := [d1, d2] }
  | _ => none }
def FnChangedWrongFalsely : Prop := fnChangedRow.holds Try.pinned (OpenSpec.ofChange fnChangedWrong)

/-- 'laws.FnCut': WHATEVER THE INPUT: true; the input reads as it did. -/
def fnCutSpec : ChangeSpec := { name := "fnCut", fn := fun _ => fun
  | [d1, d2, d3] => { results := [.lit (.bool true)], args := [d1, d2, d3] }
  | _ => none }
def fnCutRow : OpenClaim := { program := "ytcpjdgbnfjdakaa", sum := "a0c99103e09b78ec52dac4267977f276a6c966c84e83445489261a09210572f3", func := "pub-ensign/laws.FnCut", spec := "fnCut", unfollowed := true, recurses := true, apart := false }
def FnCutSaid : Prop := fnCutRow.holds Try.pinned (OpenSpec.ofChange fnCutSpec)

/-- ITS FALSE NEIGHBOUR: 'it returns false'. Refute it at one input. -/
def fnCutWrong : ChangeSpec := { name := "fnCut", fn := fun _ => fun
  | [d1, d2, d3] => { results := [.lit (.bool false)], args := [d1, d2, d3] }
  | _ => none }
def FnCutWrongFalsely : Prop := fnCutRow.holds Try.pinned (OpenSpec.ofChange fnCutWrong)

/-- 'laws.FnGrows': WHATEVER THE INPUT: true; the input reads as it did. -/
def fnGrowsSpec : ChangeSpec := { name := "fnGrows", fn := fun _ => fun
  | [d1, d2, d3] => { results := [.lit (.bool true)], args := [d1, d2, d3] }
  | _ => none }
def fnGrowsRow : OpenClaim := { program := "ytcpjdgbnfjdakaa", sum := "a0c99103e09b78ec52dac4267977f276a6c966c84e83445489261a09210572f3", func := "pub-ensign/laws.FnGrows", spec := "fnGrows", unfollowed := true, recurses := true, apart := false }
def FnGrowsSaid : Prop := fnGrowsRow.holds Try.pinned (OpenSpec.ofChange fnGrowsSpec)

/-- ITS FALSE NEIGHBOUR: 'it returns false'. Refute it at one input. -/
def fnGrowsWrong : ChangeSpec := { name := "fnGrows", fn := fun _ => fun
  | [d1, d2, d3] => { results := [.lit (.bool false)], args := [d1, d2, d3] }
  | _ => none }
def FnGrowsWrongFalsely : Prop := fnGrowsRow.holds Try.pinned (OpenSpec.ofChange fnGrowsWrong)

/-- 'laws.FnHelp': WHATEVER THE INPUT: true; the input reads as it did. -/
def fnHelpSpec : ChangeSpec := { name := "fnHelp", fn := fun _ => fun
  | [d1, d2, d3] => { results := [.lit (.bool true)], args := [d1, d2, d3] }
  | _ => none }
def fnHelpRow : OpenClaim := { program := "ytcpjdgbnfjdakaa", sum := "a0c99103e09b78ec52dac4267977f276a6c966c84e83445489261a09210572f3", func := "pub-ensign/laws.FnHelp", spec := "fnHelp", unfollowed := true, recurses := true, apart := false }
def FnHelpSaid : Prop := fnHelpRow.holds Try.pinned (OpenSpec.ofChange fnHelpSpec)

/-- ITS FALSE NEIGHBOUR: 'it returns false'. Refute it at one input. -/
def fnHelpWrong : ChangeSpec := { name := "fnHelp", fn := fun _ => fun
  | [d1, d2, d3] => { results := [.lit (.bool false)], args := [d1, d2, d3] }
  | _ => none }
def FnHelpWrongFalsely : Prop := fnHelpRow.holds Try.pinned (OpenSpec.ofChange fnHelpWrong)

/-- 'laws.FnLetter': WHATEVER THE INPUT: true; the input reads as it did. -/
def fnLetterSpec : ChangeSpec := { name := "fnLetter", fn := fun _ => fun
  | [d1, d2, d3, d4] => { results := [.lit (.bool true)], args := [d1, d2, d3, d4] }
  | _ => none }
def fnLetterRow : OpenClaim := { program := "ytcpjdgbnfjdakaa", sum := "a0c99103e09b78ec52dac4267977f276a6c966c84e83445489261a09210572f3", func := "pub-ensign/laws.FnLetter", spec := "fnLetter", unfollowed := true, recurses := true, apart := false }
def FnLetterSaid : Prop := fnLetterRow.holds Try.pinned (OpenSpec.ofChange fnLetterSpec)

/-- ITS FALSE NEIGHBOUR: 'it returns false'. Refute it at one input. -/
def fnLetterWrong : ChangeSpec := { name := "fnLetter", fn := fun _ => fun
  | [d1, d2, d3, d4] => { results := [.lit (.bool false)], args := [d1, d2, d3, d4] }
  | _ => none }
def FnLetterWrongFalsely : Prop := fnLetterRow.holds Try.pinned (OpenSpec.ofChange fnLetterWrong)

/-- 'laws.FnNext': WHATEVER THE INPUT: true; the input reads as it did. -/
def fnNextSpec : ChangeSpec := { name := "fnNext", fn := fun _ => fun
  | [d1, d2, d3, d4] => { results := [.lit (.bool true)], args := [d1, d2, d3, d4] }
  | _ => none }
def fnNextRow : OpenClaim := { program := "ytcpjdgbnfjdakaa", sum := "a0c99103e09b78ec52dac4267977f276a6c966c84e83445489261a09210572f3", func := "pub-ensign/laws.FnNext", spec := "fnNext", unfollowed := true, recurses := true, apart := false }
def FnNextSaid : Prop := fnNextRow.holds Try.pinned (OpenSpec.ofChange fnNextSpec)

/-- ITS FALSE NEIGHBOUR: 'it returns false'. Refute it at one input. -/
def fnNextWrong : ChangeSpec := { name := "fnNext", fn := fun _ => fun
  | [d1, d2, d3, d4] => { results := [.lit (.bool false)], args := [d1, d2, d3, d4] }
  | _ => none }
def FnNextWrongFalsely : Prop := fnNextRow.holds Try.pinned (OpenSpec.ofChange fnNextWrong)

/-- 'laws.FnWritten': WHATEVER THE INPUT: true; the input reads as it did. -/
def fnWrittenSpec : ChangeSpec := { name := "fnWritten", fn := fun _ => fun
  | [d1, d2, d3] => { results := [.lit (.bool true)], args := [d1, d2, d3] }
  | _ => none }
def fnWrittenRow : OpenClaim := { program := "ytcpjdgbnfjdakaa", sum := "a0c99103e09b78ec52dac4267977f276a6c966c84e83445489261a09210572f3", func := "pub-ensign/laws.FnWritten", spec := "fnWritten", unfollowed := true, recurses := true, apart := false }
def FnWrittenSaid : Prop := fnWrittenRow.holds Try.pinned (OpenSpec.ofChange fnWrittenSpec)

/-- ITS FALSE NEIGHBOUR: 'it returns false'. Refute it at one input. -/
def fnWrittenWrong : ChangeSpec := { name := "fnWritten", fn := fun _ => fun
  | [d1, d2, d3] => { results := [.lit (.bool false)], args := [d1, d2, d3] }
  | _ => none }
def FnWrittenWrongFalsely : Prop := fnWrittenRow.holds Try.pinned (OpenSpec.ofChange fnWrittenWrong)

/-- 'laws.FnWrapFits': WHATEVER THE INPUT: true; the input reads as it did. -/
def fnWrapFitsSpec : ChangeSpec := { name := "fnWrapFits", fn := fun _ => fun
  | [d1, d2, d3] => { results := [.lit (.bool true)], args := [d1, d2, d3] }
  | _ => none }
def fnWrapFitsRow : OpenClaim := { program := "ytcpjdgbnfjdakaa", sum := "a0c99103e09b78ec52dac4267977f276a6c966c84e83445489261a09210572f3", func := "pub-ensign/laws.FnWrapFits", spec := "fnWrapFits", inPlace := ["internal/abi.NoEscape", "internal/bytealg.MakeNoZero"], unfollowed := true, recurses := true, apart := false }
def FnWrapFitsSaid : Prop := fnWrapFitsRow.holds Try.pinned (OpenSpec.ofChange fnWrapFitsSpec)

/-- ITS FALSE NEIGHBOUR: 'it returns false'. Refute it at one input. -/
def fnWrapFitsWrong : ChangeSpec := { name := "fnWrapFits", fn := fun _ => fun
  | [d1, d2, d3] => { results := [.lit (.bool false)], args := [d1, d2, d3] }
  | _ => none }
def FnWrapFitsWrongFalsely : Prop := fnWrapFitsRow.holds Try.pinned (OpenSpec.ofChange fnWrapFitsWrong)

/- THE SECOND FORM. 'bulk': how many values and letters a reading holds, each counted each time it is reached (what is shared counts as often as it is met; a slice's spare places count too). A statement '..UptoSaid' is the law's where the arguments, and the package variables that the reading takes, are together of bulk at most 1048576: NARROWER than '..Said'. Prove '..Said' where nothing that the law and all that it calls make is longer than what came in: it says more and counts as full. Else prove '..UptoSaid'. A law counts once. -/
mutual
def uptoBulk {H : Type} : DataW H → Nat
  | .lit (.string bytes) => bytes.length + 1
  | .lit _ => 1
  | .nil => 1
  | .ptr d => uptoBulk d + 1
  | .slice elems spare => uptoBulkAll elems + uptoBulkAll spare + 1
  | .agg parts => uptoBulkAll parts + 1
  | .iface _ d => uptoBulk d + 1
  | .map entries => uptoBulkEntries entries + 1
  | .held _ => 1
def uptoBulkAll {H : Type} : List (DataW H) → Nat
  | [] => 0
  | d :: r => uptoBulk d + uptoBulkAll r
def uptoBulkEntries {H : Type} : List (Lit × DataW H) → Nat
  | [] => 0
  | x :: r => uptoBulkEntry x + uptoBulkEntries r
def uptoBulkEntry {H : Type} : Lit × DataW H → Nat
  | (.string bytes, d) => bytes.length + uptoBulk d + 1
  | (_, d) => uptoBulk d + 1
 end
def uptoSmall : (H : Type) → List (DataW H) → Bool := fun _ ds => decide (uptoBulkAll ds ≤ 1048576)
def OpenSpec.upto (s : _root_.Go.ChangeSpec) : _root_.Go.OpenSpec := { _root_.Go.OpenSpec.ofChange s with cond := some uptoSmall }

/-- 'laws.FnParse', WHERE WHAT IT READS IS OF BULK AT MOST 1048576: true; the input reads as it did. -/
def fnParseUptoRow : OpenClaim := { program := "ytcpjdgbnfjdakaa", sum := "a0c99103e09b78ec52dac4267977f276a6c966c84e83445489261a09210572f3", func := "pub-ensign/laws.FnParse", spec := "fnParse", unfollowed := true, recurses := true, apart := false, narrowed := true }
def FnParseUptoSaid : Prop := fnParseUptoRow.holds Try.pinned (OpenSpec.upto fnParseSpec)

/-- 'laws.FnParseAll', WHERE WHAT IT READS IS OF BULK AT MOST 1048576: true; the input reads as it did. -/
def fnParseAllUptoRow : OpenClaim := { program := "ytcpjdgbnfjdakaa", sum := "a0c99103e09b78ec52dac4267977f276a6c966c84e83445489261a09210572f3", func := "pub-ensign/laws.FnParseAll", spec := "fnParseAll", unfollowed := true, recurses := true, apart := false, narrowed := true }
def FnParseAllUptoSaid : Prop := fnParseAllUptoRow.holds Try.pinned (OpenSpec.upto fnParseAllSpec)

/-- 'laws.FnShort', WHERE WHAT IT READS IS OF BULK AT MOST 1048576: true; the input reads as it did. -/
def fnShortUptoRow : OpenClaim := { program := "ytcpjdgbnfjdakaa", sum := "a0c99103e09b78ec52dac4267977f276a6c966c84e83445489261a09210572f3", func := "pub-ensign/laws.FnShort", spec := "fnShort", unfollowed := true, recurses := true, apart := false, narrowed := true }
def FnShortUptoSaid : Prop := fnShortUptoRow.holds Try.pinned (OpenSpec.upto fnShortSpec)

/-- 'laws.FnArg', WHERE WHAT IT READS IS OF BULK AT MOST 1048576: true; the input reads as it did. -/
def fnArgUptoRow : OpenClaim := { program := "ytcpjdgbnfjdakaa", sum := "a0c99103e09b78ec52dac4267977f276a6c966c84e83445489261a09210572f3", func := "pub-ensign/laws.FnArg", spec := "fnArg", unfollowed := true, recurses := true, apart := false, narrowed := true }
def FnArgUptoSaid : Prop := fnArgUptoRow.holds Try.pinned (OpenSpec.upto fnArgSpec)

/-- 'laws.FnChanged', WHERE WHAT IT READS IS OF BULK AT MOST 1048576: true; the input reads as it did. -/
def fnChangedUptoRow : OpenClaim := { program := "ytcpjdgbnfjdakaa", sum := "a0c99103e09b78ec52dac4267977f276a6c966c84e83445489261a09210572f3", func := "pub-ensign/laws.FnChanged", spec := "fnChanged", unfollowed := true, recurses := true, apart := false, narrowed := true }
def FnChangedUptoSaid : Prop := fnChangedUptoRow.holds Try.pinned (OpenSpec.upto fnChangedSpec)

/-- 'laws.FnCut', WHERE WHAT IT READS IS OF BULK AT MOST 1048576: true; the input reads as it did. -/
def fnCutUptoRow : OpenClaim := { program := "ytcpjdgbnfjdakaa", sum := "a0c99103e09b78ec52dac4267977f276a6c966c84e83445489261a09210572f3", func := "pub-ensign/laws.FnCut", spec := "fnCut", unfollowed := true, recurses := true, apart := false, narrowed := true }
def FnCutUptoSaid : Prop := fnCutUptoRow.holds Try.pinned (OpenSpec.upto fnCutSpec)

/-- 'laws.FnGrows', WHERE WHAT IT READS IS OF BULK AT MOST 1048576: true; the input reads as it did. -/
def fnGrowsUptoRow : OpenClaim := { program := "ytcpjdgbnfjdakaa", sum := "a0c99103e09b78ec52dac4267977f276a6c966c84e83445489261a09210572f3", func := "pub-ensign/laws.FnGrows", spec := "fnGrows", unfollowed := true, recurses := true, apart := false, narrowed := true }
def FnGrowsUptoSaid : Prop := fnGrowsUptoRow.holds Try.pinned (OpenSpec.upto fnGrowsSpec)

/-- 'laws.FnHelp', WHERE WHAT IT READS IS OF BULK AT MOST 1048576: true; the input reads as it did. -/
def fnHelpUptoRow : OpenClaim := { program := "ytcpjdgbnfjdakaa", sum := "a0c99103e09b78ec52dac4267977f276a6c966c84e83445489261a09210572f3", func := "pub-ensign/laws.FnHelp", spec := "fnHelp", unfollowed := true, recurses := true, apart := false, narrowed := true }
def FnHelpUptoSaid : Prop := fnHelpUptoRow.holds Try.pinned (OpenSpec.upto fnHelpSpec)

/-- 'laws.FnLetter', WHERE WHAT IT READS IS OF BULK AT MOST 1048576: true; the input reads as it did. -/
def fnLetterUptoRow : OpenClaim := { program := "ytcpjdgbnfjdakaa", sum := "a0c99103e09b78ec52dac4267977f276a6c966c84e83445489261a09210572f3", func := "pub-ensign/laws.FnLetter", spec := "fnLetter", unfollowed := true, recurses := true, apart := false, narrowed := true }
def FnLetterUptoSaid : Prop := fnLetterUptoRow.holds Try.pinned (OpenSpec.upto fnLetterSpec)

/-- 'laws.FnNext', WHERE WHAT IT READS IS OF BULK AT MOST 1048576: true; the input reads as it did. -/
def fnNextUptoRow : OpenClaim := { program := "ytcpjdgbnfjdakaa", sum := "a0c99103e09b78ec52dac4267977f276a6c966c84e83445489261a09210572f3", func := "pub-ensign/laws.FnNext", spec := "fnNext", unfollowed := true, recurses := true, apart := false, narrowed := true }
def FnNextUptoSaid : Prop := fnNextUptoRow.holds Try.pinned (OpenSpec.upto fnNextSpec)

/-- 'laws.FnWritten', WHERE WHAT IT READS IS OF BULK AT MOST 1048576: true; the input reads as it did. -/
def fnWrittenUptoRow : OpenClaim := { program := "ytcpjdgbnfjdakaa", sum := "a0c99103e09b78ec52dac4267977f276a6c966c84e83445489261a09210572f3", func := "pub-ensign/laws.FnWritten", spec := "fnWritten", unfollowed := true, recurses := true, apart := false, narrowed := true }
def FnWrittenUptoSaid : Prop := fnWrittenUptoRow.holds Try.pinned (OpenSpec.upto fnWrittenSpec)

/-- 'laws.FnWrapFits', WHERE WHAT IT READS IS OF BULK AT MOST 1048576: true; the input reads as it did. -/
def fnWrapFitsUptoRow : OpenClaim := { program := "ytcpjdgbnfjdakaa", sum := "a0c99103e09b78ec52dac4267977f276a6c966c84e83445489261a09210572f3", func := "pub-ensign/laws.FnWrapFits", spec := "fnWrapFits", inPlace := ["internal/abi.NoEscape", "internal/bytealg.MakeNoZero"], unfollowed := true, recurses := true, apart := false, narrowed := true }
def FnWrapFitsUptoSaid : Prop := fnWrapFitsUptoRow.holds Try.pinned (OpenSpec.upto fnWrapFitsSpec)

end Rows
end Go.Proofs.Ytcpjdgbnfjdakaa
