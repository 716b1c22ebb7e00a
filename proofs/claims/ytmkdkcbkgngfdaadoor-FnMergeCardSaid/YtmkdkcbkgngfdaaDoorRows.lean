/-
  NARROWER THAN 'FOR EVERY INPUT', by the rows' own cells (each row's printed sentence says how): FnByteLength: loops, laid · FnMerge: loops, laid · FnValues: loops, laid · FnAbs: loops, laid · FnTrim: loops, laid.
  DERIVED. THE GIVEN ROWS OF THIS SEAT. 5 by the template 'for every input the law returns true; each argument reads behind the call as it read before'; 0 by the template 'total and deterministic' (their statements: YtmkdkcbkgngfdaaDoorTotals.lean).
  GIVEN WITH THE SEED: the statements are not yours to turn. If you find one false, say at which input.
  Laid BY PROGRAM, IN A SANDBOX (cutbox-rows.mjs): the forced cells as the released guide's own fill.sh prints them over the translation b15c26d13f67eeb9… (all of the seat's roots in one cut). By AI agents, Wed Nov 11 2026. No macro, syntax, notation, axiom, sorry.
-/
import Derived.Test.YtmkdkcbkgngfdaaDoorChecked
import GoSem.PinnedTables
import GoSem.Claim
import GoSem.ClaimJoined
import GoSem.ClaimMapViews
import Derived.JoinedTies
import Derived.KernelRfl
namespace Go.Proofs.YtmkdkcbkgngfdaaDoor
/- THE CELL 'sum', in the pinned program and in every row, IS THE sha256 OF THE DUMP (.gsa) THAT YtmkdkcbkgngfdaaDoorProg.lean LOADS. Nothing in Lean hashes anything: it is a label: what it is worth is what the hold of that sum in a sandbox is worth. -/
noncomputable def Tryd.pinned : Pinned := { name := "ytmkdkcbkgngfdaadoor", sum := "b15c26d13f67eeb93df22d2ea7d68b5acf816b6357a8f6b7207b423befeadbbc", checked := Tryd.checked }
namespace Rows
def none {H : Type} : Left H := { results := [], args := [] }

/- WHAT THE LISTED PACKAGE-LEVEL VARIABLES READ AS WHEN THE CALL BEGINS. Each datum BY PROGRAM (the guide's laid-datum.mjs) off the statement by which the dump's own 'gosem.cut.vars' lays the variable. In a bare row this is a premise. The card (YtmkdkcbkgngfdaaDoorCards.lean) ties it to the program's text. -/
def laid_unicode_utf8_acceptRanges {H : Type} : DataW H := .agg [.agg [.lit (.int .u8 128), .lit (.int .u8 191)], .agg [.lit (.int .u8 160), .lit (.int .u8 191)], .agg [.lit (.int .u8 128), .lit (.int .u8 159)], .agg [.lit (.int .u8 144), .lit (.int .u8 191)], .agg [.lit (.int .u8 128), .lit (.int .u8 143)], .agg [.lit (.int .u8 0), .lit (.int .u8 0)], .agg [.lit (.int .u8 0), .lit (.int .u8 0)], .agg [.lit (.int .u8 0), .lit (.int .u8 0)], .agg [.lit (.int .u8 0), .lit (.int .u8 0)], .agg [.lit (.int .u8 0), .lit (.int .u8 0)], .agg [.lit (.int .u8 0), .lit (.int .u8 0)], .agg [.lit (.int .u8 0), .lit (.int .u8 0)], .agg [.lit (.int .u8 0), .lit (.int .u8 0)], .agg [.lit (.int .u8 0), .lit (.int .u8 0)], .agg [.lit (.int .u8 0), .lit (.int .u8 0)], .agg [.lit (.int .u8 0), .lit (.int .u8 0)]]
/-- One of Go's own tables, pinned by name: the form's constant. -/
def laid_unicode_utf8_first : DataW Unit := Go.Pinned.utf8First

/-- 'laws.FnByteLength': WHATEVER THE INPUT: true; the input reads as it did. -/
def fnByteLengthSpec : ChangeSpec := { name := "fnByteLength", fn := fun _ => fun
  | [d] => { results := [.lit (.bool true)], args := [d] }
  | _ => none }
def fnByteLengthRow : OpenClaim := { program := "ytmkdkcbkgngfdaadoor", sum := "b15c26d13f67eeb93df22d2ea7d68b5acf816b6357a8f6b7207b423befeadbbc", func := "pub-strainer/laws.FnByteLength", spec := "fnByteLength", inPlace := ["math.archTrunc", "math.Float64bits", "math.Float64frombits"], unfollowed := true, recurses := true, named := ["unicode/utf8.first", "unicode/utf8.acceptRanges"], loops := true, apart := false, laid := [("unicode/utf8.acceptRanges", laid_unicode_utf8_acceptRanges), ("unicode/utf8.first", laid_unicode_utf8_first)] }
def FnByteLengthSaid : Prop := fnByteLengthRow.holds Tryd.pinned (OpenSpec.ofChange fnByteLengthSpec)

/-- ITS FALSE NEIGHBOUR: 'it returns false'. Refute it at one input. -/
def fnByteLengthWrong : ChangeSpec := { name := "fnByteLength", fn := fun _ => fun
  | [d] => { results := [.lit (.bool false)], args := [d] }
  | _ => none }
def FnByteLengthWrongFalsely : Prop := fnByteLengthRow.holds Tryd.pinned (OpenSpec.ofChange fnByteLengthWrong)

/-- 'laws.FnMerge': WHATEVER THE INPUT: true; the input reads as it did. -/
def fnMergeSpec : ChangeSpec := { name := "fnMerge", fn := fun _ => fun
  | [d1, d2] => { results := [.lit (.bool true)], args := [d1, d2] }
  | _ => none }
def fnMergeRow : OpenClaim := { program := "ytmkdkcbkgngfdaadoor", sum := "b15c26d13f67eeb93df22d2ea7d68b5acf816b6357a8f6b7207b423befeadbbc", func := "pub-strainer/laws.FnMerge", spec := "fnMerge", inPlace := ["math.archTrunc", "math.Float64bits", "math.Float64frombits"], unfollowed := true, recurses := true, named := ["unicode/utf8.first", "unicode/utf8.acceptRanges"], loops := true, apart := false, laid := [("unicode/utf8.acceptRanges", laid_unicode_utf8_acceptRanges), ("unicode/utf8.first", laid_unicode_utf8_first)] }
def FnMergeSaid : Prop := fnMergeRow.holds Tryd.pinned (OpenSpec.ofChange fnMergeSpec)

/-- ITS FALSE NEIGHBOUR: 'it returns false'. Refute it at one input. -/
def fnMergeWrong : ChangeSpec := { name := "fnMerge", fn := fun _ => fun
  | [d1, d2] => { results := [.lit (.bool false)], args := [d1, d2] }
  | _ => none }
def FnMergeWrongFalsely : Prop := fnMergeRow.holds Tryd.pinned (OpenSpec.ofChange fnMergeWrong)

/-- 'laws.FnValues': WHATEVER THE INPUT: true; the input reads as it did. -/
def fnValuesSpec : ChangeSpec := { name := "fnValues", fn := fun _ => fun
  | [d] => { results := [.lit (.bool true)], args := [d] }
  | _ => none }
def fnValuesRow : OpenClaim := { program := "ytmkdkcbkgngfdaadoor", sum := "b15c26d13f67eeb93df22d2ea7d68b5acf816b6357a8f6b7207b423befeadbbc", func := "pub-strainer/laws.FnValues", spec := "fnValues", inPlace := ["math.archTrunc", "math.Float64bits", "math.Float64frombits"], unfollowed := true, recurses := true, named := ["unicode/utf8.first", "unicode/utf8.acceptRanges"], loops := true, apart := false, laid := [("unicode/utf8.acceptRanges", laid_unicode_utf8_acceptRanges), ("unicode/utf8.first", laid_unicode_utf8_first)] }
def FnValuesSaid : Prop := fnValuesRow.holds Tryd.pinned (OpenSpec.ofChange fnValuesSpec)

/-- ITS FALSE NEIGHBOUR: 'it returns false'. Refute it at one input. -/
def fnValuesWrong : ChangeSpec := { name := "fnValues", fn := fun _ => fun
  | [d] => { results := [.lit (.bool false)], args := [d] }
  | _ => none }
def FnValuesWrongFalsely : Prop := fnValuesRow.holds Tryd.pinned (OpenSpec.ofChange fnValuesWrong)

/-- 'laws.FnAbs': WHATEVER THE INPUT: true; the input reads as it did. -/
def fnAbsSpec : ChangeSpec := { name := "fnAbs", fn := fun _ => fun
  | [d] => { results := [.lit (.bool true)], args := [d] }
  | _ => none }
def fnAbsRow : OpenClaim := { program := "ytmkdkcbkgngfdaadoor", sum := "b15c26d13f67eeb93df22d2ea7d68b5acf816b6357a8f6b7207b423befeadbbc", func := "pub-strainer/laws.FnAbs", spec := "fnAbs", inPlace := ["math.Float64bits", "math.Float64frombits", "math.archTrunc"], unfollowed := true, recurses := true, named := ["unicode/utf8.first", "unicode/utf8.acceptRanges"], loops := true, apart := false, laid := [("unicode/utf8.acceptRanges", laid_unicode_utf8_acceptRanges), ("unicode/utf8.first", laid_unicode_utf8_first)] }
def FnAbsSaid : Prop := fnAbsRow.holds Tryd.pinned (OpenSpec.ofChange fnAbsSpec)

/-- ITS FALSE NEIGHBOUR: 'it returns false'. Refute it at one input. -/
def fnAbsWrong : ChangeSpec := { name := "fnAbs", fn := fun _ => fun
  | [d] => { results := [.lit (.bool false)], args := [d] }
  | _ => none }
def FnAbsWrongFalsely : Prop := fnAbsRow.holds Tryd.pinned (OpenSpec.ofChange fnAbsWrong)

/-- 'laws.FnTrim': WHATEVER THE INPUT: true; the input reads as it did. -/
def fnTrimSpec : ChangeSpec := { name := "fnTrim", fn := fun _ => fun
  | [d] => { results := [.lit (.bool true)], args := [d] }
  | _ => none }
def fnTrimRow : OpenClaim := { program := "ytmkdkcbkgngfdaadoor", sum := "b15c26d13f67eeb93df22d2ea7d68b5acf816b6357a8f6b7207b423befeadbbc", func := "pub-strainer/laws.FnTrim", spec := "fnTrim", inPlace := ["math.archTrunc", "math.Float64bits", "math.Float64frombits"], unfollowed := true, recurses := true, named := ["unicode/utf8.first", "unicode/utf8.acceptRanges"], loops := true, apart := false, laid := [("unicode/utf8.acceptRanges", laid_unicode_utf8_acceptRanges), ("unicode/utf8.first", laid_unicode_utf8_first)] }
def FnTrimSaid : Prop := fnTrimRow.holds Tryd.pinned (OpenSpec.ofChange fnTrimSpec)

/-- ITS FALSE NEIGHBOUR: 'it returns false'. Refute it at one input. -/
def fnTrimWrong : ChangeSpec := { name := "fnTrim", fn := fun _ => fun
  | [d] => { results := [.lit (.bool false)], args := [d] }
  | _ => none }
def FnTrimWrongFalsely : Prop := fnTrimRow.holds Tryd.pinned (OpenSpec.ofChange fnTrimWrong)

/- THE SECOND FORM. 'bulk': how many values and letters a reading holds, each counted each time it is reached (what is shared counts as often as it is met; a slice's spare places count too). A statement '..UptoSaid' is the law's where the arguments, and the package variables that the reading takes, are together of bulk at most 1048576: NARROWER than '..Said'. Prove '..Said' where nothing that the law and all that it calls make is longer than what came in: it says more and counts as full. Else prove '..UptoSaid'. A law counts once. -/
mutual
def uptoBulk {H : Type} : DataW H → Nat
  | .lit (.string bytes) => bytes.length + 1
  | .lit _ => 1
  | .nil => 1
  | .ptr d => uptoBulk d + 1
  | .slice elems spare => uptoBulkAll elems + uptoBulkAll spare + 1
  | .agg parts => uptoBulkAll parts + 1
  | .iface _ d => uptoBulk d + 1
  | .map entries => uptoBulkEntries entries + 1
  | .held _ => 1
def uptoBulkAll {H : Type} : List (DataW H) → Nat
  | [] => 0
  | d :: r => uptoBulk d + uptoBulkAll r
def uptoBulkEntries {H : Type} : List (Lit × DataW H) → Nat
  | [] => 0
  | x :: r => uptoBulkEntry x + uptoBulkEntries r
def uptoBulkEntry {H : Type} : Lit × DataW H → Nat
  | (.string bytes, d) => bytes.length + uptoBulk d + 1
  | (_, d) => uptoBulk d + 1
 end
def uptoSmall : (H : Type) → List (DataW H) → Bool := fun _ ds => decide (uptoBulkAll ds ≤ 1048576)
def OpenSpec.upto (s : _root_.Go.ChangeSpec) : _root_.Go.OpenSpec := { _root_.Go.OpenSpec.ofChange s with cond := some uptoSmall }

/-- 'laws.FnByteLength', WHERE WHAT IT READS IS OF BULK AT MOST 1048576: true; the input reads as it did. -/
def fnByteLengthUptoRow : OpenClaim := { program := "ytmkdkcbkgngfdaadoor", sum := "b15c26d13f67eeb93df22d2ea7d68b5acf816b6357a8f6b7207b423befeadbbc", func := "pub-strainer/laws.FnByteLength", spec := "fnByteLength", inPlace := ["math.archTrunc", "math.Float64bits", "math.Float64frombits"], unfollowed := true, recurses := true, named := ["unicode/utf8.first", "unicode/utf8.acceptRanges"], loops := true, apart := false, laid := [("unicode/utf8.acceptRanges", laid_unicode_utf8_acceptRanges), ("unicode/utf8.first", laid_unicode_utf8_first)], narrowed := true }
def FnByteLengthUptoSaid : Prop := fnByteLengthUptoRow.holds Tryd.pinned (OpenSpec.upto fnByteLengthSpec)

/-- 'laws.FnMerge', WHERE WHAT IT READS IS OF BULK AT MOST 1048576: true; the input reads as it did. -/
def fnMergeUptoRow : OpenClaim := { program := "ytmkdkcbkgngfdaadoor", sum := "b15c26d13f67eeb93df22d2ea7d68b5acf816b6357a8f6b7207b423befeadbbc", func := "pub-strainer/laws.FnMerge", spec := "fnMerge", inPlace := ["math.archTrunc", "math.Float64bits", "math.Float64frombits"], unfollowed := true, recurses := true, named := ["unicode/utf8.first", "unicode/utf8.acceptRanges"], loops := true, apart := false, laid := [("unicode/utf8.acceptRanges", laid_unicode_utf8_acceptRanges), ("unicode/utf8.first", laid_unicode_utf8_first)], narrowed := true }
def FnMergeUptoSaid : Prop := fnMergeUptoRow.holds Tryd.pinned (OpenSpec.upto fnMergeSpec)

/-- 'laws.FnValues', WHERE WHAT IT READS IS OF BULK AT MOST 1048576: true; the input reads as it did. -/
def fnValuesUptoRow : OpenClaim := { program := "ytmkdkcbkgngfdaadoor", sum := "b15c26d13f67eeb93df22d2ea7d68b5acf816b6357a8f6b7207b423befeadbbc", func := "pub-strainer/laws.FnValues", spec := "fnValues", inPlace := ["math.archTrunc", "math.Float64bits", "math.Float64frombits"], unfollowed := true, recurses := true, named := ["unicode/utf8.first", "unicode/utf8.acceptRanges"], loops := true, apart := false, laid := [("unicode/utf8.acceptRanges", laid_unicode_utf8_acceptRanges), ("unicode/utf8.first", laid_unicode_utf8_first)], narrowed := true }
def FnValuesUptoSaid : Prop := fnValuesUptoRow.holds Tryd.pinned (OpenSpec.upto fnValuesSpec)

/-- 'laws.FnAbs', WHERE WHAT IT READS IS OF BULK AT MOST 1048576: true; the input reads as it did. -/
def fnAbsUptoRow : OpenClaim := { program := "ytmkdkcbkgngfdaadoor", sum := "b15c26d13f67eeb93df22d2ea7d68b5acf816b6357a8f6b7207b423befeadbbc", func := "pub-strainer/laws.FnAbs", spec := "fnAbs", inPlace := ["math.Float64bits", "math.Float64frombits", "math.archTrunc"], unfollowed := true, recurses := true, named := ["unicode/utf8.first", "unicode/utf8.acceptRanges"], loops := true, apart := false, laid := [("unicode/utf8.acceptRanges", laid_unicode_utf8_acceptRanges), ("unicode/utf8.first", laid_unicode_utf8_first)], narrowed := true }
def FnAbsUptoSaid : Prop := fnAbsUptoRow.holds Tryd.pinned (OpenSpec.upto fnAbsSpec)

/-- 'laws.FnTrim', WHERE WHAT IT READS IS OF BULK AT MOST 1048576: true; the input reads as it did. -/
def fnTrimUptoRow : OpenClaim := { program := "ytmkdkcbkgngfdaadoor", sum := "b15c26d13f67eeb93df22d2ea7d68b5acf816b6357a8f6b7207b423befeadbbc", func := "pub-strainer/laws.FnTrim", spec := "fnTrim", inPlace := ["math.archTrunc", "math.Float64bits", "math.Float64frombits"], unfollowed := true, recurses := true, named := ["unicode/utf8.first", "unicode/utf8.acceptRanges"], loops := true, apart := false, laid := [("unicode/utf8.acceptRanges", laid_unicode_utf8_acceptRanges), ("unicode/utf8.first", laid_unicode_utf8_first)], narrowed := true }
def FnTrimUptoSaid : Prop := fnTrimUptoRow.holds Tryd.pinned (OpenSpec.upto fnTrimSpec)

end Rows
end Go.Proofs.YtmkdkcbkgngfdaaDoor
