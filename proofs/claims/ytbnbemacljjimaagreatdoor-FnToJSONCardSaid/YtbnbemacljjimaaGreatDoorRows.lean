/-
  NARROWER THAN 'FOR EVERY INPUT', by the rows' own cells (each row's printed sentence says how): FnToJSON: loops, laid · FnCSVBack: loops, laid · FnFormatCSV: loops, laid.
  DERIVED. THE GIVEN ROWS OF THIS SEAT. 3 by the template 'for every input the law returns true; each argument reads behind the call as it read before'; 0 by the template 'total and deterministic' (their statements: YtbnbemacljjimaaGreatDoorTotals.lean).
  GIVEN WITH THE SEED: the statements are not yours to turn. If you find one false, say at which input.
  Laid BY PROGRAM, IN A SANDBOX (cutbox-rows.mjs): the forced cells as the released guide's own fill.sh prints them over the translation 9fa4db112d74f626… (all of the seat's roots in one cut). By AI agents, Wed Nov 11 2026. No macro, syntax, notation, axiom, sorry.
-/
import Derived.Test.YtbnbemacljjimaaGreatDoorChecked
import GoSem.PinnedTables
import GoSem.Claim
import GoSem.ClaimJoined
import GoSem.ClaimMapViews
import Derived.JoinedTies
import Derived.KernelRfl
namespace Go.Proofs.YtbnbemacljjimaaGreatDoor
/- THE CELL 'sum', in the pinned program and in every row, IS THE sha256 OF THE DUMP (.gsa) THAT YtbnbemacljjimaaGreatDoorProg.lean LOADS. Nothing in Lean hashes anything: it is a label: what it is worth is what the hold of that sum in a sandbox is worth. -/
noncomputable def Tryz.pinned : Pinned := { name := "ytbnbemacljjimaagreatdoor", sum := "9fa4db112d74f626ad74286f50d3e925031f40cec838c0a4bc9af03cb9a9c087", checked := Tryz.checked }
namespace Rows
def none {H : Type} : Left H := { results := [], args := [] }

/- WHAT THE LISTED PACKAGE-LEVEL VARIABLES READ AS WHEN THE CALL BEGINS. Each datum BY PROGRAM (the guide's laid-datum.mjs) off the statement by which the dump's own 'gosem.cut.vars' lays the variable. In a bare row this is a premise. The card (YtbnbemacljjimaaGreatDoorCards.lean) ties it to the program's text. -/
def laid_unicode_utf8_acceptRanges {H : Type} : DataW H := .agg [.agg [.lit (.int .u8 128), .lit (.int .u8 191)], .agg [.lit (.int .u8 160), .lit (.int .u8 191)], .agg [.lit (.int .u8 128), .lit (.int .u8 159)], .agg [.lit (.int .u8 144), .lit (.int .u8 191)], .agg [.lit (.int .u8 128), .lit (.int .u8 143)], .agg [.lit (.int .u8 0), .lit (.int .u8 0)], .agg [.lit (.int .u8 0), .lit (.int .u8 0)], .agg [.lit (.int .u8 0), .lit (.int .u8 0)], .agg [.lit (.int .u8 0), .lit (.int .u8 0)], .agg [.lit (.int .u8 0), .lit (.int .u8 0)], .agg [.lit (.int .u8 0), .lit (.int .u8 0)], .agg [.lit (.int .u8 0), .lit (.int .u8 0)], .agg [.lit (.int .u8 0), .lit (.int .u8 0)], .agg [.lit (.int .u8 0), .lit (.int .u8 0)], .agg [.lit (.int .u8 0), .lit (.int .u8 0)], .agg [.lit (.int .u8 0), .lit (.int .u8 0)]]
/-- One of Go's own tables, pinned by name: the form's constant. -/
def laid_unicode_utf8_first : DataW Unit := Go.Pinned.utf8First

/-- 'laws.FnToJSON': WHATEVER THE INPUT: true; the input reads as it did. -/
def fnToJSONSpec : ChangeSpec := { name := "fnToJSON", fn := fun _ => fun
  | [d] => { results := [.lit (.bool true)], args := [d] }
  | _ => none }
def fnToJSONRow : OpenClaim := { program := "ytbnbemacljjimaagreatdoor", sum := "9fa4db112d74f626ad74286f50d3e925031f40cec838c0a4bc9af03cb9a9c087", func := "pub-strainer/laws.FnToJSON", spec := "fnToJSON", inPlace := ["math.Float64bits", "math.Float64frombits", "math.Float32bits", "internal/reflectlite.ValueOf", "internal/reflectlite.Swapper", "(internal/reflectlite.Value).Len", "math.archTrunc"], unfollowed := true, recurses := true, named := ["unicode/utf8.first", "unicode/utf8.acceptRanges"], loops := true, apart := false, laid := [("unicode/utf8.acceptRanges", laid_unicode_utf8_acceptRanges), ("unicode/utf8.first", laid_unicode_utf8_first)] }
def FnToJSONSaid : Prop := fnToJSONRow.holds Tryz.pinned (OpenSpec.ofChange fnToJSONSpec)

/-- ITS FALSE NEIGHBOUR: 'it returns false'. Refute it at one input. -/
def fnToJSONWrong : ChangeSpec := { name := "fnToJSON", fn := fun _ => fun
  | [d] => { results := [.lit (.bool false)], args := [d] }
  | _ => none }
def FnToJSONWrongFalsely : Prop := fnToJSONRow.holds Tryz.pinned (OpenSpec.ofChange fnToJSONWrong)

/-- 'laws.FnCSVBack': WHATEVER THE INPUT: true; the input reads as it did. -/
def fnCSVBackSpec : ChangeSpec := { name := "fnCSVBack", fn := fun _ => fun
  | [d] => { results := [.lit (.bool true)], args := [d] }
  | _ => none }
def fnCSVBackRow : OpenClaim := { program := "ytbnbemacljjimaagreatdoor", sum := "9fa4db112d74f626ad74286f50d3e925031f40cec838c0a4bc9af03cb9a9c087", func := "pub-strainer/laws.FnCSVBack", spec := "fnCSVBack", inPlace := ["math.Float64bits", "math.Float64frombits", "math.Float32bits", "internal/reflectlite.ValueOf", "internal/reflectlite.Swapper", "(internal/reflectlite.Value).Len", "internal/abi.NoEscape", "internal/bytealg.MakeNoZero", "math.archTrunc"], unfollowed := true, recurses := true, named := ["unicode/utf8.first", "unicode/utf8.acceptRanges"], loops := true, apart := false, laid := [("unicode/utf8.acceptRanges", laid_unicode_utf8_acceptRanges), ("unicode/utf8.first", laid_unicode_utf8_first)] }
def FnCSVBackSaid : Prop := fnCSVBackRow.holds Tryz.pinned (OpenSpec.ofChange fnCSVBackSpec)

/-- ITS FALSE NEIGHBOUR: 'it returns false'. Refute it at one input. -/
def fnCSVBackWrong : ChangeSpec := { name := "fnCSVBack", fn := fun _ => fun
  | [d] => { results := [.lit (.bool false)], args := [d] }
  | _ => none }
def FnCSVBackWrongFalsely : Prop := fnCSVBackRow.holds Tryz.pinned (OpenSpec.ofChange fnCSVBackWrong)

/-- 'laws.FnFormatCSV': WHATEVER THE INPUT: true; the input reads as it did. -/
def fnFormatCSVSpec : ChangeSpec := { name := "fnFormatCSV", fn := fun _ => fun
  | [d] => { results := [.lit (.bool true)], args := [d] }
  | _ => none }
def fnFormatCSVRow : OpenClaim := { program := "ytbnbemacljjimaagreatdoor", sum := "9fa4db112d74f626ad74286f50d3e925031f40cec838c0a4bc9af03cb9a9c087", func := "pub-strainer/laws.FnFormatCSV", spec := "fnFormatCSV", inPlace := ["math.Float64bits", "math.Float64frombits", "math.Float32bits", "internal/reflectlite.ValueOf", "internal/reflectlite.Swapper", "(internal/reflectlite.Value).Len", "internal/abi.NoEscape", "internal/bytealg.MakeNoZero", "math.archTrunc"], unfollowed := true, recurses := true, named := ["unicode/utf8.first", "unicode/utf8.acceptRanges"], loops := true, apart := false, laid := [("unicode/utf8.acceptRanges", laid_unicode_utf8_acceptRanges), ("unicode/utf8.first", laid_unicode_utf8_first)] }
def FnFormatCSVSaid : Prop := fnFormatCSVRow.holds Tryz.pinned (OpenSpec.ofChange fnFormatCSVSpec)

/-- ITS FALSE NEIGHBOUR: 'it returns false'. Refute it at one input. -/
def fnFormatCSVWrong : ChangeSpec := { name := "fnFormatCSV", fn := fun _ => fun
  | [d] => { results := [.lit (.bool false)], args := [d] }
  | _ => none }
def FnFormatCSVWrongFalsely : Prop := fnFormatCSVRow.holds Tryz.pinned (OpenSpec.ofChange fnFormatCSVWrong)

/- THE SECOND FORM. 'bulk': how many values and letters a reading holds, each counted each time it is reached (what is shared counts as often as it is met; a slice's spare places count too). A statement '..UptoSaid' is the law's where the arguments, and the package variables that the reading takes, are together of bulk at most 1048576: NARROWER than '..Said'. Prove '..Said' where nothing that the law and all that it calls make is longer than what came in: it says more and counts as full. Else prove '..UptoSaid'. A law counts once. -/
mutual
def uptoBulk {H : Type} : DataW H → Nat
  | .lit (.string bytes) => bytes.length + 1
  | .lit _ => 1
  | .nil => 1
  | .ptr d => uptoBulk d + 1
  | .slice elems spare => uptoBulkAll elems + uptoBulkAll spare + 1
  | .agg parts => uptoBulkAll parts + 1
  | .iface _ d => uptoBulk d + 1
  | .map entries => uptoBulkEntries entries + 1
  | .held _ => 1
def uptoBulkAll {H : Type} : List (DataW H) → Nat
  | [] => 0
  | d :: r => uptoBulk d + uptoBulkAll r
def uptoBulkEntries {H : Type} : List (Lit × DataW H) → Nat
  | [] => 0
  | x :: r => uptoBulkEntry x + uptoBulkEntries r
def uptoBulkEntry {H : Type} : Lit × DataW H → Nat
  | (.string bytes, d) => bytes.length + uptoBulk d + 1
  | (_, d) => uptoBulk d + 1
 end
def uptoSmall : (H : Type) → List (DataW H) → Bool := fun _ ds => decide (uptoBulkAll ds ≤ 1048576)
def OpenSpec.upto (s : _root_.Go.ChangeSpec) : _root_.Go.OpenSpec := { _root_.Go.OpenSpec.ofChange s with cond := some uptoSmall }

/-- 'laws.FnToJSON', WHERE WHAT IT READS IS OF BULK AT MOST 1048576: true; the input reads as it did. -/
def fnToJSONUptoRow : OpenClaim := { program := "ytbnbemacljjimaagreatdoor", sum := "9fa4db112d74f626ad74286f50d3e925031f40cec838c0a4bc9af03cb9a9c087", func := "pub-strainer/laws.FnToJSON", spec := "fnToJSON", inPlace := ["math.Float64bits", "math.Float64frombits", "math.Float32bits", "internal/reflectlite.ValueOf", "internal/reflectlite.Swapper", "(internal/reflectlite.Value).Len", "math.archTrunc"], unfollowed := true, recurses := true, named := ["unicode/utf8.first", "unicode/utf8.acceptRanges"], loops := true, apart := false, laid := [("unicode/utf8.acceptRanges", laid_unicode_utf8_acceptRanges), ("unicode/utf8.first", laid_unicode_utf8_first)], narrowed := true }
def FnToJSONUptoSaid : Prop := fnToJSONUptoRow.holds Tryz.pinned (OpenSpec.upto fnToJSONSpec)

/-- 'laws.FnCSVBack', WHERE WHAT IT READS IS OF BULK AT MOST 1048576: true; the input reads as it did. -/
def fnCSVBackUptoRow : OpenClaim := { program := "ytbnbemacljjimaagreatdoor", sum := "9fa4db112d74f626ad74286f50d3e925031f40cec838c0a4bc9af03cb9a9c087", func := "pub-strainer/laws.FnCSVBack", spec := "fnCSVBack", inPlace := ["math.Float64bits", "math.Float64frombits", "math.Float32bits", "internal/reflectlite.ValueOf", "internal/reflectlite.Swapper", "(internal/reflectlite.Value).Len", "internal/abi.NoEscape", "internal/bytealg.MakeNoZero", "math.archTrunc"], unfollowed := true, recurses := true, named := ["unicode/utf8.first", "unicode/utf8.acceptRanges"], loops := true, apart := false, laid := [("unicode/utf8.acceptRanges", laid_unicode_utf8_acceptRanges), ("unicode/utf8.first", laid_unicode_utf8_first)], narrowed := true }
def FnCSVBackUptoSaid : Prop := fnCSVBackUptoRow.holds Tryz.pinned (OpenSpec.upto fnCSVBackSpec)

/-- 'laws.FnFormatCSV', WHERE WHAT IT READS IS OF BULK AT MOST 1048576: true; the input reads as it did. -/
def fnFormatCSVUptoRow : OpenClaim := { program := "ytbnbemacljjimaagreatdoor", sum := "9fa4db112d74f626ad74286f50d3e925031f40cec838c0a4bc9af03cb9a9c087", func := "pub-strainer/laws.FnFormatCSV", spec := "fnFormatCSV", inPlace := ["math.Float64bits", "math.Float64frombits", "math.Float32bits", "internal/reflectlite.ValueOf", "internal/reflectlite.Swapper", "(internal/reflectlite.Value).Len", "internal/abi.NoEscape", "internal/bytealg.MakeNoZero", "math.archTrunc"], unfollowed := true, recurses := true, named := ["unicode/utf8.first", "unicode/utf8.acceptRanges"], loops := true, apart := false, laid := [("unicode/utf8.acceptRanges", laid_unicode_utf8_acceptRanges), ("unicode/utf8.first", laid_unicode_utf8_first)], narrowed := true }
def FnFormatCSVUptoSaid : Prop := fnFormatCSVUptoRow.holds Tryz.pinned (OpenSpec.upto fnFormatCSVSpec)

end Rows
end Go.Proofs.YtbnbemacljjimaaGreatDoor
