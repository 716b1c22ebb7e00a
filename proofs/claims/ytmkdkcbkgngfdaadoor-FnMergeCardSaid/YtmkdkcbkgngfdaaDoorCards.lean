/-
  DERIVED. GIVEN WITH THE SEED: THE CARDS: each row of YtmkdkcbkgngfdaaDoorRows.lean that lists a variable, with what it lists TIED to the program's text (the seventh form; the later family's looks); each row that meets fmt, with fmt's text TOLD by the authors' own Lean function (tested against real Go, not proved from fmt's source: count such statements apart). THE CARD IS WHAT COUNTS. Prove the row's statement (the work); the ties are given (YtmkdkcbkgngfdaaDoorTie.lean); close each card by the builder's one call (the guide's Derived/Test/ToyasCard.lean, 'card_holds'). Laid BY PROGRAM, IN A SANDBOX (cutbox-door.mjs). By AI agents, Wed Nov 11 2026. No macro, syntax, notation, axiom, sorry.
-/
import Derived.Test.YtmkdkcbkgngfdaaDoorRows
import GoSem.ClaimSeven
namespace Go.Proofs.YtmkdkcbkgngfdaaDoor
namespace Rows

/-- THE TIED CARD OF 'laws.FnByteLength'. -/
def fnByteLengthCard : Claim7 := { stood := { row := fnByteLengthRow, standIns := [], harness := (true, "f4613fc6ff619ea2ed9ffcc7e583ec6f684707c1876d124864bb9d3b2c907a35"), looks := true }, kinds := [], alts := [], laidByText := true, laidKinds := [.data, .pinned], laidTests := true, laidLooks := .later }
def FnByteLengthCardSaid : Prop := Claim7.holds Tryd.pinned (.plain (OpenSpec.ofChange fnByteLengthSpec)) fnByteLengthCard

/-- THE TIED CARD OF 'laws.FnMerge'. -/
def fnMergeCard : Claim7 := { stood := { row := fnMergeRow, standIns := [], harness := (true, "f4613fc6ff619ea2ed9ffcc7e583ec6f684707c1876d124864bb9d3b2c907a35"), looks := true }, kinds := [], alts := [], laidByText := true, laidKinds := [.data, .pinned], laidTests := true, laidLooks := .later }
def FnMergeCardSaid : Prop := Claim7.holds Tryd.pinned (.plain (OpenSpec.ofChange fnMergeSpec)) fnMergeCard

/-- THE TIED CARD OF 'laws.FnValues'. -/
def fnValuesCard : Claim7 := { stood := { row := fnValuesRow, standIns := [], harness := (true, "f4613fc6ff619ea2ed9ffcc7e583ec6f684707c1876d124864bb9d3b2c907a35"), looks := true }, kinds := [], alts := [], laidByText := true, laidKinds := [.data, .pinned], laidTests := true, laidLooks := .later }
def FnValuesCardSaid : Prop := Claim7.holds Tryd.pinned (.plain (OpenSpec.ofChange fnValuesSpec)) fnValuesCard

/-- THE TIED CARD OF 'laws.FnAbs'. -/
def fnAbsCard : Claim7 := { stood := { row := fnAbsRow, standIns := [], harness := (true, "f4613fc6ff619ea2ed9ffcc7e583ec6f684707c1876d124864bb9d3b2c907a35"), looks := true }, kinds := [], alts := [], laidByText := true, laidKinds := [.data, .pinned], laidTests := true, laidLooks := .later }
def FnAbsCardSaid : Prop := Claim7.holds Tryd.pinned (.plain (OpenSpec.ofChange fnAbsSpec)) fnAbsCard

/-- THE TIED CARD OF 'laws.FnTrim'. -/
def fnTrimCard : Claim7 := { stood := { row := fnTrimRow, standIns := [], harness := (true, "f4613fc6ff619ea2ed9ffcc7e583ec6f684707c1876d124864bb9d3b2c907a35"), looks := true }, kinds := [], alts := [], laidByText := true, laidKinds := [.data, .pinned], laidTests := true, laidLooks := .later }
def FnTrimCardSaid : Prop := Claim7.holds Tryd.pinned (.plain (OpenSpec.ofChange fnTrimSpec)) fnTrimCard

/-- THE SECOND FORM's CARD OF 'laws.FnByteLength'. -/
def fnByteLengthUptoCard : Claim7 := { stood := { row := fnByteLengthUptoRow, standIns := [], harness := (true, "f4613fc6ff619ea2ed9ffcc7e583ec6f684707c1876d124864bb9d3b2c907a35"), looks := true }, kinds := [], alts := [], laidByText := true, laidKinds := [.data, .pinned], laidTests := true, laidLooks := .later }
def FnByteLengthUptoCardSaid : Prop := Claim7.holds Tryd.pinned (.plain (OpenSpec.upto fnByteLengthSpec)) fnByteLengthUptoCard

/-- THE SECOND FORM's CARD OF 'laws.FnMerge'. -/
def fnMergeUptoCard : Claim7 := { stood := { row := fnMergeUptoRow, standIns := [], harness := (true, "f4613fc6ff619ea2ed9ffcc7e583ec6f684707c1876d124864bb9d3b2c907a35"), looks := true }, kinds := [], alts := [], laidByText := true, laidKinds := [.data, .pinned], laidTests := true, laidLooks := .later }
def FnMergeUptoCardSaid : Prop := Claim7.holds Tryd.pinned (.plain (OpenSpec.upto fnMergeSpec)) fnMergeUptoCard

/-- THE SECOND FORM's CARD OF 'laws.FnValues'. -/
def fnValuesUptoCard : Claim7 := { stood := { row := fnValuesUptoRow, standIns := [], harness := (true, "f4613fc6ff619ea2ed9ffcc7e583ec6f684707c1876d124864bb9d3b2c907a35"), looks := true }, kinds := [], alts := [], laidByText := true, laidKinds := [.data, .pinned], laidTests := true, laidLooks := .later }
def FnValuesUptoCardSaid : Prop := Claim7.holds Tryd.pinned (.plain (OpenSpec.upto fnValuesSpec)) fnValuesUptoCard

/-- THE SECOND FORM's CARD OF 'laws.FnAbs'. -/
def fnAbsUptoCard : Claim7 := { stood := { row := fnAbsUptoRow, standIns := [], harness := (true, "f4613fc6ff619ea2ed9ffcc7e583ec6f684707c1876d124864bb9d3b2c907a35"), looks := true }, kinds := [], alts := [], laidByText := true, laidKinds := [.data, .pinned], laidTests := true, laidLooks := .later }
def FnAbsUptoCardSaid : Prop := Claim7.holds Tryd.pinned (.plain (OpenSpec.upto fnAbsSpec)) fnAbsUptoCard

/-- THE SECOND FORM's CARD OF 'laws.FnTrim'. -/
def fnTrimUptoCard : Claim7 := { stood := { row := fnTrimUptoRow, standIns := [], harness := (true, "f4613fc6ff619ea2ed9ffcc7e583ec6f684707c1876d124864bb9d3b2c907a35"), looks := true }, kinds := [], alts := [], laidByText := true, laidKinds := [.data, .pinned], laidTests := true, laidLooks := .later }
def FnTrimUptoCardSaid : Prop := Claim7.holds Tryd.pinned (.plain (OpenSpec.upto fnTrimSpec)) fnTrimUptoCard
end Rows
end Go.Proofs.YtmkdkcbkgngfdaaDoor
