/-
  DERIVED. GIVEN WITH THE SEED: THE CARDS: each row of YtbnbemacljjimaaGreatDoorRows.lean that lists a variable, with what it lists TIED to the program's text (the seventh form; the later family's looks); each row that meets fmt, with fmt's text TOLD by the authors' own Lean function (tested against real Go, not proved from fmt's source: count such statements apart). THE CARD IS WHAT COUNTS. Prove the row's statement (the work); the ties are given (YtbnbemacljjimaaGreatDoorTie.lean); close each card by the builder's one call (the guide's Derived/Test/ToyasCard.lean, 'card_holds'). Laid BY PROGRAM, IN A SANDBOX (cutbox-door.mjs). By AI agents, Wed Nov 11 2026. No macro, syntax, notation, axiom, sorry.
-/
import Derived.Test.YtbnbemacljjimaaGreatDoorRows
import GoSem.ClaimSeven
namespace Go.Proofs.YtbnbemacljjimaaGreatDoor
namespace Rows

/-- THE TIED CARD OF 'laws.FnToJSON'. -/
def fnToJSONCard : Claim7 := { stood := { row := fnToJSONRow, standIns := [], harness := (true, "fd67e605ea407d0c241f19b64add381f4f192a06dee742ae06c85de8d2ab9b32"), looks := true }, kinds := [], alts := [], laidByText := true, laidKinds := [.data, .pinned], laidTests := true, laidLooks := .later }
def FnToJSONCardSaid : Prop := Claim7.holds Tryz.pinned (.plain (OpenSpec.ofChange fnToJSONSpec)) fnToJSONCard

/-- THE TIED CARD OF 'laws.FnCSVBack'. -/
def fnCSVBackCard : Claim7 := { stood := { row := fnCSVBackRow, standIns := [], harness := (true, "fd67e605ea407d0c241f19b64add381f4f192a06dee742ae06c85de8d2ab9b32"), looks := true }, kinds := [], alts := [], laidByText := true, laidKinds := [.data, .pinned], laidTests := true, laidLooks := .later }
def FnCSVBackCardSaid : Prop := Claim7.holds Tryz.pinned (.plain (OpenSpec.ofChange fnCSVBackSpec)) fnCSVBackCard

/-- THE TIED CARD OF 'laws.FnFormatCSV'. -/
def fnFormatCSVCard : Claim7 := { stood := { row := fnFormatCSVRow, standIns := [], harness := (true, "fd67e605ea407d0c241f19b64add381f4f192a06dee742ae06c85de8d2ab9b32"), looks := true }, kinds := [], alts := [], laidByText := true, laidKinds := [.data, .pinned], laidTests := true, laidLooks := .later }
def FnFormatCSVCardSaid : Prop := Claim7.holds Tryz.pinned (.plain (OpenSpec.ofChange fnFormatCSVSpec)) fnFormatCSVCard

/-- THE SECOND FORM's CARD OF 'laws.FnToJSON'. -/
def fnToJSONUptoCard : Claim7 := { stood := { row := fnToJSONUptoRow, standIns := [], harness := (true, "fd67e605ea407d0c241f19b64add381f4f192a06dee742ae06c85de8d2ab9b32"), looks := true }, kinds := [], alts := [], laidByText := true, laidKinds := [.data, .pinned], laidTests := true, laidLooks := .later }
def FnToJSONUptoCardSaid : Prop := Claim7.holds Tryz.pinned (.plain (OpenSpec.upto fnToJSONSpec)) fnToJSONUptoCard

/-- THE SECOND FORM's CARD OF 'laws.FnCSVBack'. -/
def fnCSVBackUptoCard : Claim7 := { stood := { row := fnCSVBackUptoRow, standIns := [], harness := (true, "fd67e605ea407d0c241f19b64add381f4f192a06dee742ae06c85de8d2ab9b32"), looks := true }, kinds := [], alts := [], laidByText := true, laidKinds := [.data, .pinned], laidTests := true, laidLooks := .later }
def FnCSVBackUptoCardSaid : Prop := Claim7.holds Tryz.pinned (.plain (OpenSpec.upto fnCSVBackSpec)) fnCSVBackUptoCard

/-- THE SECOND FORM's CARD OF 'laws.FnFormatCSV'. -/
def fnFormatCSVUptoCard : Claim7 := { stood := { row := fnFormatCSVUptoRow, standIns := [], harness := (true, "fd67e605ea407d0c241f19b64add381f4f192a06dee742ae06c85de8d2ab9b32"), looks := true }, kinds := [], alts := [], laidByText := true, laidKinds := [.data, .pinned], laidTests := true, laidLooks := .later }
def FnFormatCSVUptoCardSaid : Prop := Claim7.holds Tryz.pinned (.plain (OpenSpec.upto fnFormatCSVSpec)) fnFormatCSVUptoCard
end Rows
end Go.Proofs.YtbnbemacljjimaaGreatDoor
