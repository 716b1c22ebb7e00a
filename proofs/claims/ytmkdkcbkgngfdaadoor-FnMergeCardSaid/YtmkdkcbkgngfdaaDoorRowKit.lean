/- What each row of this seat asks beside the law: the tables, the argument, the witness. -/
import Derived.Test.YtmkdkcbkgngfdaaDoorOpen
import Derived.Test.YtmkdkcbkgngfdaaDoorCards
import Derived.Test.YtmkdkcbkgngfdaaDoorTie
import Derived.Lib.LaidU8T
import Derived.PinnedBridge
import Derived.Lay
import Derived.ProofKit
namespace Go.Proofs.YtmkdkcbkgngfdaaDoor
open Go.ChangeShapes Go.WideShapes Go.ChangeAt Go.RowKit Go.Deep
set_option linter.unusedVariables false

abbrev seatLaid : List (String × DataW Unit) := Rows.fnByteLengthRow.laid

theorem own : ownKnob Tryd.prog.godebug = none := by kernel_rfl
theorem laidOut : laidOutB Tryd.prog = true := by kernel_rfl
theorem accept_eq : (Rows.laid_unicode_utf8_acceptRanges : DataW Unit) = Lib.acceptData := by kernel_rfl
theorem first_eq : Rows.laid_unicode_utf8_first = Lib.firstData := Pinned.utf8First_eq

theorem tabs_of {W : World} (h : laidMetH Tryd.prog seatLaid W) : Tabs W W.heap.size := by
  rw [MakeChecks.laidMetH_plain _ _ _ (by kernel_rfl)] at h
  have hU : Lib.Utf8Tabs 1 2 W :=
    utf8Tabs_of_readsT (ρ := Tryd.lays196_ren) (U8Types.of196 Tryd.lays196) ⟨by kernel_rfl, by kernel_rfl, by kernel_rfl, by kernel_rfl, by kernel_rfl, by kernel_rfl, by kernel_rfl⟩ (first_eq ▸ Lib.laidMet.reads h (.tail _ (.head _))) (accept_eq ▸ Lib.laidMet.reads h (.head _))
  refine ⟨hU, ?_, ?_⟩
  · exact World.block_lt_of_cell? (a := ⟨1, 0, none⟩) _ (hU.1 0 (by decide))
  · exact World.block_lt_of_cell? (a := ⟨2, 0, none⟩) _ (hU.2 0 (by decide)).1

set_option maxRecDepth 100000 in
theorem laid_start (os : Os) (args : Array Value) : laidMetH Tryd.prog seatLaid ((World.laidAll Tryd.prog os seatLaid).forCall (fun _ _ => 0) ⟨#[], args, []⟩).memory := by
  rw [MakeChecks.laidMetH_plain _ _ _ (by kernel_rfl)]
  exact laidMet_laidAll _ (by kernel_rfl) (by kernel_rfl)

set_option maxRecDepth 100000 in
/-- One argument that is a value. -/
theorem open_val {H : Type} {enc : TypeId × Value → H} {W : World} {r : Reach} {b0 : Nat} {v : Value} {d : DataW H} {p : List MemPlace} (n : Nat) (hv : Value.okWide Tryd.prog W r b0 26 v)
    (h : DataW.Trod enc Tryd.prog W 0 (fun _ => true) true 26 v d p) : ∃ u, JAt W W.heap.size n v u := by
  obtain ⟨v0, v1, v2, v3, v4, v5, y0, y1, y2, y3, y4, y5, m, rfl, -, -, h0, h1, h2, h3, h4, h5⟩ := open_agg6 Tryd.underlying26 (by kernel_rfl) cellsVal hv h
  exact opened n _ _ _ _ _ _ _ _ _ _ _ _ _ _ _ _ _ _ h0 h1 h2 h3 h4 h5
end Go.Proofs.YtmkdkcbkgngfdaaDoor
