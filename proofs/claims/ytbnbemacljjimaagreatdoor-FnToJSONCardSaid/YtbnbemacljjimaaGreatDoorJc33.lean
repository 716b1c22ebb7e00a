/- What each row of this seat asks beside the law: the tables, the argument, the witness. -/
import Derived.Test.YtbnbemacljjimaaGreatDoorJc04
import Derived.Test.YtbnbemacljjimaaGreatDoorCards
import Derived.Test.YtbnbemacljjimaaGreatDoorTie
import Derived.Lib.LaidU8T
import Derived.PinnedBridge
import Derived.Lay
import Derived.ProofKit
namespace Go.Proofs.YtbnbemacljjimaaGreatDoor
open Go.ChangeShapes Go.WideShapes Go.ChangeAt Go.RowKit Go.Deep
set_option linter.unusedVariables false

abbrev seatLaid : List (String × DataW Unit) := Rows.fnFormatCSVRow.laid

theorem own : ownKnob Tryz.prog.godebug = none := by kernel_rfl
theorem laidOut : laidOutB Tryz.prog = true := by kernel_rfl
theorem accept_eq : (Rows.laid_unicode_utf8_acceptRanges : DataW Unit) = Lib.acceptData := by kernel_rfl
theorem first_eq : Rows.laid_unicode_utf8_first = Lib.firstData := Pinned.utf8First_eq

theorem tabs_of {W : World} (h : laidMetH Tryz.prog seatLaid W) : Tabs W W.heap.size := by
  rw [MakeChecks.laidMetH_plain _ _ _ (by kernel_rfl)] at h
  have hU : Lib.Utf8Tabs 0 1 W :=
    utf8Tabs_of_readsT (ρ := Tryz.lays196_ren) (U8Types.of196 Tryz.lays196) ⟨by kernel_rfl, by kernel_rfl, by kernel_rfl, by kernel_rfl, by kernel_rfl, by kernel_rfl, by kernel_rfl⟩ (first_eq ▸ Lib.laidMet.reads h (.tail _ (.head _))) (accept_eq ▸ Lib.laidMet.reads h (.head _))
  refine ⟨hU, ?_, ?_⟩
  · exact World.block_lt_of_cell? (a := ⟨0, 0, none⟩) _ (hU.1 0 (by decide))
  · exact World.block_lt_of_cell? (a := ⟨1, 0, none⟩) _ (hU.2 0 (by decide)).1

set_option maxRecDepth 100000 in
theorem laid_start (os : Os) (args : Array Value) : laidMetH Tryz.prog seatLaid ((World.laidAll Tryz.prog os seatLaid).forCall (fun _ _ => 0) ⟨#[], args, []⟩).memory := by
  rw [MakeChecks.laidMetH_plain _ _ _ (by kernel_rfl)]
  exact laidMet_laidAll _ (by kernel_rfl) (by kernel_rfl)

set_option maxRecDepth 100000 in
/-- One argument that is a value. -/
theorem open_val {H : Type} {enc : TypeId × Value → H} {W : World} {r : Reach} {b0 : Nat} {v : Value} {d : DataW H} {p : List MemPlace} (n : Nat) (hv : Value.okWide Tryz.prog W r b0 26 v)
    (h : DataW.Trod enc Tryz.prog W 0 (fun _ => true) true 26 v d p) (hw : Wt Tryz.prog 26 d) : ∃ u, JAt W W.heap.size n v u ∧ Light n u := by
  obtain ⟨v0, v1, v2, v3, v4, v5, y0, y1, y2, y3, y4, y5, m, rfl, rfl, -, h0, h1, h2, h3, h4, h5⟩ := open_agg6 Tryz.underlying26 (by kernel_rfl) cellsVal hv h
  have u := fun {j : Nat} {f : Field} {x : DataW H} (hf : _) (hx : _) => hw.part Tryz.underlying26 (j := j) (f := f) (d := x) hf hx
  exact opened n _ _ _ _ _ _ _ _ _ _ _ _ _ _ _ _ _ _ h0 h1 h2 h3 h4 h5 (u (j := 2) rfl rfl) (u (j := 3) rfl rfl) (u (j := 4) rfl rfl) (u (j := 5) rfl rfl)
end Go.Proofs.YtbnbemacljjimaaGreatDoor
