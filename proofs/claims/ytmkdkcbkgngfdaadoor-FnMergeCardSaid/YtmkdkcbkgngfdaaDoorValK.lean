/- keys of a map, and sort.Strings. -/
import Derived.Test.YtmkdkcbkgngfdaaDoorIter
namespace Go.Proofs.YtmkdkcbkgngfdaaDoor
open Go.RowKit Go.Maps Go.Sort Go.Shelf
set_option linter.unusedVariables false

set_option maxHeartbeats 1000000 in
theorem sortStrings_any (blk off cap : Nat) (ss : List (List UInt8)) (w : World) (hH : Holds encStr w blk off ss.toArray) (hblk : blk < w.heap.size) (hsz : ss.length < 4611686018427387904) :
    Calls Tryd.prog 102 #[.slice (some ⟨blk, off, none⟩) ss.length cap] w fun e w' =>
      e = .returned (.tuple #[]) ∧ ∃ n os, w' = grow (putRow encStr (Sort.ahead w n) blk off (ss.mergeSort fun x y => decide (x ≤ y)).toArray) os := by
  have hc := hide (AnyM.slices_Sort_string Tryd.sort114 blk off cap ss w hH hblk hsz)
  go_enter Tryd.func102, Tryd.ntmps102
  go_wp2_with (go_at_call 114; refine hc.out.mono ?_; rintro e w' ⟨rfl, h⟩)
  go_end0
  exact ⟨rfl, h⟩
end Go.Proofs.YtmkdkcbkgngfdaaDoor
