/- told, walked. -/
import Derived.Test.YtbnbemacljjimaaGreatDoorSays
namespace Go.Proofs.YtbnbemacljjimaaGreatDoor
open Go.RowKit
set_option linter.unusedVariables false

set_option maxHeartbeats 1000000 in
set_option maxRecDepth 100000 in
theorem toldV_same (n : Nat) (w : World) (B : Nat) (r y : Value) (v : JV) (hr : ResAt w B n r v 0) (hy : JAt w B (n + 1) y v) (hs : Say (n + 1) v) (hB : B ≤ w.heap.size) :
    Calls Tryz.prog 40 #[r, y, .int .i64 0] w fun e w' => e = .returned (.bool true) ∧ Below w.heap.size w w' := by
  obtain ⟨c0, c1, c2, c3, c4, c5, rfl, hx⟩ := hr
  have hy' := hide hy
  obtain ⟨la, lc, ka, kc, va, vc, rfl, -⟩ := hy
  obtain ⟨W, hW⟩ : ∃ W, W = (w.alloc (.cells #[c0, c1, c2, c3, c4, c5, .int .i64 0] 35)).alloc (.cells #[.int .i64 v.kind, .int .i64 v.half, .string v.text, .slice la v.list.length lc, .slice ka v.keys.length kc, .slice va v.vals.length vc] 26) := ⟨_, rfl⟩
  have bW : Below w.heap.size w W := by rw [hW]; exact Below.alloc (Below.alloc (Below.refl _ _) (Nat.le_refl _) _) (by simp) _
  have hfr : ∀ p : Addr, p.block < B → W.cell? p = w.cell? p := fun p hp => bW.cell (by omega)
  have hBW := Nat.le_trans hB bW.size
  have hc := hide (same_any (n + 1) W B _ _ v (JAt.keep hfr (Nat.le_refl _) _ _ _ hx) (JAt.keep hfr (Nat.le_refl _) _ _ _ hy'.out) hs hBW)
  replace bW := hide bW
  clear hfr hs hx hy'
  go_enter Tryz.func40, Tryz.ntmps40
  go_wp2_with fail
  rw [← hW]
  clear hW
  refine hc.out.mono ?_
  rintro e W2 ⟨rfl, hb2⟩
  replace hb2 := hide (bW.out.trans (hb2.mono bW.out.size))
  go_wp2
  go_ret
  exact ⟨rfl, hb2.out⟩

set_option maxHeartbeats 1000000 in
set_option maxRecDepth 100000 in
theorem toldV_raise (n : Nat) (w : World) (B : Nat) (r : Value) (v : JV) (c0 c1 c2 c3 c4 c5 : Value) (hr : ResAt w B n r v 1) :
    Calls Tryz.prog 40 #[r, .agg #[c0, c1, c2, c3, c4, c5], .int .i64 1] w fun e w' => e = .returned (.bool true) ∧ Below w.heap.size w w' := by
  obtain ⟨d0, d1, d2, d3, d4, d5, rfl, -⟩ := hr
  go_enter Tryz.func40, Tryz.ntmps40
  go_wp2
  go_ret
  exact ⟨rfl, Below.alloc (Below.alloc (Below.refl _ _) (Nat.le_refl _) _) (by simp) _⟩

end Go.Proofs.YtbnbemacljjimaaGreatDoor
