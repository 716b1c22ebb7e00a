/- Small lemmas of the laws. -/
import Derived.Test.YtbnbemacljjimaaGreatDoorSays
namespace Go.Proofs.YtbnbemacljjimaaGreatDoor
open Go.RowKit
set_option linter.unusedVariables false

theorem Tabs.more {w : World} {B B' : Nat} (h : Tabs w B) (hB : B ≤ B') : Tabs w B' := ⟨h.1, by have := h.2.1; omega, by have := h.2.2; omega⟩

/-- One value in a block of its own, as a row of one. -/
theorem one_row {w : World} {g B n : Nat} {v : JV} {t : TypeId} {c0 c1 c2 c3 c4 c5 : Value} (hb : Blk w g t #[c0, c1, c2, c3, c4, c5]) (hg : g < B) (hx : JAt w B n (.agg #[c0, c1, c2, c3, c4, c5]) v) :
    VecAt (JAt w B n) w B (some ⟨g, 0, none⟩) [v] := by
  intro _
  refine ⟨g, 0, rfl, hg, fun i y hy => ?_⟩
  rcases i with _ | i
  · have e : v = y := by simpa using hy
    subst e
    exact ⟨c0, c1, c2, c3, c4, c5, hb.cell 0, hb.cell 1, hb.cell 2, hb.cell 3, hb.cell 4, hb.cell 5, hx⟩
  · simp at hy

theorem below_undrew {B : Nat} {w w' : World} (h : Below B w.drew w') : Below B w w' := (Below.refl _ _).drew.trans h

theorem ResAt.shape {w : World} {B n : Nat} {r : Value} {v : JV} {z : Int} (h : ResAt w B n r v z) : ∃ la lc ka kc va vc, r = .agg #[.int .i64 v.kind, .int .i64 v.half, .string v.text, .slice la v.list.length lc, .slice ka v.keys.length kc, .slice va v.vals.length vc, .int .i64 z] := by
  obtain ⟨c0, c1, c2, c3, c4, c5, rfl, h⟩ := h
  obtain ⟨la, lc, ka, kc, va, vc, e, -⟩ := h
  simp at e
  obtain ⟨rfl, rfl, rfl, rfl, rfl, rfl⟩ := e
  exact ⟨_, _, _, _, _, _, rfl⟩

end Go.Proofs.YtbnbemacljjimaaGreatDoor
