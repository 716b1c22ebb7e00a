/- The law of Abs. -/
import Derived.Test.YtmkdkcbkgngfdaaDoorAbsD
namespace Go.Proofs.YtmkdkcbkgngfdaaDoor
open Go.RowKit
set_option linter.unusedVariables false

theorem wrapm (h : Int) (hh : -18014398509481984 ≤ h ∧ h ≤ 18014398509481984) : IntKind.i64.wrap (-h) = -h := by rw [IntKind.wrap_i64]; omega

def NumSays (w : World) (v : JV) (e : Ending) (w' : World) : Prop := ∃ b, e = .returned (.bool b) ∧ Below w.heap.size w w' ∧ (b = true → Good 62 v ∧ v.kind = 3)

set_option maxHeartbeats 1000000 in
set_option maxRecDepth 100000 in
theorem num_any (w : World) (B : Nat) (x : Value) (v : JV) (hT : Tabs w B) (hB : B ≤ w.heap.size) (hx : JAt w B 62 x v) :
    Calls Tryd.prog 22 #[x, .int .i64 4503599627370496] w (NumSays w v) := by
  have hx' := hide hx
  obtain ⟨la, lc, ka, kc, va, vc, rfl, -⟩ := hx
  obtain ⟨W, hW⟩ : ∃ W, W = w.alloc (.cells #[.int .i64 v.kind, .int .i64 v.half, .string v.text, .slice la v.list.length lc, .slice ka v.keys.length kc, .slice va v.vals.length vc] 26) := ⟨_, rfl⟩
  have bW : Below w.heap.size w W := by rw [hW]; exact Below.alloc (Below.refl _ _) (Nat.le_refl _) _
  have kW : Blk W w.heap.size 26 #[.int .i64 v.kind, .int .i64 v.half, .string v.text, .slice la v.list.length lc, .slice ka v.keys.length kc, .slice va v.vals.length vc] := by rw [hW]; exact Blk.new w _ _
  have hxW : JAt W B 62 _ v := JAt.keep (fun p hp => bW.cell (by omega)) (Nat.le_refl _) 62 _ _ hx'.out
  have hTW : Tabs W B := hT.keep (fun p hp => bW.cell (by omega))
  have hlt := kW.lt
  have hsW := Nat.le_trans hB bW.size
  have hf := hide (fit_any W B _ v hTW hsW hxW)
  obtain ⟨q0, q1, q2, q3, q4, q5⟩ := blk_six kW
  replace kW := hide kW
  replace bW := hide bW
  clear hxW hTW hT hx'
  go_enter Tryd.func22, Tryd.ntmps22
  go_wp2_with fail
  rw [← hW]
  clear hW
  refine hf.out.mono ?_
  rintro e W1 ⟨b, rfl, b1, hg⟩
  obtain ⟨q0, q1, q2, q3, q4, q5⟩ := blk_six (kW.out.below b1 hlt)
  have b2 := hide (bW.out.trans (b1.mono bW.out.size))
  clear b1
  cases b
  · clear hg
    go_wp2_with fail
    go_ret
    exact ⟨false, rfl, b2.out, by simp⟩
  have hg' := hg rfl
  have hbd := hg'.2.2.2.2.2.2.1
  obtain ⟨m1, m2⟩ := hbd
  have m3 : (-9007199254740992 : Int) ≤ 0 := by decide
  replace hg' := hide hg'
  clear hg
  by_cases hk : v.kind = 3
  · rw [hk] at q0
    replace hk := hide hk
    go_wp2_with fail
    all_goals go_ret
    all_goals exact ⟨_, rfl, b2.out, fun _ => ⟨hg'.out, hk.out⟩⟩
  · go_wp2_with fail
    go_ret
    exact ⟨_, rfl, b2.out, fun h => by simp_all⟩

set_option maxHeartbeats 1000000 in
set_option maxRecDepth 100000 in
theorem told_same (n : Nat) (w : World) (B : Nat) (r y : Value) (v : JV) (hr : ResAt w B n r v 0) (hy : JAt w B (n + 1) y v) (hs : Say (n + 1) v) (hB : B ≤ w.heap.size) :
    Calls Tryd.prog 16 #[r, y, .int .i64 0] w fun e w' => e = .returned (.bool true) ∧ Below w.heap.size w w' := by
  obtain ⟨c0, c1, c2, c3, c4, c5, rfl, hx⟩ := hr
  have hy' := hide hy
  obtain ⟨la, lc, ka, kc, va, vc, rfl, -⟩ := hy
  obtain ⟨W, hW⟩ : ∃ W, W = (w.alloc (.cells #[c0, c1, c2, c3, c4, c5, .int .i64 0] 30)).alloc (.cells #[.int .i64 v.kind, .int .i64 v.half, .string v.text, .slice la v.list.length lc, .slice ka v.keys.length kc, .slice va v.vals.length vc] 26) := ⟨_, rfl⟩
  have bW : Below w.heap.size w W := by rw [hW]; exact Below.alloc (Below.alloc (Below.refl _ _) (Nat.le_refl _) _) (by simp) _
  have hfr : ∀ p : Addr, p.block < B → W.cell? p = w.cell? p := fun p hp => bW.cell (by omega)
  have hBW := Nat.le_trans hB bW.size
  have hc := hide (same_any (n + 1) W B _ _ v (JAt.keep hfr (Nat.le_refl _) _ _ _ hx) (JAt.keep hfr (Nat.le_refl _) _ _ _ hy'.out) hs hBW)
  replace bW := hide bW
  clear hfr hs hx hy'
  go_enter Tryd.func16, Tryd.ntmps16
  go_wp2_with fail
  rw [← hW]
  clear hW
  refine hc.out.mono ?_
  rintro e W2 ⟨rfl, hb2⟩
  replace hb2 := hide (bW.out.trans (hb2.mono bW.out.size))
  go_wp2
  go_ret
  exact ⟨rfl, hb2.out⟩

set_option maxHeartbeats 1000000 in
set_option maxRecDepth 100000 in
theorem given_any (n : Nat) (w : World) (B : Nat) (r y : Value) (v : JV) (hr : ResAt w B n r v 0) (hy : JAt w B (n + 1) y v) (hs : Say (n + 1) v) (hB : B ≤ w.heap.size) :
    Calls Tryd.prog 23 #[r, y] w fun e w' => e = .returned (.bool true) ∧ Below w.heap.size w w' := by
  obtain ⟨la', lc', ka', kc', va', vc', rfl⟩ := hr.shape
  have hy' := hide hy
  obtain ⟨la, lc, ka, kc, va, vc, rfl, -⟩ := hy
  obtain ⟨W, hW⟩ : ∃ W, W = (w.alloc (.cells #[.int .i64 v.kind, .int .i64 v.half, .string v.text, .slice la' v.list.length lc', .slice ka' v.keys.length kc', .slice va' v.vals.length vc', .int .i64 0] 30)).alloc (.cells #[.int .i64 v.kind, .int .i64 v.half, .string v.text, .slice la v.list.length lc, .slice ka v.keys.length kc, .slice va v.vals.length vc] 26) := ⟨_, rfl⟩
  have bW : Below w.heap.size w W := by rw [hW]; exact Below.alloc (Below.alloc (Below.refl _ _) (Nat.le_refl _) _) (by simp) _
  have hfr : ∀ p : Addr, p.block < B → W.cell? p = w.cell? p := fun p hp => bW.cell (by omega)
  have hBW := Nat.le_trans hB bW.size
  have hc := hide (told_same n W B _ _ v (ResAt.keep hfr (Nat.le_refl _) hr) (JAt.keep hfr (Nat.le_refl _) _ _ _ hy'.out) hs hBW)
  replace bW := hide bW
  clear hfr hs hr hy'
  go_enter Tryd.func23, Tryd.ntmps23
  go_wp2_with fail
  rw [← hW]
  clear hW
  refine hc.out.mono ?_
  rintro e W2 ⟨rfl, hb2⟩
  replace hb2 := hide (bW.out.trans (hb2.mono bW.out.size))
  go_wp2
  go_ret
  exact ⟨rfl, hb2.out⟩
end Go.Proofs.YtmkdkcbkgngfdaaDoor
