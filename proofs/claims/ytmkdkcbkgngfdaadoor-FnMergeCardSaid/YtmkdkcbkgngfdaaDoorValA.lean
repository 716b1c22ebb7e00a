/- What the law of Values asks beside the door: Each, array, told. -/
import Derived.Test.YtmkdkcbkgngfdaaDoorSays
namespace Go.Proofs.YtmkdkcbkgngfdaaDoor
open Go.RowKit
set_option linter.unusedVariables false

set_option maxHeartbeats 1000000 in
set_option maxRecDepth 100000 in
theorem toldV_same (n : Nat) (w : World) (B : Nat) (r y : Value) (v : JV) (hr : ResAt w B n r v 0) (hy : JAt w B (n + 1) y v) (hs : Say (n + 1) v) (hB : B ≤ w.heap.size) :
    Calls Tryd.prog 16 #[r, y, .int .i64 0] w fun e w' => e = .returned (.bool true) ∧ Below w.heap.size w w' := by
  obtain ⟨c0, c1, c2, c3, c4, c5, rfl, hx⟩ := hr
  have hy' := hide hy
  obtain ⟨la, lc, ka, kc, va, vc, rfl, -⟩ := hy
  obtain ⟨W, hW⟩ : ∃ W, W = (w.alloc (.cells #[c0, c1, c2, c3, c4, c5, .int .i64 0] 30)).alloc (.cells #[.int .i64 v.kind, .int .i64 v.half, .string v.text, .slice la v.list.length lc, .slice ka v.keys.length kc, .slice va v.vals.length vc] 26) := ⟨_, rfl⟩
  have bW : Below w.heap.size w W := by rw [hW]; exact Below.alloc (Below.alloc (Below.refl _ _) (Nat.le_refl _) _) (by simp) _
  have hfr : ∀ p : Addr, p.block < B → W.cell? p = w.cell? p := fun p hp => bW.cell (by omega)
  have hBW := Nat.le_trans hB bW.size
  have hc := hide (same_any (n + 1) W B _ _ v (JAt.keep hfr (Nat.le_refl _) _ _ _ hx) (JAt.keep hfr (Nat.le_refl _) _ _ _ hy'.out) hs hBW)
  replace bW := hide bW
  clear hfr hs hx hy'
  go_enter Tryd.func16, Tryd.ntmps16
  go_wp2_with fail
  rw [← hW]
  clear hW
  refine hc.out.mono ?_
  rintro e W2 ⟨rfl, hb2⟩
  replace hb2 := hide (bW.out.trans (hb2.mono bW.out.size))
  go_wp2
  go_ret
  exact ⟨rfl, hb2.out⟩

set_option maxHeartbeats 1000000 in
set_option maxRecDepth 100000 in
theorem toldV_raise (n : Nat) (w : World) (B : Nat) (r : Value) (v : JV) (c0 c1 c2 c3 c4 c5 : Value) (hr : ResAt w B n r v 1) :
    Calls Tryd.prog 16 #[r, .agg #[c0, c1, c2, c3, c4, c5], .int .i64 1] w fun e w' => e = .returned (.bool true) ∧ Below w.heap.size w w' := by
  obtain ⟨d0, d1, d2, d3, d4, d5, rfl, -⟩ := hr
  go_enter Tryd.func16, Tryd.ntmps16
  go_wp2
  go_ret
  exact ⟨rfl, Below.alloc (Below.alloc (Below.refl _ _) (Nat.le_refl _) _) (by simp) _⟩

set_option maxHeartbeats 1000000 in
theorem array_any (w : World) (A : Option Addr) (m c : Nat) : Calls Tryd.prog 21 #[.slice A m c] w fun e w' => e = .returned (.agg #[.int .i64 5, .int .i64 0, .string ⟨#[]⟩, .slice A m c, .slice none 0 0, .slice none 0 0]) ∧ Below w.heap.size w w' := by
  go_enter Tryd.func21, Tryd.ntmps21
  go_wp2
  exact bodyPost_ret (v := .agg #[.int .i64 5, .int .i64 0, .string ⟨#[]⟩, .slice A m c, .slice none 0 0, .slice none 0 0]) (by simp [results, Tryd.results21, go_sem]) rfl ⟨rfl, (Below.refl _ _).alloc (Nat.le_refl _) _⟩

/-- What Each hands back. -/
def eachOf (k : Int) (lv vv : Value) : Value := if k = 5 then .tuple #[lv, .int .i64 0] else if k = 6 then .tuple #[vv, .int .i64 0] else if k = 7 then .tuple #[.slice none 0 0, .int .i64 2] else .tuple #[.slice none 0 0, .int .i64 1]

set_option maxHeartbeats 1000000 in
theorem each_any (w : World) (k h : Int) (s : ByteArray) (la ka va : Option Addr) (l lc m kc p vc : Nat) :
    Calls Tryd.prog 19 #[.agg #[.int .i64 k, .int .i64 h, .string s, .slice la l lc, .slice ka m kc, .slice va p vc]] w fun e w' => e = .returned (eachOf k (.slice la l lc) (.slice va p vc)) ∧ Below w.heap.size w w' := by
  unfold eachOf
  by_cases h5 : k = 5
  · subst h5
    go_enter Tryd.func19, Tryd.ntmps19
    go_wp2
    exact bodyPost_ret (by simp [results, Tryd.results19, go_sem]) rfl ⟨rfl, (Below.refl _ _).alloc (Nat.le_refl _) _⟩
  by_cases h6 : k = 6
  · subst h6
    go_enter Tryd.func19, Tryd.ntmps19
    go_wp2
    exact bodyPost_ret (by simp [results, Tryd.results19, go_sem]) rfl ⟨rfl, (Below.refl _ _).alloc (Nat.le_refl _) _⟩
  by_cases h7 : k = 7
  · subst h7
    go_enter Tryd.func19, Tryd.ntmps19
    go_wp2
    exact bodyPost_ret (by simp [results, Tryd.results19, go_sem]) rfl ⟨rfl, (Below.refl _ _).alloc (Nat.le_refl _) _⟩
  rw [if_neg h5, if_neg h6, if_neg h7]
  go_enter Tryd.func19, Tryd.ntmps19
  go_wp2
  exact bodyPost_ret (by simp [results, Tryd.results19, go_sem]) rfl ⟨rfl, (Below.refl _ _).alloc (Nat.le_refl _) _⟩
end Go.Proofs.YtmkdkcbkgngfdaaDoor
