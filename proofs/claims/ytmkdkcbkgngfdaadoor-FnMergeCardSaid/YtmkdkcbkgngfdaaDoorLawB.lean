/- The law of ByteLength. -/
import Derived.Test.YtmkdkcbkgngfdaaDoorSays
namespace Go.Proofs.YtmkdkcbkgngfdaaDoor
open Go.RowKit
set_option linter.unusedVariables false

theorem Tabs.more {w : World} {B B' : Nat} (h : Tabs w B) (hB : B ≤ B') : Tabs w B' := ⟨h.1, by have := h.2.1; omega, by have := h.2.2; omega⟩

/-- One value in a block of its own, as a row of one. -/
theorem one_row {w : World} {g B n : Nat} {v : JV} {t : TypeId} {c0 c1 c2 c3 c4 c5 : Value} (hb : Blk w g t #[c0, c1, c2, c3, c4, c5]) (hg : g < B) (hx : JAt w B n (.agg #[c0, c1, c2, c3, c4, c5]) v) :
    VecAt (JAt w B n) w B (some ⟨g, 0, none⟩) [v] := by
  intro _
  refine ⟨g, 0, rfl, hg, fun i y hy => ?_⟩
  rcases i with _ | i
  · have e : v = y := by simpa using hy
    subst e
    exact ⟨c0, c1, c2, c3, c4, c5, hb.cell 0, hb.cell 1, hb.cell 2, hb.cell 3, hb.cell 4, hb.cell 5, hx⟩
  · simp at hy

theorem below_undrew {B : Nat} {w w' : World} (h : Below B w.drew w') : Below B w w' := (Below.refl _ _).drew.trans h

theorem ResAt.shape {w : World} {B n : Nat} {r : Value} {v : JV} {z : Int} (h : ResAt w B n r v z) : ∃ la lc ka kc va vc, r = .agg #[.int .i64 v.kind, .int .i64 v.half, .string v.text, .slice la v.list.length lc, .slice ka v.keys.length kc, .slice va v.vals.length vc, .int .i64 z] := by
  obtain ⟨c0, c1, c2, c3, c4, c5, rfl, h⟩ := h
  obtain ⟨la, lc, ka, kc, va, vc, e, -⟩ := h
  simp at e
  obtain ⟨rfl, rfl, rfl, rfl, rfl, rfl⟩ := e
  exact ⟨_, _, _, _, _, _, rfl⟩

set_option maxHeartbeats 4000000 in
set_option maxRecDepth 100000 in
theorem lawByteLength_any (w : World) (B : Nat) (x : Value) (v : JV) (hx : JAt w B 62 x v) (hT : Tabs w B) (hB : B ≤ w.heap.size) :
    Calls Tryd.prog 3 #[x] w fun e w' => e = .returned (.bool true) ∧ Below w.heap.size w w' := by
  have hx' := hide hx
  obtain ⟨la, lc, ka, kc, va, vc, rfl, -, -, -, -, -, -, htx, -⟩ := hx
  obtain ⟨W, hW⟩ : ∃ W, W = w.alloc (.cells #[.int .i64 v.kind, .int .i64 v.half, .string v.text, .slice la v.list.length lc, .slice ka v.keys.length kc, .slice va v.vals.length vc] 26) := ⟨_, rfl⟩
  have bW : Below w.heap.size w W := by rw [hW]; exact Below.alloc (Below.refl _ _) (Nat.le_refl _) _
  have kW : Blk W w.heap.size 26 #[.int .i64 v.kind, .int .i64 v.half, .string v.text, .slice la v.list.length lc, .slice ka v.keys.length kc, .slice va v.vals.length vc] := by rw [hW]; exact Blk.new w _ _
  have hB1 : B ≤ w.heap.size + 1 := by omega
  have hxW : JAt W (w.heap.size + 1) 62 _ v := JAt.keep (fun p hp => bW.cell (by omega)) hB1 62 _ _ hx'.out
  have hTW : Tabs W (w.heap.size + 1) := (hT.keep (fun p hp => bW.cell (by omega))).more hB1
  have hlt := kW.lt
  have kx : ∀ W', Below W.heap.size W W' → JAt W' (w.heap.size + 1) 62 (.agg #[.int .i64 v.kind, .int .i64 v.half, .string v.text, .slice la v.list.length lc, .slice ka v.keys.length kc, .slice va v.vals.length vc]) v := fun W' h => JAt.keep (fun p hp => h.cell (by omega)) (Nat.le_refl _) 62 _ _ hxW
  have kT : ∀ W', Below W.heap.size W W' → Tabs W' (w.heap.size + 1) := fun W' h => hTW.keep (fun p hp => h.cell (by omega))
  have kk : ∀ W', Below W.heap.size W W' → Blk W' w.heap.size 26 #[.int .i64 v.kind, .int .i64 v.half, .string v.text, .slice la v.list.length lc, .slice ka v.keys.length kc, .slice va v.vals.length vc] := fun W' h => kW.below h hlt
  clear hx' hT hTW
  replace kx := hide kx
  replace kT := hide kT
  replace kk := hide kk
  replace bW := hide bW
  replace hxW := hide hxW
  obtain ⟨q0, q1, q2, q3, q4, q5⟩ := blk_six kW
  replace kW := hide kW
  go_enter Tryd.func3, Tryd.ntmps3
  go_upto_region 1 with fail
  rw [← hW]
  clear hW
  go_wp2_with fail
  refine (zzfits_any W (w.heap.size + 1) 61 _ v hlt hxW.out).mono ?_
  rintro e W1 ⟨b, rfl, b1⟩
  cases b
  · replace b1 := hide b1
    go_wp2_with fail
    go_ret
    exact ⟨rfl, bW.out.trans (b1.out.mono bW.out.size)⟩
  obtain ⟨q0, q1, q2, q3, q4, q5⟩ := blk_six (kk.out W1 b1)
  obtain ⟨W2, hW2⟩ : ∃ W2, W2 = W1.alloc (.cells #[.int .i64 v.kind, .int .i64 v.half, .string v.text, .slice la v.list.length lc, .slice ka v.keys.length kc, .slice va v.vals.length vc] 26) := ⟨_, rfl⟩
  have b2 : Below W.heap.size W W2 := by rw [hW2]; exact Below.alloc b1 b1.size _
  have k2 : Blk W2 W1.heap.size 26 #[.int .i64 v.kind, .int .i64 v.half, .string v.text, .slice la v.list.length lc, .slice ka v.keys.length kc, .slice va v.vals.length vc] := by rw [hW2]; exact Blk.new W1 _ _
  have hf := hide (fine_any W2 W2.heap.size (some ⟨W1.heap.size, 0, none⟩) 1 [v] ((kT.out W2 b2).more (by have := b2.size; omega)) (Nat.le_refl _) (by simp) (by omega) (one_row k2 k2.lt (JAt.keep (fun p hp => rfl) (by have := b2.size; omega) 62 _ _ (kx.out W2 b2))))
  have hs12 := hide b1.size
  replace b1 := hide b1
  replace b2 := hide b2
  replace k2 := hide k2
  go_wp2_with fail
  rw [← hW2]
  clear hW2
  refine hf.out.mono ?_
  rintro e W3 ⟨b', rfl, b3, hgood⟩
  have b13 := hide (b2.out.trans (b3.mono b2.out.size))
  have s23 := hide b3.size
  clear b3
  cases b'
  · clear hgood
    go_wp2_with fail
    go_ret
    exact ⟨rfl, bW.out.trans (b13.out.mono bW.out.size)⟩
  obtain ⟨hgd, hsz⟩ := hgood rfl v (by simp)
  obtain ⟨q0, q1, q2, q3, q4, q5⟩ := blk_six (kk.out W3 b13.out)
  have hc := hide (byteLength_any 61 W3 (w.heap.size + 1) _ v (kx.out W3 b13.out) hgd hsz (by have := b13.out.size; omega))
  replace hgd := hide hgd
  clear hgood
  go_wp2_with fail
  refine hc.out.mono ?_
  rintro e W4 ⟨r, rfl, b4, hr1, hr2⟩
  have b14 := hide (b13.out.trans (b4.mono b13.out.size))
  clear b4
  obtain ⟨q0, q1, q2, q3, q4, q5⟩ := blk_six (kk.out W4 b14.out)
  have hl4 : w.heap.size < W4.heap.size := (kk.out W4 b14.out).lt
  by_cases hk : v.kind = 4
  · have hr := hr1 hk
    clear hr1 hr2
    rw [hk] at q0
    replace hk := hide hk
    obtain ⟨u, hu⟩ : ∃ u, u = numJ (2 * v.text.size) := ⟨_, rfl⟩
    rw [← hu] at hr
    obtain ⟨la', lc', ka', kc', va', vc', rfl⟩ := hr.shape
    have hus : Say 62 u := by rw [hu]; exact num_say 61 _ (by omega) (Or.inl (Int.mul_tmod_right 2 _))
    have huy : ∀ W6 : World, JAt W6 W4.heap.size 62 (.agg #[.int .i64 3, .int .i64 (2 * v.text.size), .string ⟨#[]⟩, .slice none 0 0, .slice none 0 0, .slice none 0 0]) u := fun W6 => by rw [hu]; exact num_jat W6 _ 61 _ (by omega)
    clear hu
    obtain ⟨W5, hW5⟩ : ∃ W5, W5 = W4.alloc (.cells #[.int .i64 u.kind, .int .i64 u.half, .string u.text, .slice la' u.list.length lc', .slice ka' u.keys.length kc', .slice va' u.vals.length vc', .int .i64 0] 30) := ⟨_, rfl⟩
    have b45 : Below W4.heap.size W4 W5 := by rw [hW5]; exact Below.alloc (Below.refl _ _) (Nat.le_refl _) _
    have k5 := Blk.new W4 30 #[.int .i64 u.kind, .int .i64 u.half, .string u.text, .slice la' u.list.length lc', .slice ka' u.keys.length kc', .slice va' u.vals.length vc', .int .i64 0]
    rw [← hW5] at k5
    have hS := hide (fun (W6 : World) (h1 : ∀ p : Addr, p.block < W5.heap.size → W6.cell? p = W5.cell? p) (h2 : W5.heap.size ≤ W6.heap.size) => says_any 61 W6 W4.heap.size _ _ u (hr.keep (fun p hp => (h1 p (by have := b45.size; omega)).trans (b45.cell hp)) (Nat.le_refl _)) (huy W6) hus (Nat.le_trans b45.size h2))
    have b15 := hide (b14.out.trans (b45.mono b14.out.size))
    obtain ⟨p0, p1, p2, p3, p4, p5⟩ := blk_six (kk.out W5 b15.out)
    obtain ⟨r0, r1, r2, r3, r4, r5, r6⟩ := blk_seven k5
    replace b45 := hide b45
    have hl5 := k5.lt
    replace k5 := hide k5
    replace hr := hide hr
    replace hus := hide hus
    replace huy := hide huy
    go_upto_region 8 with fail
    rw [← hW5]
    clear hW5
    go_region_with (first
      | (go_at_call 13; refine (specNum_any _ v.text.size (by omega)).mono ?_; rintro e W6 ⟨rfl, b6⟩; have z0 := (b6.cell (p := ⟨W4.heap.size, 0, none⟩) hl5).trans r0; have z1 := (b6.cell (p := ⟨W4.heap.size, 1, none⟩) hl5).trans r1; have z2 := (b6.cell (p := ⟨W4.heap.size, 2, none⟩) hl5).trans r2; have z3 := (b6.cell (p := ⟨W4.heap.size, 3, none⟩) hl5).trans r3; have z4 := (b6.cell (p := ⟨W4.heap.size, 4, none⟩) hl5).trans r4; have z5 := (b6.cell (p := ⟨W4.heap.size, 5, none⟩) hl5).trans r5; have z6 := (b6.cell (p := ⟨W4.heap.size, 6, none⟩) hl5).trans r6; have b6' := hide b6; clear b6)
      | (go_at_call 12; refine (hS.out _ (fun p hp => b6'.out.cell hp) b6'.out.size).mono ?_; rintro e W7 ⟨rfl, b7⟩))
    all_goals
      have b6u : Below W5.heap.size W5 W6 := by
        first
        | exact b6'.out
        | exact below_undrew b6'.out
        | exact below_undrew (below_undrew b6'.out)
        | exact below_undrew (below_undrew (below_undrew b6'.out))
      have b7u : Below W6.heap.size W6 W7 := by
        first
        | exact b7
        | exact below_undrew b7
        | exact below_undrew (below_undrew b7)
        | exact below_undrew (below_undrew (below_undrew b7))
      have b17 := hide (b15.out.trans ((b6u.trans (b7u.mono b6u.size)).mono b15.out.size))
      clear b6u b7u b7
      go_wp2
      go_ret
      exact ⟨rfl, bW.out.trans (b17.out.mono bW.out.size)⟩
  · have hr := hr2 hk
    obtain ⟨la', lc', ka', kc', va', vc', rfl⟩ := hr.shape
    replace hr := hide hr
    clear hr1 hr2
    go_wp2_with fail
    refine (wrong_any 61 _ W4.heap.size _ (hr.out.keep (fun p hp => World.cell?_alloc_lt _ _ _ hp) (Nat.le_refl _)) (by simp)).mono ?_
    rintro e W5 ⟨rfl, b5⟩
    have b15 := hide ((b14.out.alloc b14.out.size _).trans (b5.mono (by have := b14.out.size; simp; omega)))
    clear b5
    go_wp2
    go_ret
    exact ⟨rfl, bW.out.trans (b15.out.mono bW.out.size)⟩
end Go.Proofs.YtmkdkcbkgngfdaaDoor
