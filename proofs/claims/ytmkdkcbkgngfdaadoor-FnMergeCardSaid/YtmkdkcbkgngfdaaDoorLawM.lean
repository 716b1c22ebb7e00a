/- The law of Merge, walked (printed by mklawm.py). -/
import Derived.Test.YtmkdkcbkgngfdaaDoorMrgZ
import Derived.Test.YtmkdkcbkgngfdaaDoorMrgE
import Derived.Test.YtmkdkcbkgngfdaaDoorValA
namespace Go.Proofs.YtmkdkcbkgngfdaaDoor
open Go.RowKit Go.Maps Go.Sort
set_option linter.unusedVariables false

set_option maxHeartbeats 8000000 in
set_option maxRecDepth 100000 in
theorem lawMerge_any (w : World) (B : Nat) (a b : Value) (x y : JV) (hx : JAt w B 62 a x) (hy : JAt w B 62 b y) (hT : Tabs w B) (hB : B ≤ w.heap.size) :
    Calls Tryd.prog 4 #[a, b] w fun e w' => e = .returned (.bool true) ∧ Below w.heap.size w w' := by
  have hx' := hide hx
  have hy' := hide hy
  obtain ⟨la, lc, ka, kc, va, vc, rfl, -⟩ := hx
  obtain ⟨la2, lc2, ka2, kc2, va2, vc2, rfl, -⟩ := hy
  obtain ⟨Wa, hWa⟩ : ∃ Wa, Wa = w.alloc (.cells #[.int .i64 x.kind, .int .i64 x.half, .string x.text, .slice la x.list.length lc, .slice ka x.keys.length kc, .slice va x.vals.length vc] 26) := ⟨_, rfl⟩
  obtain ⟨W, hW⟩ : ∃ W, W = Wa.alloc (.cells #[.int .i64 y.kind, .int .i64 y.half, .string y.text, .slice la2 y.list.length lc2, .slice ka2 y.keys.length kc2, .slice va2 y.vals.length vc2] 26) := ⟨_, rfl⟩
  have sa : Wa.heap.size = w.heap.size + 1 := by rw [hWa]; simp
  have sW : W.heap.size = w.heap.size + 2 := by rw [hW]; simp [sa]
  have bW : Below w.heap.size w W := by rw [hW, hWa]; exact Below.alloc (Below.alloc (Below.refl _ _) (Nat.le_refl _) _) (by simp) _
  have kX : Blk W w.heap.size 26 #[.int .i64 x.kind, .int .i64 x.half, .string x.text, .slice la x.list.length lc, .slice ka x.keys.length kc, .slice va x.vals.length vc] := by rw [hW, hWa]; exact (Blk.new w _ _).alloc _
  have kY : Blk W (w.heap.size + 1) 26 #[.int .i64 y.kind, .int .i64 y.half, .string y.text, .slice la2 y.list.length lc2, .slice ka2 y.keys.length kc2, .slice va2 y.vals.length vc2] := by
    have h := Blk.new Wa 26 #[.int .i64 y.kind, .int .i64 y.half, .string y.text, .slice la2 y.list.length lc2, .slice ka2 y.keys.length kc2, .slice va2 y.vals.length vc2]
    rw [← hW, sa] at h
    exact h
  rw [hWa] at hW
  have kx : ∀ W', Below W.heap.size W W' → JAt W' B 62 (.agg #[.int .i64 x.kind, .int .i64 x.half, .string x.text, .slice la x.list.length lc, .slice ka x.keys.length kc, .slice va x.vals.length vc]) x := fun W' h => JAt.keep (fun p hp => (h.cell (by omega)).trans (bW.cell (by omega))) (Nat.le_refl _) 62 _ _ hx'.out
  have ky : ∀ W', Below W.heap.size W W' → JAt W' B 62 (.agg #[.int .i64 y.kind, .int .i64 y.half, .string y.text, .slice la2 y.list.length lc2, .slice ka2 y.keys.length kc2, .slice va2 y.vals.length vc2]) y := fun W' h => JAt.keep (fun p hp => (h.cell (by omega)).trans (bW.cell (by omega))) (Nat.le_refl _) 62 _ _ hy'.out
  have kT : ∀ W', Below W.heap.size W W' → Tabs W' B := fun W' h => hT.keep (fun p hp => (h.cell (by omega)).trans (bW.cell (by omega)))
  have kk : ∀ W', Below W.heap.size W W' → Blk W' w.heap.size 26 #[.int .i64 x.kind, .int .i64 x.half, .string x.text, .slice la x.list.length lc, .slice ka x.keys.length kc, .slice va x.vals.length vc] ∧ Blk W' (w.heap.size + 1) 26 #[.int .i64 y.kind, .int .i64 y.half, .string y.text, .slice la2 y.list.length lc2, .slice ka2 y.keys.length kc2, .slice va2 y.vals.length vc2] := fun W' h => ⟨kX.below h kX.lt, kY.below h kY.lt⟩
  clear hx' hy' hT hWa sa
  obtain ⟨x0, x1, x2, x3, x4, x5⟩ := blk_six kX
  obtain ⟨y0, y1, y2, y3, y4, y5⟩ := blk_six kY
  have lx := kX.lt
  have ly := kY.lt
  replace kx := hide kx
  replace ky := hide ky
  replace kT := hide kT
  replace kk := hide kk
  replace bW := hide bW
  clear kX kY
  go_enter Tryd.func4, Tryd.ntmps4
  go_upto_region 1 with fail
  rw [← hW]
  clear hW
  go_wp2_with fail
  refine (zzfits_any W B 61 _ x (by omega) (kx.out W (Below.refl _ _))).mono ?_
  rintro e W1 ⟨r1, rfl, b1⟩
  obtain ⟨k1, k2⟩ := kk.out W1 b1
  clear x0 x1 x2 x3 x4 x5 y0 y1 y2 y3 y4 y5 lx ly
  obtain ⟨x0, x1, x2, x3, x4, x5⟩ := blk_six k1
  obtain ⟨y0, y1, y2, y3, y4, y5⟩ := blk_six k2
  have lx := k1.lt
  have ly := k2.lt
  replace b1 := hide b1
  clear k1 k2
  cases r1
  · go_wp2_with fail
    go_ret
    exact ⟨rfl, bW.out.trans (b1.out.mono bW.out.size)⟩
  go_wp2_with fail
  refine (zzfits_any W1 B 61 _ y (by have := b1.out.size; omega) (ky.out W1 b1.out)).mono ?_
  rintro e W2 ⟨r2, rfl, b2'⟩
  have b2 := hide (b1.out.trans (b2'.mono b1.out.size))
  clear b2'
  obtain ⟨k1, k2⟩ := kk.out W2 b2.out
  clear x0 x1 x2 x3 x4 x5 y0 y1 y2 y3 y4 y5 lx ly
  obtain ⟨x0, x1, x2, x3, x4, x5⟩ := blk_six k1
  obtain ⟨y0, y1, y2, y3, y4, y5⟩ := blk_six k2
  have lx := k1.lt
  have ly := k2.lt
  clear k1 k2
  cases r2
  · go_wp2_with fail
    go_ret
    exact ⟨rfl, bW.out.trans (b2.out.mono bW.out.size)⟩
  have hf := hide (fit2_any W2 B _ _ x y (kT.out W2 b2.out) (by have := b2.out.size; omega) (kx.out W2 b2.out) (ky.out W2 b2.out))
  go_wp2_with fail
  refine hf.out.mono ?_
  rintro e W3 ⟨r3, rfl, b3', hgood⟩
  have b3 := hide (b2.out.trans (b3'.mono b2.out.size))
  clear b3'
  obtain ⟨k1, k2⟩ := kk.out W3 b3.out
  clear x0 x1 x2 x3 x4 x5 y0 y1 y2 y3 y4 y5 lx ly
  obtain ⟨x0, x1, x2, x3, x4, x5⟩ := blk_six k1
  obtain ⟨y0, y1, y2, y3, y4, y5⟩ := blk_six k2
  have lx := k1.lt
  have ly := k2.lt
  clear k1 k2
  cases r3
  · clear hgood
    go_wp2_with fail
    go_ret
    exact ⟨rfl, bW.out.trans (b3.out.mono bW.out.size)⟩
  obtain ⟨hgx, hgy⟩ := hgood rfl
  have fx := Good.fine (kx.out W3 b3.out) hgx
  have fy := Good.fine (ky.out W3 b3.out) hgy
  clear hgood
  by_cases kx6 : x.kind = 6
  · by_cases ky6 : y.kind = 6
    · obtain ⟨TT, hTT⟩ : ∃ TT, TT = mapJ (mrgW (mvs 61) (prs x) (prs y)) := ⟨_, rfl⟩
      have hop := operate_any 61 W3 (· < B) _ _ x y (JP.of_jat 62 (kx.out W3 b3.out)) (JP.of_jat 62 (ky.out W3 b3.out)) fx fy kx6 ky6 (fun b hb => by have := b3.out.size; omega)
      have hsay := mrg_say 61 x y fx fy
      have hmg := fun (X : World) (h : Below W.heap.size W X) => doorMerge_any 61 X B _ _ x y (kx.out X h) (ky.out X h) hgx hgy kx6 ky6 (by have := h.size; omega)
      rw [← hTT] at hop hsay hmg
      have e6x := kx6
      have e6y := ky6
      rw [kx6] at x0
      rw [ky6] at y0
      replace hop := hide hop
      replace hsay := hide hsay
      replace hmg := hide hmg
      replace fx := hide fx
      replace fy := hide fy
      replace hgx := hide hgx
      replace hgy := hide hgy
      clear hTT
      replace e6x := hide e6x
      replace e6y := hide e6y
      have x0' := hide x0
      go_upto_region 5 with fail
      clear x0 y0
      have x0 : W3.cell? ⟨w.heap.size, 0, none⟩ = some (.int .i64 x.kind) := by rw [e6x.out]; exact x0'.out
      have y0 : W3.cell? ⟨w.heap.size + 1, 0, none⟩ = some (.int .i64 y.kind) := (kk.out W3 b3.out).2.cell 0
      clear kx6 ky6
      go_wp2_with fail
      refine hop.out.mono ?_
      rintro e W4 ⟨r, rfl, b4', hj⟩
      obtain ⟨c0, c1, c2, c3, c4, c5, rfl, h1⟩ := hj.six
      have b4 := hide (b3.out.trans (b4'.mono b3.out.size))
      have hjT := JP.jat (B := W4.heap.size) 62 (fun b hb => by rcases hb with hb | hb; have := b4.out.size; omega; exact hb.2) hj
      clear b4' hj
      obtain ⟨W5, hW5⟩ : ∃ W5, W5 = W4.alloc (.cells #[.int .i64 0, .int .i64 0, .string ⟨#[]⟩, .slice none 0 0, .slice none 0 0, .slice none 0 0] 26) := ⟨_, rfl⟩
      have b45 : Below W4.heap.size W4 W5 := by rw [hW5]; exact Below.alloc (Below.refl _ _) (Nat.le_refl _) _
      have k5 : Blk W5 W4.heap.size 26 #[.int .i64 0, .int .i64 0, .string ⟨#[]⟩, .slice none 0 0, .slice none 0 0, .slice none 0 0] := by rw [hW5]; exact Blk.new W4 _ _
      replace b45 := hide b45
      replace k5 := hide k5
      replace hjT := hide hjT
      replace h1 := hide h1
      go_wp2_with (rw [← hW5]; refine wpList_store_blk rfl 26 (.tmp 5) (.tmp 33) rfl W4.heap.size _ rfl rfl 26 _ k5.out val_size rfl h1.out ?_; intro W6 k6 o6 s6; have k6' := hide k6; have o6' := hide o6; have s6' := hide s6; clear k6 o6 s6)
      have b46 : Below W4.heap.size W4 W6 := b45.out.trans (o6'.out.below (by intro k hk; omega) b45.out.size)
      have b6 := hide (b4.out.trans (b46.mono b4.out.size))
      have hjT6 := JAt.keep (w' := W6) (fun p hp => b46.cell hp) (Nat.le_refl _) 62 _ _ hjT.out
      obtain ⟨k1, k2⟩ := kk.out W6 b6.out
      clear x0 x1 x2 x3 x4 x5 y0 y1 y2 y3 y4 y5 lx ly
      obtain ⟨p0, p1, p2, p3, p4, p5⟩ := blk_six k1
      obtain ⟨r0, r1, r2, r3, r4, r5⟩ := blk_six k2
      obtain ⟨t0, t1, t2, t3, t4, t5⟩ := blk_six k6'.out
      have hl0 : w.heap.size < W6.heap.size := k1.lt
      have hl1 : w.heap.size + 1 < W6.heap.size := k2.lt
      have hl2 : W4.heap.size < W6.heap.size := k6'.out.lt
      have hV := hide fun (X : World) (h : Below W6.heap.size W6 X) => hmg.out X (b6.out.trans (h.mono b6.out.size))
      have hTo := hide fun (X : World) (r : Value) (h : Below W6.heap.size W6 X) (hr : ResAt X X.heap.size 61 r TT 0) => toldV_same 61 X X.heap.size r _ TT hr (JAt.keep (fun p hp => h.cell (by omega)) (by have := h.size; omega) 62 _ _ hjT6) hsay.out (Nat.le_refl _)
      clear k1 k2 hjT6 b46
      replace hl0 := hl0
      go_upto_region 6 with fail
      go_region_held3 (fun w' => w'.cell? ⟨w.heap.size, 0, none⟩ = some (.int .i64 x.kind) ∧ w'.cell? ⟨w.heap.size, 1, none⟩ = some (.int .i64 x.half) ∧ w'.cell? ⟨w.heap.size, 2, none⟩ = some (.string x.text) ∧ w'.cell? ⟨w.heap.size, 3, none⟩ = some (.slice la x.list.length lc) ∧ w'.cell? ⟨w.heap.size, 4, none⟩ = some (.slice ka x.keys.length kc) ∧ w'.cell? ⟨w.heap.size, 5, none⟩ = some (.slice va x.vals.length vc) ∧ w'.cell? ⟨w.heap.size + 1, 0, none⟩ = some (.int .i64 y.kind) ∧ w'.cell? ⟨w.heap.size + 1, 1, none⟩ = some (.int .i64 y.half) ∧ w'.cell? ⟨w.heap.size + 1, 2, none⟩ = some (.string y.text) ∧ w'.cell? ⟨w.heap.size + 1, 3, none⟩ = some (.slice la2 y.list.length lc2) ∧ w'.cell? ⟨w.heap.size + 1, 4, none⟩ = some (.slice ka2 y.keys.length kc2) ∧ w'.cell? ⟨w.heap.size + 1, 5, none⟩ = some (.slice va2 y.vals.length vc2) ∧ w'.cell? ⟨W4.heap.size, 0, none⟩ = some (c0) ∧ w'.cell? ⟨W4.heap.size, 1, none⟩ = some (c1) ∧ w'.cell? ⟨W4.heap.size, 2, none⟩ = some (c2) ∧ w'.cell? ⟨W4.heap.size, 3, none⟩ = some (c3) ∧ w'.cell? ⟨W4.heap.size, 4, none⟩ = some (c4) ∧ w'.cell? ⟨W4.heap.size, 5, none⟩ = some (c5)) (first | exact ⟨z0, z1, z2, z3, z4, z5, y0, y1, y2, y3, y4, y5, v0, v1, v2, v3, v4, v5⟩ | exact ⟨p0, p1, p2, p3, p4, p5, r0, r1, r2, r3, r4, r5, t0, t1, t2, t3, t4, t5⟩) (first
        | (go_at_call 17; (with_reducible refine (hV.out _ ?_).mono ?_); exact ⟨rfl, rfl, rfl, Nat.le_refl _, fun _ _ => rfl⟩; rintro e X1 ⟨a1, rfl, c1', hr1⟩; have q1 : Below W6.heap.size W6 X1 := ⟨c1'.os, c1'.tape, c1'.output, c1'.size, c1'.block⟩; have z0 := (q1.cell (p := ⟨w.heap.size, 0, none⟩) hl0).trans p0; have z1 := (q1.cell (p := ⟨w.heap.size, 1, none⟩) hl0).trans p1; have z2 := (q1.cell (p := ⟨w.heap.size, 2, none⟩) hl0).trans p2; have z3 := (q1.cell (p := ⟨w.heap.size, 3, none⟩) hl0).trans p3; have z4 := (q1.cell (p := ⟨w.heap.size, 4, none⟩) hl0).trans p4; have z5 := (q1.cell (p := ⟨w.heap.size, 5, none⟩) hl0).trans p5; have y0 := (q1.cell (p := ⟨w.heap.size + 1, 0, none⟩) hl1).trans r0; have y1 := (q1.cell (p := ⟨w.heap.size + 1, 1, none⟩) hl1).trans r1; have y2 := (q1.cell (p := ⟨w.heap.size + 1, 2, none⟩) hl1).trans r2; have y3 := (q1.cell (p := ⟨w.heap.size + 1, 3, none⟩) hl1).trans r3; have y4 := (q1.cell (p := ⟨w.heap.size + 1, 4, none⟩) hl1).trans r4; have y5 := (q1.cell (p := ⟨w.heap.size + 1, 5, none⟩) hl1).trans r5; have v0 := (q1.cell (p := ⟨W4.heap.size, 0, none⟩) hl2).trans t0; have v1 := (q1.cell (p := ⟨W4.heap.size, 1, none⟩) hl2).trans t1; have v2 := (q1.cell (p := ⟨W4.heap.size, 2, none⟩) hl2).trans t2; have v3 := (q1.cell (p := ⟨W4.heap.size, 3, none⟩) hl2).trans t3; have v4 := (q1.cell (p := ⟨W4.heap.size, 4, none⟩) hl2).trans t4; have v5 := (q1.cell (p := ⟨W4.heap.size, 5, none⟩) hl2).trans t5; replace q1 := hide q1; replace hr1 := hide hr1; clear c1')
        | (go_at_call 16; refine (hTo.out _ _ ?_ ?_).mono ?_; exact ⟨q1.out.os, q1.out.tape, q1.out.output, q1.out.size, q1.out.block⟩; exact ResAt.keep (fun p hp => rfl) (Nat.le_refl _) hr1.out; rintro e X2 ⟨rfl, c2'⟩; have c2x : Below X1.heap.size X1 X2 := ⟨c2'.os, c2'.tape, c2'.output, c2'.size, c2'.block⟩; have q2 := q1.out.trans (c2x.mono q1.out.size); have z0 := (q2.cell (p := ⟨w.heap.size, 0, none⟩) hl0).trans p0; have z1 := (q2.cell (p := ⟨w.heap.size, 1, none⟩) hl0).trans p1; have z2 := (q2.cell (p := ⟨w.heap.size, 2, none⟩) hl0).trans p2; have z3 := (q2.cell (p := ⟨w.heap.size, 3, none⟩) hl0).trans p3; have z4 := (q2.cell (p := ⟨w.heap.size, 4, none⟩) hl0).trans p4; have z5 := (q2.cell (p := ⟨w.heap.size, 5, none⟩) hl0).trans p5; have y0 := (q2.cell (p := ⟨w.heap.size + 1, 0, none⟩) hl1).trans r0; have y1 := (q2.cell (p := ⟨w.heap.size + 1, 1, none⟩) hl1).trans r1; have y2 := (q2.cell (p := ⟨w.heap.size + 1, 2, none⟩) hl1).trans r2; have y3 := (q2.cell (p := ⟨w.heap.size + 1, 3, none⟩) hl1).trans r3; have y4 := (q2.cell (p := ⟨w.heap.size + 1, 4, none⟩) hl1).trans r4; have y5 := (q2.cell (p := ⟨w.heap.size + 1, 5, none⟩) hl1).trans r5; have v0 := (q2.cell (p := ⟨W4.heap.size, 0, none⟩) hl2).trans t0; have v1 := (q2.cell (p := ⟨W4.heap.size, 1, none⟩) hl2).trans t1; have v2 := (q2.cell (p := ⟨W4.heap.size, 2, none⟩) hl2).trans t2; have v3 := (q2.cell (p := ⟨W4.heap.size, 3, none⟩) hl2).trans t3; have v4 := (q2.cell (p := ⟨W4.heap.size, 4, none⟩) hl2).trans t4; have v5 := (q2.cell (p := ⟨W4.heap.size, 5, none⟩) hl2).trans t5; replace q2 := hide q2; clear c2' c2x))
      all_goals
        have b7 := hide (b6.out.trans (q2.out.mono b6.out.size))
        go_wp2
        go_ret
        exact ⟨rfl, bW.out.trans (b7.out.mono bW.out.size)⟩
    · rw [kx6] at x0
      replace kx6 := hide kx6
      clear fx fy hgx hgy
      go_wp2_with fail
      go_ret
      exact ⟨rfl, bW.out.trans (b3.out.mono bW.out.size)⟩
  · clear fx fy hgx hgy
    go_wp2_with fail
    go_ret
    exact ⟨rfl, bW.out.trans (b3.out.mono bW.out.size)⟩
end Go.Proofs.YtmkdkcbkgngfdaaDoor
