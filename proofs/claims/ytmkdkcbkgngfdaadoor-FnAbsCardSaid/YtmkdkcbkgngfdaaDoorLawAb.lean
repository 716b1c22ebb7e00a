/- The law of Abs, walked. -/
import Derived.Test.YtmkdkcbkgngfdaaDoorLawA
namespace Go.Proofs.YtmkdkcbkgngfdaaDoor
open Go.RowKit
set_option linter.unusedVariables false

theorem numJ_good (n : Nat) (h : Int) (hn : NumOk h) : Good (n + 1) (numJ h) :=
  ⟨by show (0 : Int) ≤ 3 ∧ (3 : Int) ≤ 6; decide, Or.inl rfl, Or.inr (by show (⟨#[]⟩ : ByteArray).toList = []; rw [ByteArray.toList_eq]), Or.inr rfl, Or.inr rfl, rfl, hn.1, hn.2, by show Lib.validD (⟨#[]⟩ : ByteArray).data.toList = true; rfl, Nat.zero_le _, Nat.zero_le _,
    by intro x hx; exact absurd hx (List.not_mem_nil), by intro x hx; exact absurd hx (List.not_mem_nil), by intro i a b h; simp [numJ, JV.keys] at h, by intro x hx; exact absurd hx (List.not_mem_nil)⟩

theorem good_num {n : Nat} {v : JV} (hg : Good (n + 1) v) (hk : v.kind = 3) : v.text = ⟨#[]⟩ ∧ v.list = [] ∧ v.keys = [] ∧ v.vals = [] := by
  obtain ⟨-, -, h4, h5, h6, hkv, -⟩ := hg
  have e := h6.resolve_left (by omega)
  exact ⟨text_nil (h4.resolve_left (by omega)), h5.resolve_left (by omega), e, List.eq_nil_of_length_eq_zero (by rw [← hkv, e]; rfl)⟩

theorem num_cells (w : World) (B n : Nat) {v : JV} (hg : Good (n + 1) v) (hk : v.kind = 3) (h : Int) (hh : -9223372036854775808 ≤ h ∧ h ≤ 9223372036854775807) {la ka va : Option Addr} {lc kc vc : Nat} (h4 : lc ≤ 9223372036854775807) (h5 : kc ≤ 9223372036854775807) (h6 : vc ≤ 9223372036854775807) :
    JAt w B (n + 1) (.agg #[.int .i64 v.kind, .int .i64 h, .string v.text, .slice la v.list.length lc, .slice ka v.keys.length kc, .slice va v.vals.length vc]) (numJ h) := by
  obtain ⟨e1, e2, e3, e4⟩ := good_num hg hk
  rw [hk, e1, e2, e3, e4]
  exact ⟨la, lc, ka, kc, va, vc, rfl, Nat.zero_le _, Nat.zero_le _, Nat.zero_le _, h4, h5, h6, by show (⟨#[]⟩ : ByteArray).size ≤ 9223372036854775807; decide, by show (-9223372036854775808 : Int) ≤ 3 ∧ (3 : Int) ≤ 9223372036854775807; decide, hh,
    fun h => absurd h (by show ¬ 0 < 0; omega), ⟨fun s hs => absurd hs List.not_mem_nil, fun h => absurd h (by show ¬ 0 < 0; omega)⟩, fun h => absurd h (by show ¬ 0 < 0; omega)⟩

theorem ResAt.six {w : World} {B n : Nat} {r : Value} {v : JV} {z : Int} (h : ResAt w B n r v z) : ∃ la lc ka kc va vc, r = .agg #[.int .i64 v.kind, .int .i64 v.half, .string v.text, .slice la v.list.length lc, .slice ka v.keys.length kc, .slice va v.vals.length vc, .int .i64 z] ∧
    JAt w B (n + 1) (.agg #[.int .i64 v.kind, .int .i64 v.half, .string v.text, .slice la v.list.length lc, .slice ka v.keys.length kc, .slice va v.vals.length vc]) v := by
  obtain ⟨c0, c1, c2, c3, c4, c5, rfl, h⟩ := h
  have h' := h
  obtain ⟨la, lc, ka, kc, va, vc, e, -⟩ := h
  simp at e
  obtain ⟨rfl, rfl, rfl, rfl, rfl, rfl⟩ := e
  exact ⟨_, _, _, _, _, _, rfl, h'⟩

@[go_sem] theorem res_field (a0 a1 a2 a3 a4 a5 a6 : Value) (w : World) : (Instr.field 30 (.agg #[a0, a1, a2, a3, a4, a5, a6]) 0).run Tryd.prog w = .ok (.agg #[a0, a1, a2, a3, a4, a5]) w := by kernel_rfl

/-- What region 8 rests on: the two variables' blocks. -/
def Two (W X : World) : Prop := ∀ p : Addr, p.block < W.heap.size → X.cell? p = W.cell? p

set_option maxHeartbeats 8000000 in
set_option maxRecDepth 100000 in
theorem lawAbs_any (w : World) (B : Nat) (x : Value) (v : JV) (hx : JAt w B 62 x v) (hT : Tabs w B) (hB : B ≤ w.heap.size) :
    Calls Tryd.prog 6 #[x] w fun e w' => e = .returned (.bool true) ∧ Below w.heap.size w w' := by
  have hx' := hide hx
  obtain ⟨la, lc, ka, kc, va, vc, rfl, -, -, -, g4, g5, g6, -⟩ := hx
  obtain ⟨W, hW⟩ : ∃ W, W = w.alloc (.cells #[.int .i64 v.kind, .int .i64 v.half, .string v.text, .slice la v.list.length lc, .slice ka v.keys.length kc, .slice va v.vals.length vc] 26) := ⟨_, rfl⟩
  have bW : Below w.heap.size w W := by rw [hW]; exact Below.alloc (Below.refl _ _) (Nat.le_refl _) _
  have kW : Blk W w.heap.size 26 #[.int .i64 v.kind, .int .i64 v.half, .string v.text, .slice la v.list.length lc, .slice ka v.keys.length kc, .slice va v.vals.length vc] := by rw [hW]; exact Blk.new w _ _
  have hB1 : B ≤ w.heap.size + 1 := by omega
  have hxW : JAt W (w.heap.size + 1) 62 _ v := JAt.keep (fun p hp => bW.cell (by omega)) hB1 62 _ _ hx'.out
  have hTW : Tabs W (w.heap.size + 1) := (hT.keep (fun p hp => bW.cell (by omega))).more hB1
  have hlt := kW.lt
  have kx : ∀ W', Below W.heap.size W W' → JAt W' (w.heap.size + 1) 62 (.agg #[.int .i64 v.kind, .int .i64 v.half, .string v.text, .slice la v.list.length lc, .slice ka v.keys.length kc, .slice va v.vals.length vc]) v := fun W' h => JAt.keep (fun p hp => h.cell (by omega)) (Nat.le_refl _) 62 _ _ hxW
  have kT : ∀ W', Below W.heap.size W W' → Tabs W' (w.heap.size + 1) := fun W' h => hTW.keep (fun p hp => h.cell (by omega))
  have kk : ∀ W', Below W.heap.size W W' → Blk W' w.heap.size 26 #[.int .i64 v.kind, .int .i64 v.half, .string v.text, .slice la v.list.length lc, .slice ka v.keys.length kc, .slice va v.vals.length vc] := fun W' h => kW.below h hlt
  clear hx' hT hTW
  replace kx := hide kx
  replace kT := hide kT
  replace kk := hide kk
  replace bW := hide bW
  replace hxW := hide hxW
  obtain ⟨q0, q1, q2, q3, q4, q5⟩ := blk_six kW
  replace kW := hide kW
  go_enter Tryd.func6, Tryd.ntmps6
  go_upto_region 1 with fail
  rw [← hW]
  clear hW
  go_wp2_with fail
  refine (zzfits_any W (w.heap.size + 1) 61 _ v hlt hxW.out).mono ?_
  rintro e W1 ⟨b, rfl, b1⟩
  cases b
  · replace b1 := hide b1
    go_wp2_with fail
    go_ret
    exact ⟨rfl, bW.out.trans (b1.out.mono bW.out.size)⟩
  obtain ⟨q0, q1, q2, q3, q4, q5⟩ := blk_six (kk.out W1 b1)
  have hf := hide (num_any W1 (w.heap.size + 1) _ v (kT.out W1 b1) (by have := b1.size; omega) (kx.out W1 b1))
  replace b1 := hide b1
  go_wp2_with fail
  refine hf.out.mono ?_
  rintro e W2 ⟨b', rfl, b2', hgood⟩
  have b2 := hide (b1.out.trans (b2'.mono b1.out.size))
  clear b2'
  cases b'
  · clear hgood
    go_wp2_with fail
    go_ret
    exact ⟨rfl, bW.out.trans (b2.out.mono bW.out.size)⟩
  obtain ⟨hgd, hk3⟩ := hgood rfl
  have hnum : NumOk v.half := ⟨hgd.2.2.2.2.2.2.1, hgd.2.2.2.2.2.2.2.1⟩
  obtain ⟨q0, q1, q2, q3, q4, q5⟩ := blk_six (kk.out W2 b2.out)
  have hl2 : w.heap.size < W2.heap.size := (kk.out W2 b2.out).lt
  clear hgood
  obtain ⟨h, hh⟩ : ∃ h, h = ((v.half.natAbs : Nat) : Int) := ⟨_, rfl⟩
  obtain ⟨n1, n2⟩ := hnum.1
  have hneg := wrapm v.half ⟨n1, n2⟩
  have hneg2 : IntKind.i64.wrap (0 - v.half) = -v.half := by rw [Int.zero_sub]; exact hneg
  -- the second variable, whichever way
  obtain ⟨W3, hW3⟩ : ∃ W3, W3 = W2.alloc (.cells #[.int .i64 v.kind, .int .i64 v.half, .string v.text, .slice la v.list.length lc, .slice ka v.keys.length kc, .slice va v.vals.length vc] 26) := ⟨_, rfl⟩
  have b23 : Below W2.heap.size W2 W3 := by rw [hW3]; exact Below.alloc (Below.refl _ _) (Nat.le_refl _) _
  have k3 := Blk.new W2 26 #[.int .i64 v.kind, .int .i64 v.half, .string v.text, .slice la v.list.length lc, .slice ka v.keys.length kc, .slice va v.vals.length vc]
  rw [← hW3] at k3
  have b3 := hide (b2.out.trans (b23.mono b2.out.size))
  have rest : ∀ W4 : World, Below W.heap.size W W4 → Blk W4 W2.heap.size 26 #[.int .i64 v.kind, .int .i64 h, .string v.text, .slice la v.list.length lc, .slice ka v.keys.length kc, .slice va v.vals.length vc] →
      (∀ X, Below W4.heap.size W4 X → Calls Tryd.prog 24 #[.agg #[.int .i64 v.kind, .int .i64 v.half, .string v.text, .slice la v.list.length lc, .slice ka v.keys.length kc, .slice va v.vals.length vc]] X fun e w' => ∃ r, e = .returned r ∧ Below X.heap.size X w' ∧ ResAt w' w'.heap.size 61 r (numJ h) 0) ∧
      (∀ X r, Below W4.heap.size W4 X → ResAt X X.heap.size 61 r (numJ h) 0 → Calls Tryd.prog 23 #[r, .agg #[.int .i64 v.kind, .int .i64 h, .string v.text, .slice la v.list.length lc, .slice ka v.keys.length kc, .slice va v.vals.length vc]] X fun e w' => e = .returned (.bool true) ∧ Below X.heap.size X w') ∧
      (∀ X, Below W4.heap.size W4 X → Calls Tryd.prog 25 #[.agg #[.int .i64 v.kind, .int .i64 v.half, .string v.text, .slice la v.list.length lc, .slice ka v.keys.length kc, .slice va v.vals.length vc]] X fun e w' => ∃ r, e = .returned r ∧ Below X.heap.size X w' ∧ ResAt w' w'.heap.size 61 r (numJ (-v.half)) 0) ∧
      (∀ X y, Below W4.heap.size W4 X → JAt X X.heap.size 62 y (numJ (-v.half)) → Calls Tryd.prog 24 #[y] X fun e w' => ∃ r, e = .returned r ∧ Below X.heap.size X w' ∧ ResAt w' w'.heap.size 61 r (numJ h) 0) := by
    intro W4 b4 k4
    have hz4 := b4.size
    refine ⟨fun X hX => ?_, fun X r hX hr => ?_, fun X hX => ?_, fun X y hX hy => ?_⟩
    · rw [hh]
      exact doorAbs_any 61 X (w.heap.size + 1) _ v (kx.out X (b4.trans (hX.mono hz4))) hgd hk3 (by have := hX.size; omega)
    · refine given_any 61 X X.heap.size r _ (numJ h) hr (num_cells X _ 61 hgd hk3 h (by rw [hh]; omega) g4 g5 g6) (num_say 61 h (by rw [hh]; omega) ?_) (Nat.le_refl _)
      rw [hh]; exact hnum.abs.2
    · exact doorNegate_any 61 X (w.heap.size + 1) _ v (kx.out X (b4.trans (hX.mono hz4))) hgd hk3 (by have := hX.size; omega)
    · have := doorAbs_any 61 X X.heap.size y (numJ (-v.half)) hy (numJ_good 61 _ hnum.neg) rfl (Nat.le_refl _)
      have e : (((numJ (-v.half)).half.natAbs : Nat) : Int) = h := by rw [hh]; show ((-v.half).natAbs : Int) = _; rw [Int.natAbs_neg]
      rw [e] at this
      exact this
  obtain ⟨u, hu⟩ : ∃ u, u = numJ h := ⟨_, rfl⟩
  obtain ⟨u2, hu2⟩ : ∃ u2, u2 = numJ (-v.half) := ⟨_, rfl⟩
  rw [← hu, ← hu2] at rest
  clear hu hu2
  replace rest := hide rest
  replace hgd := hide hgd
  replace hnum := hide hnum
  replace hk3 := hide hk3
  replace b23 := hide b23
  obtain ⟨r0, r1, r2, r3, r4, r5⟩ := blk_six k3
  have f1 := k3.frozen 1
  replace k3 := hide k3
  obtain ⟨p0, p1, p2, p3, p4, p5⟩ := blk_six (kk.out W3 b3.out)
  by_cases hlt0 : v.half < 0
  · obtain rfl : h = -v.half := by omega
    replace hh := hide hh
    obtain ⟨W4, hW4⟩ : ∃ W4, W4 = W3.setCell ⟨W2.heap.size, 1, none⟩ (.int .i64 (-v.half)) := ⟨_, rfl⟩
    have b34 : Only (· = W2.heap.size) W3 W4 := by rw [hW4]; exact (Only.refl (· = W2.heap.size) W3).setCell (p := ⟨W2.heap.size, 1, none⟩) (Or.inl rfl) _
    have k4 : Blk W4 W2.heap.size 26 #[.int .i64 v.kind, .int .i64 (-v.half), .string v.text, .slice la v.list.length lc, .slice ka v.keys.length kc, .slice va v.vals.length vc] := by
      rw [hW4]
      have := k3.out.set_ 1 (.int .i64 (-v.half))
      simpa using this
    have b4 : Below W.heap.size W W4 := b3.out.trans (b34.below (by intro k hk; have := b2.out.size; omega) b3.out.size)
    obtain ⟨hA, hG, hN, hA2⟩ := rest.out W4 b4 k4
    replace hA := hide hA
    replace hG := hide hG
    replace hN := hide hN
    replace hA2 := hide hA2
    clear rest
    have hl4 := (kk.out W4 b4).lt
    have hl5 := k4.lt
    go_upto_region 6 with fail
    rw [← hW3]
    clear hW3
    go_upto_region 8 with fail
    rw [← hW4]
    clear hW4
    clear p0 p1 p2 p3 p4 p5 r0 r1 r2 r3 r4 r5 f1
    obtain ⟨p0, p1, p2, p3, p4, p5⟩ := blk_six (kk.out W4 b4)
    obtain ⟨r0, r1, r2, r3, r4, r5⟩ := blk_six k4
    replace k4 := hide k4
    replace b4 := hide b4
    go_region_held3 (fun w' => w'.cell? ⟨w.heap.size, 0, none⟩ = some (.int .i64 v.kind) ∧ w'.cell? ⟨w.heap.size, 1, none⟩ = some (.int .i64 v.half) ∧ w'.cell? ⟨w.heap.size, 2, none⟩ = some (.string v.text) ∧ w'.cell? ⟨w.heap.size, 3, none⟩ = some (.slice la v.list.length lc) ∧ w'.cell? ⟨w.heap.size, 4, none⟩ = some (.slice ka v.keys.length kc) ∧ w'.cell? ⟨w.heap.size, 5, none⟩ = some (.slice va v.vals.length vc) ∧ w'.cell? ⟨W2.heap.size, 0, none⟩ = some (.int .i64 v.kind) ∧ w'.cell? ⟨W2.heap.size, 1, none⟩ = some (.int .i64 (-v.half)) ∧ w'.cell? ⟨W2.heap.size, 2, none⟩ = some (.string v.text) ∧ w'.cell? ⟨W2.heap.size, 3, none⟩ = some (.slice la v.list.length lc) ∧ w'.cell? ⟨W2.heap.size, 4, none⟩ = some (.slice ka v.keys.length kc) ∧ w'.cell? ⟨W2.heap.size, 5, none⟩ = some (.slice va v.vals.length vc)) (first | exact ⟨z0, z1, z2, z3, z4, z5, y0, y1, y2, y3, y4, y5⟩ | exact ⟨p0, p1, p2, p3, p4, p5, r0, r1, r2, r3, r4, r5⟩) (first
      | (go_at_call 24; (with_reducible refine (hA.out _ ?_).mono ?_); exact ⟨rfl, rfl, rfl, Nat.le_refl _, fun _ _ => rfl⟩; rintro e X1 ⟨a1, rfl, c1', hr1⟩; have c1 : Below W4.heap.size W4 X1 := ⟨c1'.os, c1'.tape, c1'.output, c1'.size, c1'.block⟩; have z0 := (c1.cell (p := ⟨w.heap.size, 0, none⟩) hl4).trans p0; have z1 := (c1.cell (p := ⟨w.heap.size, 1, none⟩) hl4).trans p1; have z2 := (c1.cell (p := ⟨w.heap.size, 2, none⟩) hl4).trans p2; have z3 := (c1.cell (p := ⟨w.heap.size, 3, none⟩) hl4).trans p3; have z4 := (c1.cell (p := ⟨w.heap.size, 4, none⟩) hl4).trans p4; have z5 := (c1.cell (p := ⟨w.heap.size, 5, none⟩) hl4).trans p5; have y0 := (c1.cell (p := ⟨W2.heap.size, 0, none⟩) hl5).trans r0; have y1 := (c1.cell (p := ⟨W2.heap.size, 1, none⟩) hl5).trans r1; have y2 := (c1.cell (p := ⟨W2.heap.size, 2, none⟩) hl5).trans r2; have y3 := (c1.cell (p := ⟨W2.heap.size, 3, none⟩) hl5).trans r3; have y4 := (c1.cell (p := ⟨W2.heap.size, 4, none⟩) hl5).trans r4; have y5 := (c1.cell (p := ⟨W2.heap.size, 5, none⟩) hl5).trans r5; replace c1 := hide c1; replace hr1 := hide hr1; clear c1')
      | (go_at_call 23; refine (hG.out _ _ ?_ ?_).mono ?_; exact ⟨c1.out.os, c1.out.tape, c1.out.output, c1.out.size, c1.out.block⟩; exact ResAt.keep (fun p hp => rfl) (Nat.le_refl _) hr1.out; rintro e X2 ⟨rfl, c2'⟩; have c2x : Below X1.heap.size X1 X2 := ⟨c2'.os, c2'.tape, c2'.output, c2'.size, c2'.block⟩; have c2 := c1.out.trans (c2x.mono c1.out.size); have z0 := (c2.cell (p := ⟨w.heap.size, 0, none⟩) hl4).trans p0; have z1 := (c2.cell (p := ⟨w.heap.size, 1, none⟩) hl4).trans p1; have z2 := (c2.cell (p := ⟨w.heap.size, 2, none⟩) hl4).trans p2; have z3 := (c2.cell (p := ⟨w.heap.size, 3, none⟩) hl4).trans p3; have z4 := (c2.cell (p := ⟨w.heap.size, 4, none⟩) hl4).trans p4; have z5 := (c2.cell (p := ⟨w.heap.size, 5, none⟩) hl4).trans p5; have y0 := (c2.cell (p := ⟨W2.heap.size, 0, none⟩) hl5).trans r0; have y1 := (c2.cell (p := ⟨W2.heap.size, 1, none⟩) hl5).trans r1; have y2 := (c2.cell (p := ⟨W2.heap.size, 2, none⟩) hl5).trans r2; have y3 := (c2.cell (p := ⟨W2.heap.size, 3, none⟩) hl5).trans r3; have y4 := (c2.cell (p := ⟨W2.heap.size, 4, none⟩) hl5).trans r4; have y5 := (c2.cell (p := ⟨W2.heap.size, 5, none⟩) hl5).trans r5; replace c2 := hide c2; clear c2' c2x)
      | (go_at_call 25; refine (hN.out _ ?_).mono ?_; exact ⟨c2.out.os, c2.out.tape, c2.out.output, c2.out.size, c2.out.block⟩; rintro e X3 ⟨a3, rfl, c3', hr3⟩; have c3x : Below X2.heap.size X2 X3 := ⟨c3'.os, c3'.tape, c3'.output, c3'.size, c3'.block⟩; have c3 := c2.out.trans (c3x.mono c2.out.size); have z0 := (c3.cell (p := ⟨w.heap.size, 0, none⟩) hl4).trans p0; have z1 := (c3.cell (p := ⟨w.heap.size, 1, none⟩) hl4).trans p1; have z2 := (c3.cell (p := ⟨w.heap.size, 2, none⟩) hl4).trans p2; have z3 := (c3.cell (p := ⟨w.heap.size, 3, none⟩) hl4).trans p3; have z4 := (c3.cell (p := ⟨w.heap.size, 4, none⟩) hl4).trans p4; have z5 := (c3.cell (p := ⟨w.heap.size, 5, none⟩) hl4).trans p5; have y0 := (c3.cell (p := ⟨W2.heap.size, 0, none⟩) hl5).trans r0; have y1 := (c3.cell (p := ⟨W2.heap.size, 1, none⟩) hl5).trans r1; have y2 := (c3.cell (p := ⟨W2.heap.size, 2, none⟩) hl5).trans r2; have y3 := (c3.cell (p := ⟨W2.heap.size, 3, none⟩) hl5).trans r3; have y4 := (c3.cell (p := ⟨W2.heap.size, 4, none⟩) hl5).trans r4; have y5 := (c3.cell (p := ⟨W2.heap.size, 5, none⟩) hl5).trans r5; obtain ⟨la3, lc3, ka3, kc3, va3, vc3, rfl, hy3⟩ := hr3.six; replace c3 := hide c3; replace hy3 := hide hy3; clear c3' c3x hr3)
      | (go_at_call 24; (with_reducible refine (hA2.out _ _ ?_ ?_).mono ?_); exact ⟨c3.out.os, c3.out.tape, c3.out.output, c3.out.size, c3.out.block⟩; exact JAt.keep (fun p hp => rfl) (Nat.le_refl _) _ _ _ hy3.out; rintro e X4 ⟨a4, rfl, c4', hr4⟩; have c4x : Below X3.heap.size X3 X4 := ⟨c4'.os, c4'.tape, c4'.output, c4'.size, c4'.block⟩; have c4 := c3.out.trans (c4x.mono c3.out.size); have z0 := (c4.cell (p := ⟨w.heap.size, 0, none⟩) hl4).trans p0; have z1 := (c4.cell (p := ⟨w.heap.size, 1, none⟩) hl4).trans p1; have z2 := (c4.cell (p := ⟨w.heap.size, 2, none⟩) hl4).trans p2; have z3 := (c4.cell (p := ⟨w.heap.size, 3, none⟩) hl4).trans p3; have z4 := (c4.cell (p := ⟨w.heap.size, 4, none⟩) hl4).trans p4; have z5 := (c4.cell (p := ⟨w.heap.size, 5, none⟩) hl4).trans p5; have y0 := (c4.cell (p := ⟨W2.heap.size, 0, none⟩) hl5).trans r0; have y1 := (c4.cell (p := ⟨W2.heap.size, 1, none⟩) hl5).trans r1; have y2 := (c4.cell (p := ⟨W2.heap.size, 2, none⟩) hl5).trans r2; have y3 := (c4.cell (p := ⟨W2.heap.size, 3, none⟩) hl5).trans r3; have y4 := (c4.cell (p := ⟨W2.heap.size, 4, none⟩) hl5).trans r4; have y5 := (c4.cell (p := ⟨W2.heap.size, 5, none⟩) hl5).trans r5; replace c4 := hide c4; replace hr4 := hide hr4; clear c4' c4x)
      | (go_at_call 23; refine (hG.out _ _ ?_ ?_).mono ?_; exact ⟨c4.out.os, c4.out.tape, c4.out.output, c4.out.size, c4.out.block⟩; exact ResAt.keep (fun p hp => rfl) (Nat.le_refl _) hr4.out; rintro e X5 ⟨rfl, c5'⟩; have c5x : Below X4.heap.size X4 X5 := ⟨c5'.os, c5'.tape, c5'.output, c5'.size, c5'.block⟩; have c5 := c4.out.trans (c5x.mono c4.out.size); have z0 := (c5.cell (p := ⟨w.heap.size, 0, none⟩) hl4).trans p0; have z1 := (c5.cell (p := ⟨w.heap.size, 1, none⟩) hl4).trans p1; have z2 := (c5.cell (p := ⟨w.heap.size, 2, none⟩) hl4).trans p2; have z3 := (c5.cell (p := ⟨w.heap.size, 3, none⟩) hl4).trans p3; have z4 := (c5.cell (p := ⟨w.heap.size, 4, none⟩) hl4).trans p4; have z5 := (c5.cell (p := ⟨w.heap.size, 5, none⟩) hl4).trans p5; have y0 := (c5.cell (p := ⟨W2.heap.size, 0, none⟩) hl5).trans r0; have y1 := (c5.cell (p := ⟨W2.heap.size, 1, none⟩) hl5).trans r1; have y2 := (c5.cell (p := ⟨W2.heap.size, 2, none⟩) hl5).trans r2; have y3 := (c5.cell (p := ⟨W2.heap.size, 3, none⟩) hl5).trans r3; have y4 := (c5.cell (p := ⟨W2.heap.size, 4, none⟩) hl5).trans r4; have y5 := (c5.cell (p := ⟨W2.heap.size, 5, none⟩) hl5).trans r5; replace c5 := hide c5; clear c5' c5x))
    all_goals
      have b5 := hide (b4.out.trans (c5.out.mono b4.out.size))
      go_wp2
      go_ret
      exact ⟨rfl, bW.out.trans (b5.out.mono bW.out.size)⟩
  · obtain rfl : h = v.half := by omega
    replace hh := hide hh
    obtain ⟨W4, hW4⟩ : ∃ W4, W4 = W3 := ⟨_, rfl⟩
    have k4 : Blk W4 W2.heap.size 26 #[.int .i64 v.kind, .int .i64 v.half, .string v.text, .slice la v.list.length lc, .slice ka v.keys.length kc, .slice va v.vals.length vc] := by rw [hW4]; exact k3.out
    have b4 : Below W.heap.size W W4 := by rw [hW4]; exact b3.out
    obtain ⟨hA, hG, hN, hA2⟩ := rest.out W4 b4 k4
    replace hA := hide hA
    replace hG := hide hG
    replace hN := hide hN
    replace hA2 := hide hA2
    clear rest
    have hl4 := (kk.out W4 b4).lt
    have hl5 := k4.lt
    go_upto_region 6 with fail
    rw [← hW3]
    clear hW3
    go_upto_region 8 with fail
    rw [← hW4]
    clear hW4
    clear p0 p1 p2 p3 p4 p5 r0 r1 r2 r3 r4 r5 f1
    obtain ⟨p0, p1, p2, p3, p4, p5⟩ := blk_six (kk.out W4 b4)
    obtain ⟨r0, r1, r2, r3, r4, r5⟩ := blk_six k4
    replace k4 := hide k4
    replace b4 := hide b4
    go_region_held3 (fun w' => w'.cell? ⟨w.heap.size, 0, none⟩ = some (.int .i64 v.kind) ∧ w'.cell? ⟨w.heap.size, 1, none⟩ = some (.int .i64 v.half) ∧ w'.cell? ⟨w.heap.size, 2, none⟩ = some (.string v.text) ∧ w'.cell? ⟨w.heap.size, 3, none⟩ = some (.slice la v.list.length lc) ∧ w'.cell? ⟨w.heap.size, 4, none⟩ = some (.slice ka v.keys.length kc) ∧ w'.cell? ⟨w.heap.size, 5, none⟩ = some (.slice va v.vals.length vc) ∧ w'.cell? ⟨W2.heap.size, 0, none⟩ = some (.int .i64 v.kind) ∧ w'.cell? ⟨W2.heap.size, 1, none⟩ = some (.int .i64 v.half) ∧ w'.cell? ⟨W2.heap.size, 2, none⟩ = some (.string v.text) ∧ w'.cell? ⟨W2.heap.size, 3, none⟩ = some (.slice la v.list.length lc) ∧ w'.cell? ⟨W2.heap.size, 4, none⟩ = some (.slice ka v.keys.length kc) ∧ w'.cell? ⟨W2.heap.size, 5, none⟩ = some (.slice va v.vals.length vc)) (first | exact ⟨z0, z1, z2, z3, z4, z5, y0, y1, y2, y3, y4, y5⟩ | exact ⟨p0, p1, p2, p3, p4, p5, r0, r1, r2, r3, r4, r5⟩) (first
      | (go_at_call 24; (with_reducible refine (hA.out _ ?_).mono ?_); exact ⟨rfl, rfl, rfl, Nat.le_refl _, fun _ _ => rfl⟩; rintro e X1 ⟨a1, rfl, c1', hr1⟩; have c1 : Below W4.heap.size W4 X1 := ⟨c1'.os, c1'.tape, c1'.output, c1'.size, c1'.block⟩; have z0 := (c1.cell (p := ⟨w.heap.size, 0, none⟩) hl4).trans p0; have z1 := (c1.cell (p := ⟨w.heap.size, 1, none⟩) hl4).trans p1; have z2 := (c1.cell (p := ⟨w.heap.size, 2, none⟩) hl4).trans p2; have z3 := (c1.cell (p := ⟨w.heap.size, 3, none⟩) hl4).trans p3; have z4 := (c1.cell (p := ⟨w.heap.size, 4, none⟩) hl4).trans p4; have z5 := (c1.cell (p := ⟨w.heap.size, 5, none⟩) hl4).trans p5; have y0 := (c1.cell (p := ⟨W2.heap.size, 0, none⟩) hl5).trans r0; have y1 := (c1.cell (p := ⟨W2.heap.size, 1, none⟩) hl5).trans r1; have y2 := (c1.cell (p := ⟨W2.heap.size, 2, none⟩) hl5).trans r2; have y3 := (c1.cell (p := ⟨W2.heap.size, 3, none⟩) hl5).trans r3; have y4 := (c1.cell (p := ⟨W2.heap.size, 4, none⟩) hl5).trans r4; have y5 := (c1.cell (p := ⟨W2.heap.size, 5, none⟩) hl5).trans r5; replace c1 := hide c1; replace hr1 := hide hr1; clear c1')
      | (go_at_call 23; refine (hG.out _ _ ?_ ?_).mono ?_; exact ⟨c1.out.os, c1.out.tape, c1.out.output, c1.out.size, c1.out.block⟩; exact ResAt.keep (fun p hp => rfl) (Nat.le_refl _) hr1.out; rintro e X2 ⟨rfl, c2'⟩; have c2x : Below X1.heap.size X1 X2 := ⟨c2'.os, c2'.tape, c2'.output, c2'.size, c2'.block⟩; have c2 := c1.out.trans (c2x.mono c1.out.size); have z0 := (c2.cell (p := ⟨w.heap.size, 0, none⟩) hl4).trans p0; have z1 := (c2.cell (p := ⟨w.heap.size, 1, none⟩) hl4).trans p1; have z2 := (c2.cell (p := ⟨w.heap.size, 2, none⟩) hl4).trans p2; have z3 := (c2.cell (p := ⟨w.heap.size, 3, none⟩) hl4).trans p3; have z4 := (c2.cell (p := ⟨w.heap.size, 4, none⟩) hl4).trans p4; have z5 := (c2.cell (p := ⟨w.heap.size, 5, none⟩) hl4).trans p5; have y0 := (c2.cell (p := ⟨W2.heap.size, 0, none⟩) hl5).trans r0; have y1 := (c2.cell (p := ⟨W2.heap.size, 1, none⟩) hl5).trans r1; have y2 := (c2.cell (p := ⟨W2.heap.size, 2, none⟩) hl5).trans r2; have y3 := (c2.cell (p := ⟨W2.heap.size, 3, none⟩) hl5).trans r3; have y4 := (c2.cell (p := ⟨W2.heap.size, 4, none⟩) hl5).trans r4; have y5 := (c2.cell (p := ⟨W2.heap.size, 5, none⟩) hl5).trans r5; replace c2 := hide c2; clear c2' c2x)
      | (go_at_call 25; refine (hN.out _ ?_).mono ?_; exact ⟨c2.out.os, c2.out.tape, c2.out.output, c2.out.size, c2.out.block⟩; rintro e X3 ⟨a3, rfl, c3', hr3⟩; have c3x : Below X2.heap.size X2 X3 := ⟨c3'.os, c3'.tape, c3'.output, c3'.size, c3'.block⟩; have c3 := c2.out.trans (c3x.mono c2.out.size); have z0 := (c3.cell (p := ⟨w.heap.size, 0, none⟩) hl4).trans p0; have z1 := (c3.cell (p := ⟨w.heap.size, 1, none⟩) hl4).trans p1; have z2 := (c3.cell (p := ⟨w.heap.size, 2, none⟩) hl4).trans p2; have z3 := (c3.cell (p := ⟨w.heap.size, 3, none⟩) hl4).trans p3; have z4 := (c3.cell (p := ⟨w.heap.size, 4, none⟩) hl4).trans p4; have z5 := (c3.cell (p := ⟨w.heap.size, 5, none⟩) hl4).trans p5; have y0 := (c3.cell (p := ⟨W2.heap.size, 0, none⟩) hl5).trans r0; have y1 := (c3.cell (p := ⟨W2.heap.size, 1, none⟩) hl5).trans r1; have y2 := (c3.cell (p := ⟨W2.heap.size, 2, none⟩) hl5).trans r2; have y3 := (c3.cell (p := ⟨W2.heap.size, 3, none⟩) hl5).trans r3; have y4 := (c3.cell (p := ⟨W2.heap.size, 4, none⟩) hl5).trans r4; have y5 := (c3.cell (p := ⟨W2.heap.size, 5, none⟩) hl5).trans r5; obtain ⟨la3, lc3, ka3, kc3, va3, vc3, rfl, hy3⟩ := hr3.six; replace c3 := hide c3; replace hy3 := hide hy3; clear c3' c3x hr3)
      | (go_at_call 24; (with_reducible refine (hA2.out _ _ ?_ ?_).mono ?_); exact ⟨c3.out.os, c3.out.tape, c3.out.output, c3.out.size, c3.out.block⟩; exact JAt.keep (fun p hp => rfl) (Nat.le_refl _) _ _ _ hy3.out; rintro e X4 ⟨a4, rfl, c4', hr4⟩; have c4x : Below X3.heap.size X3 X4 := ⟨c4'.os, c4'.tape, c4'.output, c4'.size, c4'.block⟩; have c4 := c3.out.trans (c4x.mono c3.out.size); have z0 := (c4.cell (p := ⟨w.heap.size, 0, none⟩) hl4).trans p0; have z1 := (c4.cell (p := ⟨w.heap.size, 1, none⟩) hl4).trans p1; have z2 := (c4.cell (p := ⟨w.heap.size, 2, none⟩) hl4).trans p2; have z3 := (c4.cell (p := ⟨w.heap.size, 3, none⟩) hl4).trans p3; have z4 := (c4.cell (p := ⟨w.heap.size, 4, none⟩) hl4).trans p4; have z5 := (c4.cell (p := ⟨w.heap.size, 5, none⟩) hl4).trans p5; have y0 := (c4.cell (p := ⟨W2.heap.size, 0, none⟩) hl5).trans r0; have y1 := (c4.cell (p := ⟨W2.heap.size, 1, none⟩) hl5).trans r1; have y2 := (c4.cell (p := ⟨W2.heap.size, 2, none⟩) hl5).trans r2; have y3 := (c4.cell (p := ⟨W2.heap.size, 3, none⟩) hl5).trans r3; have y4 := (c4.cell (p := ⟨W2.heap.size, 4, none⟩) hl5).trans r4; have y5 := (c4.cell (p := ⟨W2.heap.size, 5, none⟩) hl5).trans r5; replace c4 := hide c4; replace hr4 := hide hr4; clear c4' c4x)
      | (go_at_call 23; refine (hG.out _ _ ?_ ?_).mono ?_; exact ⟨c4.out.os, c4.out.tape, c4.out.output, c4.out.size, c4.out.block⟩; exact ResAt.keep (fun p hp => rfl) (Nat.le_refl _) hr4.out; rintro e X5 ⟨rfl, c5'⟩; have c5x : Below X4.heap.size X4 X5 := ⟨c5'.os, c5'.tape, c5'.output, c5'.size, c5'.block⟩; have c5 := c4.out.trans (c5x.mono c4.out.size); have z0 := (c5.cell (p := ⟨w.heap.size, 0, none⟩) hl4).trans p0; have z1 := (c5.cell (p := ⟨w.heap.size, 1, none⟩) hl4).trans p1; have z2 := (c5.cell (p := ⟨w.heap.size, 2, none⟩) hl4).trans p2; have z3 := (c5.cell (p := ⟨w.heap.size, 3, none⟩) hl4).trans p3; have z4 := (c5.cell (p := ⟨w.heap.size, 4, none⟩) hl4).trans p4; have z5 := (c5.cell (p := ⟨w.heap.size, 5, none⟩) hl4).trans p5; have y0 := (c5.cell (p := ⟨W2.heap.size, 0, none⟩) hl5).trans r0; have y1 := (c5.cell (p := ⟨W2.heap.size, 1, none⟩) hl5).trans r1; have y2 := (c5.cell (p := ⟨W2.heap.size, 2, none⟩) hl5).trans r2; have y3 := (c5.cell (p := ⟨W2.heap.size, 3, none⟩) hl5).trans r3; have y4 := (c5.cell (p := ⟨W2.heap.size, 4, none⟩) hl5).trans r4; have y5 := (c5.cell (p := ⟨W2.heap.size, 5, none⟩) hl5).trans r5; replace c5 := hide c5; clear c5' c5x))
    all_goals
      have b5 := hide (b4.out.trans (c5.out.mono b4.out.size))
      go_wp2
      go_ret
      exact ⟨rfl, bW.out.trans (b5.out.mono bW.out.size)⟩
end Go.Proofs.YtmkdkcbkgngfdaaDoor
