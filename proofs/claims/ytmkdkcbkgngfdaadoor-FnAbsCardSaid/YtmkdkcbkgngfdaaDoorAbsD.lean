/- The doors Abs and Negate at a number. -/
import Derived.Test.YtmkdkcbkgngfdaaDoorAbsW
namespace Go.Proofs.YtmkdkcbkgngfdaaDoor
open Go.RowKit
set_option linter.unusedVariables false

set_option maxHeartbeats 1000000 in
set_option maxRecDepth 100000 in
theorem fromGo_float (w : World) (h : Int) (hsm : Sml h) :
    Calls Tryd.prog 55 #[.iface 66 (.float .f64 (halfBits h))] w fun e w' => e = .returned (.tuple #[.agg #[.int .i64 3, .int .i64 h, .string ⟨#[]⟩, .slice none 0 0, .slice none 0 0, .slice none 0 0], .bool true]) ∧ Below w.heap.size w w' := by
  have hq : ∀ W : World, (binOp .mul 66 (.float .f64 4611686018427387904) (.float .f64 (halfBits h))).run Tryd.prog W = .ok (.float .f64 (floatOfInt .f64 h)) W := fun W => run_float_arith W _ _ _ _ _ _ (twice_half hsm)
  have hh := hide fun W => half_any W h hsm
  replace hsm := hide hsm
  obtain ⟨W0, hW0⟩ : ∃ W0, W0 = w.alloc (.cells #[.int .i64 0, .int .i64 0, .string ⟨#[]⟩, .slice none 0 0, .slice none 0 0, .slice none 0 0] 26) := ⟨_, rfl⟩
  have b0 : Below w.heap.size w W0 := by rw [hW0]; exact Below.alloc (Below.refl _ _) (Nat.le_refl _) _
  have k0 : Blk W0 w.heap.size 26 #[.int .i64 0, .int .i64 0, .string ⟨#[]⟩, .slice none 0 0, .slice none 0 0, .slice none 0 0] := by rw [hW0]; exact Blk.new w _ _
  have hs0 := k0.lt
  replace b0 := hide b0
  replace k0 := hide k0
  go_enter Tryd.func55, Tryd.ntmps55
  go_wp2_with fail
  rw [← hW0]
  clear hW0
  refine (hh.out W0).mono ?_
  rintro e W1 ⟨rfl, b1⟩
  have k1 := hide (k0.out.below b1 hs0)
  have b2 := hide (b0.out.trans (b1.mono b0.out.size))
  clear b1
  go_wp2_with (refine wpList_store_blk rfl 26 (.tmp 2) (.tmp 38) rfl w.heap.size _ rfl rfl 26 _ k1.out val_size rfl (val_one _ _ _ _ _ _ _ _ _ _ _ _) ?_; intro W3 k3 o3 s3; have o3' := hide o3; have k3' := hide k3; have s3' := hide s3; clear o3 k3 s3)
  obtain ⟨q0, q1, q2, q3, q4, q5⟩ := blk_six k3'.out
  refine bodyPost_ret (v := .tuple #[.agg #[.int .i64 3, .int .i64 h, .string ⟨#[]⟩, .slice none 0 0, .slice none 0 0, .slice none 0 0], .bool true]) (by simp [results, Tryd.results55, go_sem, q0, q1, q2, q3, q4, q5]) rfl ⟨rfl, b2.out.trans (o3'.out.below (by intro k hk; omega) b2.out.size)⟩

theorem numG_gat (w : World) (lo n : Nat) (h : Int) : GAt w lo (n + 1) (numG h) (numJ h) := by
  unfold numG
  split
  · rename_i e
    exact Or.inr (Or.inr (Or.inr (Or.inl ⟨rfl, e, rfl⟩)))
  · rename_i e
    exact Or.inr (Or.inr (Or.inr (Or.inr (Or.inl ⟨rfl, e, rfl⟩))))

theorem GAt.num {w : World} {lo n : Nat} {y : Value} {v : JV} (h : GAt w lo (n + 1) y v) (hk : v.kind = 3) : y = numG v.half := by
  unfold numG
  rcases h with h | h | h | h | h | h | h | h
  · omega
  · omega
  · omega
  · rw [if_pos h.2.1]; exact h.2.2
  · rw [if_neg h.2.1]; exact h.2.2
  · omega
  · omega
  · omega

theorem numJ_leaf (w : World) (P : Nat → Prop) (n : Nat) (h : Int) (hb : -9223372036854775808 ≤ h ∧ h ≤ 9223372036854775807) : JP w P (n + 1) (.agg #[.int .i64 3, .int .i64 h, .string ⟨#[]⟩, .slice none 0 0, .slice none 0 0, .slice none 0 0]) (numJ h) :=
  JP.leaf (v := numJ h) rfl rfl rfl (by show (⟨#[]⟩ : ByteArray).size ≤ 9223372036854775807; decide) (by show (-9223372036854775808 : Int) ≤ 3 ∧ (3 : Int) ≤ 9223372036854775807; decide) hb

theorem numG_fg (w : World) (n : Nat) (h : Int) (hn : NumOk h) : FGat (n + 1) w (numG h) (numJ h) := by
  obtain ⟨⟨n1, n2⟩, -⟩ := id hn
  by_cases he : h.tmod 2 = 0
  · have e1 : numG h = .iface 3 (.int .i64 (h.tdiv 2)) := if_pos he
    have hb := even_half he
    rw [e1]
    refine (fromGo_int w (h.tdiv 2) (by omega)).mono ?_
    rintro e w' ⟨rfl, hb'⟩
    rw [hb]
    exact ⟨_, rfl, hb', numJ_leaf _ _ _ _ (by omega)⟩
  · have e1 : numG h = .iface 66 (.float .f64 (halfBits h)) := if_neg he
    rw [e1]
    refine (fromGo_float w h (hn.sml he)).mono ?_
    rintro e w' ⟨rfl, hb'⟩
    exact ⟨_, rfl, hb', numJ_leaf _ _ _ _ (by omega)⟩

set_option maxHeartbeats 2000000 in
set_option maxRecDepth 100000 in
theorem doorAbs_any (n : Nat) (w : World) (B : Nat) (x : Value) (v : JV) (hx : JAt w B (n + 1) x v) (hg : Good (n + 1) v) (hk : v.kind = 3) (hB : B ≤ w.heap.size) :
    Calls Tryd.prog 24 #[x] w fun e w' => ∃ r, e = .returned r ∧ Below w.heap.size w w' ∧ ResAt w' w'.heap.size n r (numJ ((v.half.natAbs : Int))) 0 := by
  have hx' := hide hx
  have hnum : NumOk v.half := ⟨hg.2.2.2.2.2.2.1, hg.2.2.2.2.2.2.2.1⟩
  have hnum2 : NumOk ((v.half.natAbs : Int)) := hnum.abs
  obtain ⟨la, lc, ka, kc, va, vc, rfl, -⟩ := hx
  obtain ⟨W, hW⟩ : ∃ W, W = (w.alloc (.cells #[.int .i64 v.kind, .int .i64 v.half, .string v.text, .slice la v.list.length lc, .slice ka v.keys.length kc, .slice va v.vals.length vc] 26)).alloc (.cells #[.int .i64 0, .int .i64 0, .string ⟨#[]⟩, .slice none 0 0, .slice none 0 0, .slice none 0 0, .int .i64 0] 30) := ⟨_, rfl⟩
  have bW : Below w.heap.size w W := by rw [hW]; exact Below.alloc (Below.alloc (Below.refl _ _) (Nat.le_refl _) _) (by simp) _
  have sW : W.heap.size = w.heap.size + 2 := by rw [hW]; simp
  have kW : Blk W (w.heap.size + 1) 30 #[.int .i64 0, .int .i64 0, .string ⟨#[]⟩, .slice none 0 0, .slice none 0 0, .slice none 0 0, .int .i64 0] := by
    rw [hW]
    have h2 := Blk.new (w.alloc (.cells #[.int .i64 v.kind, .int .i64 v.half, .string v.text, .slice la v.list.length lc, .slice ka v.keys.length kc, .slice va v.vals.length vc] 26)) 30 #[.int .i64 0, .int .i64 0, .string ⟨#[]⟩, .slice none 0 0, .slice none 0 0, .slice none 0 0, .int .i64 0]
    have hsz : (w.alloc (.cells #[.int .i64 v.kind, .int .i64 v.half, .string v.text, .slice la v.list.length lc, .slice ka v.keys.length kc, .slice va v.vals.length vc] 26)).heap.size = w.heap.size + 1 := by simp
    rw [hsz] at h2
    exact h2
  have hxW : JAt W B (n + 1) _ v := JAt.keep (fun p hp => bW.cell (by omega)) (Nat.le_refl _) (n + 1) _ _ hx'.out
  replace hxW := hide hxW
  replace bW := hide bW
  replace kW := hide kW
  replace sW := hide sW
  replace hg := hide hg
  replace hk := hide hk
  go_enter Tryd.func24, Tryd.ntmps24
  go_wp2_with fail
  rw [← hW]
  clear hW
  refine (toGo_any (n + 1) W B _ v hxW.out hg.out (by have := sW.out; omega)).mono ?_
  rintro e W1 ⟨y, rfl, b1, hy⟩
  have hy3 := hy.num hk.out
  subst hy3
  have kW1 := hide (kW.out.below b1 (by have := sW.out; omega))
  have b2 := hide (bW.out.trans (b1.mono bW.out.size))
  clear b1 hy
  have hz := hide fun W => zzAbs_any W v.half hnum
  have hR := hide fun W => result_of n W 0 _ _ (numG_gat W 0 n ((v.half.natAbs : Int))) (fun W _ => numG_fg W n _ hnum2)
  obtain ⟨u, hu⟩ : ∃ u, u = numJ ((v.half.natAbs : Int)) := ⟨_, rfl⟩
  obtain ⟨t1, u1, e1⟩ := numG_form v.half
  obtain ⟨t2, u2, e2⟩ := numG_form ((v.half.natAbs : Int))
  rw [e1, e2] at hz
  rw [e2, ← hu] at hR
  rw [e1]
  clear e1 e2
  replace hu := hide hu
  replace hnum := hide hnum
  replace hnum2 := hide hnum2
  go_wp2_with (first
    | (go_at_call 48; refine (hz.out _).mono ?_; rintro e W2 ⟨rfl, rfl⟩)
    | (go_at_call 34; refine (hR.out _).mono ?_; rintro e W3 ⟨la', lc', ka', kc', va', vc', rfl, b3, hr⟩; have kW3 := hide (kW1.out.below b3 kW1.out.lt); have b3' := hide (b2.out.trans (b3.mono b2.out.size)); have hr' := hide hr; clear b3 hr)
    | (refine wpList_store_blk rfl 30 (.tmp 2) (.tmp 15) rfl (w.heap.size + 1) _ rfl rfl 30 _ kW3.out res_size rfl (res_one _ _ _ _ _ _ _ _ _ _ _ _ _) ?_; intro W4 k4 o4 s4; have k4' := hide k4; have o4' := hide o4; have s4' := hide s4; clear k4 o4 s4))
  obtain ⟨q0, q1, q2, q3, q4, q5, q6⟩ := blk_seven k4'.out
  have hlo : w.heap.size + 1 < W1.heap.size := kW1.out.lt
  obtain ⟨r1, r2⟩ := door_end (z := 0) (by omega) b3'.out hr'.out o4'.out s4'.out hlo
  exact bodyPost_ret (v := .agg #[.int .i64 u.kind, .int .i64 u.half, .string u.text, .slice la' u.list.length lc', .slice ka' u.keys.length kc', .slice va' u.vals.length vc', .int .i64 0]) (by simp [results, Tryd.results24, go_sem, q0, q1, q2, q3, q4, q5, q6]) rfl ⟨_, rfl, r1, by rw [← hu.out]; exact r2⟩

set_option maxHeartbeats 2000000 in
set_option maxRecDepth 100000 in
theorem doorNegate_any (n : Nat) (w : World) (B : Nat) (x : Value) (v : JV) (hx : JAt w B (n + 1) x v) (hg : Good (n + 1) v) (hk : v.kind = 3) (hB : B ≤ w.heap.size) :
    Calls Tryd.prog 25 #[x] w fun e w' => ∃ r, e = .returned r ∧ Below w.heap.size w w' ∧ ResAt w' w'.heap.size n r (numJ (-v.half)) 0 := by
  have hx' := hide hx
  have hnum : NumOk v.half := ⟨hg.2.2.2.2.2.2.1, hg.2.2.2.2.2.2.2.1⟩
  have hnum2 : NumOk (-v.half) := hnum.neg
  obtain ⟨la, lc, ka, kc, va, vc, rfl, -⟩ := hx
  obtain ⟨W, hW⟩ : ∃ W, W = (w.alloc (.cells #[.int .i64 v.kind, .int .i64 v.half, .string v.text, .slice la v.list.length lc, .slice ka v.keys.length kc, .slice va v.vals.length vc] 26)).alloc (.cells #[.int .i64 0, .int .i64 0, .string ⟨#[]⟩, .slice none 0 0, .slice none 0 0, .slice none 0 0, .int .i64 0] 30) := ⟨_, rfl⟩
  have bW : Below w.heap.size w W := by rw [hW]; exact Below.alloc (Below.alloc (Below.refl _ _) (Nat.le_refl _) _) (by simp) _
  have sW : W.heap.size = w.heap.size + 2 := by rw [hW]; simp
  have kW : Blk W (w.heap.size + 1) 30 #[.int .i64 0, .int .i64 0, .string ⟨#[]⟩, .slice none 0 0, .slice none 0 0, .slice none 0 0, .int .i64 0] := by
    rw [hW]
    have h2 := Blk.new (w.alloc (.cells #[.int .i64 v.kind, .int .i64 v.half, .string v.text, .slice la v.list.length lc, .slice ka v.keys.length kc, .slice va v.vals.length vc] 26)) 30 #[.int .i64 0, .int .i64 0, .string ⟨#[]⟩, .slice none 0 0, .slice none 0 0, .slice none 0 0, .int .i64 0]
    have hsz : (w.alloc (.cells #[.int .i64 v.kind, .int .i64 v.half, .string v.text, .slice la v.list.length lc, .slice ka v.keys.length kc, .slice va v.vals.length vc] 26)).heap.size = w.heap.size + 1 := by simp
    rw [hsz] at h2
    exact h2
  have hxW : JAt W B (n + 1) _ v := JAt.keep (fun p hp => bW.cell (by omega)) (Nat.le_refl _) (n + 1) _ _ hx'.out
  replace hxW := hide hxW
  replace bW := hide bW
  replace kW := hide kW
  replace sW := hide sW
  replace hg := hide hg
  replace hk := hide hk
  go_enter Tryd.func25, Tryd.ntmps25
  go_wp2_with fail
  rw [← hW]
  clear hW
  refine (toGo_any (n + 1) W B _ v hxW.out hg.out (by have := sW.out; omega)).mono ?_
  rintro e W1 ⟨y, rfl, b1, hy⟩
  have hy3 := hy.num hk.out
  subst hy3
  have kW1 := hide (kW.out.below b1 (by have := sW.out; omega))
  have b2 := hide (bW.out.trans (b1.mono bW.out.size))
  clear b1 hy
  have hz := hide fun W => zzNeg_any W v.half hnum
  have hR := hide fun W => result_of n W 0 _ _ (numG_gat W 0 n (-v.half)) (fun W _ => numG_fg W n _ hnum2)
  obtain ⟨u, hu⟩ : ∃ u, u = numJ (-v.half) := ⟨_, rfl⟩
  obtain ⟨t1, u1, e1⟩ := numG_form v.half
  obtain ⟨t2, u2, e2⟩ := numG_form (-v.half)
  rw [e1, e2] at hz
  rw [e2, ← hu] at hR
  rw [e1]
  clear e1 e2
  replace hu := hide hu
  replace hnum := hide hnum
  replace hnum2 := hide hnum2
  go_wp2_with (first
    | (go_at_call 49; refine (hz.out _).mono ?_; rintro e W2 ⟨rfl, rfl⟩)
    | (go_at_call 34; refine (hR.out _).mono ?_; rintro e W3 ⟨la', lc', ka', kc', va', vc', rfl, b3, hr⟩; have kW3 := hide (kW1.out.below b3 kW1.out.lt); have b3' := hide (b2.out.trans (b3.mono b2.out.size)); have hr' := hide hr; clear b3 hr)
    | (refine wpList_store_blk rfl 30 (.tmp 2) (.tmp 15) rfl (w.heap.size + 1) _ rfl rfl 30 _ kW3.out res_size rfl (res_one _ _ _ _ _ _ _ _ _ _ _ _ _) ?_; intro W4 k4 o4 s4; have k4' := hide k4; have o4' := hide o4; have s4' := hide s4; clear k4 o4 s4))
  obtain ⟨q0, q1, q2, q3, q4, q5, q6⟩ := blk_seven k4'.out
  have hlo : w.heap.size + 1 < W1.heap.size := kW1.out.lt
  obtain ⟨r1, r2⟩ := door_end (z := 0) (by omega) b3'.out hr'.out o4'.out s4'.out hlo
  exact bodyPost_ret (v := .agg #[.int .i64 u.kind, .int .i64 u.half, .string u.text, .slice la' u.list.length lc', .slice ka' u.keys.length kc', .slice va' u.vals.length vc', .int .i64 0]) (by simp [results, Tryd.results25, go_sem, q0, q1, q2, q3, q4, q5, q6]) rfl ⟨_, rfl, r1, by rw [← hu.out]; exact r2⟩
end Go.Proofs.YtmkdkcbkgngfdaaDoor
