/- The door Merge, walked. -/
import Derived.Test.YtmkdkcbkgngfdaaDoorMrgD
import Derived.Test.YtmkdkcbkgngfdaaDoorFromZ
namespace Go.Proofs.YtmkdkcbkgngfdaaDoor
open Go.RowKit Go.Maps Go.Sort
set_option linter.unusedVariables false

theorem Good.fine {n : Nat} {w : World} {B : Nat} {x : Value} {v : JV} (hx : JAt w B n x v) (hg : Good n v) : Fine n v := ⟨hg, hg.say n hx⟩

theorem mpt_of {n : Nat} {w : World} {lo b : Nat} {ents : List Ent} {v : JV} (hs : Say (n + 1) v) (h1 : b < w.heap.size) (h2 : MapIs w b ents) (h3 : ents.map (·.1) = v.keys) (h4 : ∀ (i : Nat) y, v.vals[i]? = some y → ∃ e : ByteArray × Value, ents[i]? = some e ∧ GAt w lo n e.2 y) :
    MPt w (fun _ => True) n b ents (prs v) := by
  obtain ⟨-, -, -, -, -, hkv, -⟩ := hs
  obtain ⟨z1, z2⟩ := zip_fst v.keys v.vals hkv
  refine ⟨trivial, h1, h2, by rw [h3]; exact z1.symm, fun i y hy => ?_⟩
  have : v.vals[i]? = some y.2 := by
    have h6 : ((prs v).map (·.2))[i]? = some y.2 := by rw [List.getElem?_map, hy]; rfl
    unfold prs at h6
    rw [z2] at h6
    exact h6
  obtain ⟨e, he, hg⟩ := h4 i _ this
  exact ⟨e, he, GP.keep (fun b _ _ => rfl) (Nat.le_refl _) (fun _ _ _ => trivial) n _ _ (GP.of_gat n _ _ hg)⟩

set_option maxHeartbeats 1000000 in
theorem zzMerge (b1 b2 : Nat) (w : World) (Q : Value → World → Prop) (hc : Calls Tryd.prog 69 #[.map (some b1), .map (some b2)] w fun e w' => ∃ g : Nat, e = .returned (.iface 55 (.map (some g))) ∧ Q (.map (some g)) w') :
    Calls Tryd.prog 46 #[.map (some b1), .map (some b2)] w fun e w' => ∃ g : Nat, e = .returned (.iface 55 (.map (some g))) ∧ Q (.map (some g)) w' := by
  replace hc := hide hc
  go_enter Tryd.func46, Tryd.ntmps46
  go_wp2_with (go_at_call 69; refine hc.out.mono ?_; rintro e w' ⟨g, rfl, hq⟩)
  go_ret
  exact ⟨g, rfl, hq⟩

theorem zzMerge_any (n : Nat) (W : World) (b1 b2 : Nat) (ents1 ents2 : List Ent) (v u : JV) (h1 : MPt W (fun _ => True) n b1 ents1 (prs v)) (h2 : MPt W (fun _ => True) n b2 ents2 (prs u)) (hv : Fine (n + 1) v) (hu : Fine (n + 1) u) :
    Calls Tryd.prog 46 #[.map (some b1), .map (some b2)] W fun e w' => ∃ g : Nat, e = .returned (.iface 55 (.map (some g))) ∧ Below W.heap.size W w' ∧ GAt w' 0 (n + 1) (.iface 55 (.map (some g))) (mapJ (mrgW (mvs n) (prs v) (prs u))) := by
  refine (zzMerge b1 b2 W (fun s w' => Below W.heap.size W w' ∧ GAt w' 0 (n + 1) (.iface 55 s) (mapJ (mrgW (mvs n) (prs v) (prs u)))) ((deepMerge_any n W (fun _ => True) b1 b2 ents1 ents2 v u h1 h2 hv hu).mono ?_)).mono ?_
  · rintro e w' ⟨g, ents, rfl, hb, hm⟩
    exact ⟨g, rfl, hb, GP.gat (fun b _ => Nat.zero_le b) (n + 1) _ _ hm.gp⟩
  · rintro e w' ⟨g, rfl, h⟩
    exact ⟨g, rfl, h⟩

set_option maxHeartbeats 2000000 in
set_option maxRecDepth 100000 in
theorem doorMerge_any (n : Nat) (w : World) (B : Nat) (x y : Value) (v u : JV) (hx : JAt w B (n + 1) x v) (hy : JAt w B (n + 1) y u) (hg : Good (n + 1) v) (hg' : Good (n + 1) u) (hk : v.kind = 6) (hk' : u.kind = 6) (hB : B ≤ w.heap.size) :
    Calls Tryd.prog 17 #[x, y] w fun e w' => ∃ r, e = .returned r ∧ Below w.heap.size w w' ∧ ResAt w' w'.heap.size n r (mapJ (mrgW (mvs n) (prs v) (prs u))) 0 := by
  have hx' := hide hx
  have hy' := hide hy
  have fx := Good.fine hx hg
  have fy := Good.fine hy hg'
  have hsay := mrg_say n v u fx fy
  obtain ⟨la, lc, ka, kc, va, vc, rfl, -⟩ := hx
  obtain ⟨la2, lc2, ka2, kc2, va2, vc2, rfl, -⟩ := hy
  obtain ⟨W, hW⟩ : ∃ W, W = ((w.alloc (.cells #[.int .i64 v.kind, .int .i64 v.half, .string v.text, .slice la v.list.length lc, .slice ka v.keys.length kc, .slice va v.vals.length vc] 26)).alloc (.cells #[.int .i64 u.kind, .int .i64 u.half, .string u.text, .slice la2 u.list.length lc2, .slice ka2 u.keys.length kc2, .slice va2 u.vals.length vc2] 26)).alloc (.cells #[.int .i64 0, .int .i64 0, .string ⟨#[]⟩, .slice none 0 0, .slice none 0 0, .slice none 0 0, .int .i64 0] 30) := ⟨_, rfl⟩
  obtain ⟨Wa, hWa⟩ : ∃ Wa, Wa = w.alloc (.cells #[.int .i64 v.kind, .int .i64 v.half, .string v.text, .slice la v.list.length lc, .slice ka v.keys.length kc, .slice va v.vals.length vc] 26) := ⟨_, rfl⟩
  obtain ⟨Wb, hWb⟩ : ∃ Wb, Wb = Wa.alloc (.cells #[.int .i64 u.kind, .int .i64 u.half, .string u.text, .slice la2 u.list.length lc2, .slice ka2 u.keys.length kc2, .slice va2 u.vals.length vc2] 26) := ⟨_, rfl⟩
  have hWc : W = Wb.alloc (.cells #[.int .i64 0, .int .i64 0, .string ⟨#[]⟩, .slice none 0 0, .slice none 0 0, .slice none 0 0, .int .i64 0] 30) := by rw [hWb, hWa]; exact hW
  have sa : Wa.heap.size = w.heap.size + 1 := by rw [hWa]; simp
  have sb : Wb.heap.size = w.heap.size + 2 := by rw [hWb]; simp [sa]
  have sW : W.heap.size = w.heap.size + 3 := by rw [hWc]; simp [sb]
  have bW : Below w.heap.size w W := by rw [hW]; exact Below.alloc (Below.alloc (Below.alloc (Below.refl _ _) (Nat.le_refl _) _) (by simp) _) (by simp; omega) _
  have kX : Blk W w.heap.size 26 #[.int .i64 v.kind, .int .i64 v.half, .string v.text, .slice la v.list.length lc, .slice ka v.keys.length kc, .slice va v.vals.length vc] := by
    have h := Blk.new w 26 #[.int .i64 v.kind, .int .i64 v.half, .string v.text, .slice la v.list.length lc, .slice ka v.keys.length kc, .slice va v.vals.length vc]
    rw [← hWa] at h
    rw [hWc, hWb]
    exact (h.alloc _).alloc _
  have kY : Blk W (w.heap.size + 1) 26 #[.int .i64 u.kind, .int .i64 u.half, .string u.text, .slice la2 u.list.length lc2, .slice ka2 u.keys.length kc2, .slice va2 u.vals.length vc2] := by
    have h := Blk.new Wa 26 #[.int .i64 u.kind, .int .i64 u.half, .string u.text, .slice la2 u.list.length lc2, .slice ka2 u.keys.length kc2, .slice va2 u.vals.length vc2]
    rw [← hWb, sa] at h
    rw [hWc]
    exact h.alloc _
  have kW : Blk W (w.heap.size + 2) 30 #[.int .i64 0, .int .i64 0, .string ⟨#[]⟩, .slice none 0 0, .slice none 0 0, .slice none 0 0, .int .i64 0] := by
    have h := Blk.new Wb 30 #[.int .i64 0, .int .i64 0, .string ⟨#[]⟩, .slice none 0 0, .slice none 0 0, .slice none 0 0, .int .i64 0]
    rw [← hWc, sb] at h
    exact h
  have hxW : JAt W B (n + 1) _ v := JAt.keep (fun p hp => bW.cell (by omega)) (Nat.le_refl _) (n + 1) _ _ hx'.out
  have hyW : ∀ W1, Below W.heap.size W W1 → JAt W1 B (n + 1) _ u := fun W1 h => JAt.keep (fun p hp => (h.cell (by omega)).trans (bW.cell (by omega))) (Nat.le_refl _) (n + 1) _ _ hy'.out
  clear hWa hWb hWc sa sb hx' hy'
  replace hxW := hide hxW
  replace hyW := hide hyW
  replace bW := hide bW
  replace kW := hide kW
  replace kX := hide kX
  replace kY := hide kY
  replace sW := hide sW
  replace hg := hide hg
  replace hg' := hide hg'
  replace fx := hide fx
  replace fy := hide fy
  replace hsay := hide hsay
  replace hk := hide hk
  replace hk' := hide hk'
  go_enter Tryd.func17, Tryd.ntmps17
  go_wp2_with fail
  rw [← hW]
  clear hW
  refine (mapToGo_any n W B _ v hxW.out hg.out (by have := sW.out; omega)).mono ?_
  rintro e W1 ⟨b1, ents1, rfl, c1, d1, d2, d3, d4, d5⟩
  have m1 := mpt_of fx.out.2 d2 d3 d4 d5
  have hy1 := hide (hyW.out W1 c1)
  have kY1 := kY.out.below c1 (by have := sW.out; omega)
  obtain ⟨q0, q1, q2, q3, q4, q5⟩ := blk_six kY1
  replace c1 := hide c1
  replace m1 := hide m1
  replace kY1 := hide kY1
  clear d1 d2 d3 d4 d5
  go_wp2_with fail
  clear q0 q1 q2 q3 q4 q5
  refine (mapToGo_any n W1 B _ u hy1.out hg'.out (by have := sW.out; have := c1.out.size; omega)).mono ?_
  rintro e W2 ⟨b2, ents2, rfl, c2, d1, d2, d3, d4, d5⟩
  have m2 := mpt_of fy.out.2 d2 d3 d4 d5
  have m1' := m1.out.keep (P' := fun _ => True) (fun b hb _ => c2.block b hb) c2.size (fun _ _ _ => trivial)
  have cc := c1.out.trans (c2.mono c1.out.size)
  have z0 : W2.cell? ⟨w.heap.size, 0, none⟩ = some (.int .i64 6) := by
    rw [(kX.out.below cc (by have := sW.out; omega)).cell 0, ← hk.out]; rfl
  have z1 : W2.cell? ⟨w.heap.size + 1, 0, none⟩ = some (.int .i64 6) := by
    rw [(kY.out.below cc (by have := sW.out; omega)).cell 0, ← hk'.out]; rfl
  have kW2 := hide (kW.out.below cc (by have := sW.out; omega))
  have bw2 := hide (bW.out.trans (cc.mono bW.out.size))
  have hc := hide (zzMerge_any n W2 b1 b2 ents1 ents2 v u m1' m2 fx.out fy.out)
  clear m1 m2 m1' c2 d1 d2 d3 d4 d5 cc
  obtain ⟨t, ht⟩ : ∃ t, t = mapJ (mrgW (mvs n) (prs v) (prs u)) := ⟨_, rfl⟩
  rw [← ht] at hc hsay
  have hR := hide fun (W3 : World) (s : Value) (hg2 : GAt W3 0 (n + 1) s t) => result_of n W3 0 _ t hg2 (fun W4 hb => fromGo_any (n + 1) W4 0 _ _ (GAt.only (P := fun _ => False) (Only.of_below hb (fun k hk _ => hk)) (fun k hk => hk.elim) (n + 1) _ _ hg2) hsay.out)
  replace ht := hide ht
  go_wp2_with (first
    | (go_at_call 46; refine hc.out.mono ?_; rintro e W3 ⟨g, rfl, b3, hg3⟩; have kW3 := hide (kW2.out.below b3 kW2.out.lt); have b3' := hide (bw2.out.trans (b3.mono bw2.out.size)); have hg3' := hide hg3; clear b3 hg3)
    | (go_at_call 34; refine (hR.out _ _ hg3'.out).mono ?_; rintro e W4 ⟨la', lc', ka', kc', va', vc', rfl, b4, hr⟩; have kW4 := hide (kW3.out.below b4 kW3.out.lt); have b4' := hide (b3'.out.trans (b4.mono b3'.out.size)); have hr' := hide hr; clear b4 hr)
    | (refine wpList_store_blk rfl 30 (.tmp 4) (.tmp 39) rfl (w.heap.size + 2) _ rfl rfl 30 _ kW4.out res_size rfl (res_one _ _ _ _ _ _ _ _ _ _ _ _ _) ?_; intro W5 k5 o5 s5; have k5' := hide k5; have o5' := hide o5; have s5' := hide s5; clear k5 o5 s5))
  obtain ⟨q0, q1, q2, q3, q4, q5, q6⟩ := blk_seven k5'.out
  have hlo : w.heap.size + 2 < W3.heap.size := kW3.out.lt
  refine bodyPost_ret (v := .agg #[.int .i64 t.kind, .int .i64 t.half, .string t.text, .slice la' t.list.length lc', .slice ka' t.keys.length kc', .slice va' t.vals.length vc', .int .i64 0]) (by simp [results, Tryd.results17, go_sem, q0, q1, q2, q3, q4, q5, q6]) rfl ⟨_, rfl, b4'.out.trans (o5'.out.below (by intro k hk; omega) b4'.out.size), ?_⟩
  rw [← ht.out]
  refine ⟨_, _, _, _, _, _, rfl, JP.jat (n + 1) (P := Mid W3.heap.size W4.heap.size) (fun b hb => by have := hb.2; rw [s5'.out]; exact this) (JP.keep (fun p hp => ?_) (fun b hb => hb) _ _ _ hr'.out)⟩
  have hp1 := hp.1
  have hp2 := hp.2
  exact World.cell?_of_block (o5'.out.block _ hp2 (by intro e; omega))
end Go.Proofs.YtmkdkcbkgngfdaaDoor
