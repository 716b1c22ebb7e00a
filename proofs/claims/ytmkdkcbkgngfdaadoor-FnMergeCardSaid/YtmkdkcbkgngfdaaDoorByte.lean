/- The thin package's ByteLength, and what a statement asks of an answer. -/
import Derived.Test.YtmkdkcbkgngfdaaDoorFrom
namespace Go.Proofs.YtmkdkcbkgngfdaaDoor
open Go.RowKit
set_option linter.unusedVariables false

theorem bytes_str (w : World) (s : ByteArray) : Calls Tryd.prog 35 #[.iface 9 (.string s)] w fun e w' => e = .returned (.iface 3 (.int .i64 s.size)) ∧ w = w' := by
  go_enter Tryd.func35, Tryd.ntmps35
  go_wp2
  go_ret
  exact ⟨rfl, rfl⟩

/-- What is no string. -/
def NoStr (x : Value) : Prop := ∀ W : World, (Instr.typeAssert x 20 9 true).run Tryd.prog W = .ok (.tuple #[.string ByteArray.empty, .bool false]) W

theorem GAt.nostr {w : World} {lo n : Nat} {x : Value} {v : JV} (h : GAt w lo n x v) (hk : ¬ v.kind = 4) : NoStr x := by
  intro W
  cases n with
  | zero => exact absurd h (fun h => h)
  | succ n =>
    rcases h with h | h | h | h | h | h | h | h
    · rw [h.2]; exact as_nil_str W
    · rw [h.2]; exact as_bool_str _ W
    · rw [h.2]; exact as_bool_str _ W
    · rw [h.2.2]; exact as_int_str _ W
    · rw [h.2.2]; exact as_float_str _ W
    · exact absurd h.1 hk
    · obtain ⟨-, b, o, c, h, -⟩ := h
      rw [h]; exact as_list_str _ W
    · obtain ⟨-, b, ents, h, -⟩ := h
      rw [h]; exact as_map_str _ W

theorem bytes_err (w : World) (x : Value) (hx : NoStr x) (hf : x = .nilIface ∨ ∃ t u, x = .iface t u) : Calls Tryd.prog 35 #[x] w fun e w' => ∃ u, e = .returned (.iface 93 u) ∧ Below w.heap.size w w' := by
  unfold NoStr at hx
  rcases hf with rfl | ⟨t, u, rfl⟩
  all_goals
    go_enter Tryd.func35, Tryd.ntmps35
    go_wp2
    go_ret
    exact ⟨_, rfl, (Below.refl _ _).alloc (Nat.le_refl _) _⟩

set_option maxHeartbeats 1000000 in
set_option maxRecDepth 100000 in
theorem result_err (w : World) (v : Value) :
    Calls Tryd.prog 34 #[.iface 93 v] w fun e w' => e = .returned (.agg #[.int .i64 0, .int .i64 0, .string ⟨#[]⟩, .slice none 0 0, .slice none 0 0, .slice none 0 0, .int .i64 1]) ∧ Below w.heap.size w w' := by
  go_enter Tryd.func34, Tryd.ntmps34
  go_wp2
  exact bodyPost_ret (v := .agg #[.int .i64 0, .int .i64 0, .string ⟨#[]⟩, .slice none 0 0, .slice none 0 0, .slice none 0 0, .int .i64 1]) (by simp [results, Tryd.results34, go_sem]) rfl ⟨rfl, (Below.refl _ _).alloc (Nat.le_refl _) _⟩

/-- A number as plain data. -/
def numJ (h : Int) : JV := .mk 3 h ⟨#[]⟩ [] [] []
/-- Nothing. -/
def zeroJ : JV := .mk 0 0 ⟨#[]⟩ [] [] []

theorem zero_jat (w : World) (B n : Nat) : JAt w B (n + 1) (.agg #[.int .i64 0, .int .i64 0, .string ⟨#[]⟩, .slice none 0 0, .slice none 0 0, .slice none 0 0]) zeroJ :=
  JP.jat (n + 1) (P := (· < B)) (fun _ h => h) (JP.leaf (v := zeroJ) rfl rfl rfl (by decide) (by decide) (by decide))
theorem num_jat (w : World) (B n : Nat) (h : Int) (hh : -9223372036854775808 ≤ h ∧ h ≤ 9223372036854775807) : JAt w B (n + 1) (.agg #[.int .i64 3, .int .i64 h, .string ⟨#[]⟩, .slice none 0 0, .slice none 0 0, .slice none 0 0]) (numJ h) :=
  JP.jat (n + 1) (P := (· < B)) (fun _ h => h) (JP.leaf (v := numJ h) rfl rfl rfl (by show (⟨#[]⟩ : ByteArray).size ≤ 9223372036854775807; decide) (by show (-9223372036854775808 : Int) ≤ 3 ∧ (3 : Int) ≤ 9223372036854775807; decide) hh)

/-- An answer: the value, the way it ended. -/
def ResAt (w : World) (B n : Nat) (r : Value) (v : JV) (z : Int) : Prop := ∃ c0 c1 c2 c3 c4 c5, r = .agg #[c0, c1, c2, c3, c4, c5, .int .i64 z] ∧ JAt w B (n + 1) (.agg #[c0, c1, c2, c3, c4, c5]) v

theorem ResAt.keep {w w' : World} {B B' n : Nat} {r : Value} {v : JV} {z : Int} (hk : ∀ p : Addr, p.block < B → w'.cell? p = w.cell? p) (hB : B ≤ B') (h : ResAt w B n r v z) : ResAt w' B' n r v z := by
  obtain ⟨c0, c1, c2, c3, c4, c5, rfl, h⟩ := h
  exact ⟨_, _, _, _, _, _, rfl, JAt.keep hk hB _ _ _ h⟩

theorem num_gat (w : World) (lo n : Nat) (k : Int) : GAt w lo (n + 1) (.iface 3 (.int .i64 k)) (numJ (2 * k)) :=
  Or.inr (Or.inr (Or.inr (Or.inl ⟨rfl, Int.mul_tmod_right 2 k, by show _ = Value.iface _ (.int .i64 ((2 * k).tdiv 2)); rw [Int.mul_tdiv_cancel_left k (by decide)]⟩)))

theorem num_fg (w : World) (n : Nat) (k : Int) (h : -1000000000000000000 ≤ k ∧ k ≤ 1000000000000000000) : FGat (n + 1) w (.iface 3 (.int .i64 k)) (numJ (2 * k)) := by
  refine (fromGo_int w k h).mono ?_
  rintro e w' ⟨rfl, hb⟩
  exact ⟨_, rfl, hb, JP.leaf (v := numJ (2 * k)) rfl rfl rfl (by show (⟨#[]⟩ : ByteArray).size ≤ 9223372036854775807; decide) (by show (-9223372036854775808 : Int) ≤ 3 ∧ (3 : Int) ≤ 9223372036854775807; decide) (by show -9223372036854775808 ≤ 2 * k ∧ 2 * k ≤ 9223372036854775807; omega)⟩

/-- An answer's block, and the world behind the call of a door. -/
theorem door_end {n : Nat} {w W2 W3 : World} {v : JV} {z : Int} {lo : Nat} {c0 c1 c2 c3 c4 c5 : Value} (hlo : w.heap.size < lo) (b2 : Below w.heap.size w W2) (hr : JP W2 (Mid lo W2.heap.size) (n + 1) (.agg #[c0, c1, c2, c3, c4, c5]) v)
    (o3 : Only (· = w.heap.size + 1) W2 W3) (s3 : W3.heap.size = W2.heap.size) (hlo2 : w.heap.size + 1 < lo) : Below w.heap.size w W3 ∧ ResAt W3 W3.heap.size n (.agg #[c0, c1, c2, c3, c4, c5, .int .i64 z]) v z := by
  refine ⟨b2.trans (o3.below (by intro k hk; omega) b2.size), _, _, _, _, _, _, rfl, ?_⟩
  refine JP.jat (n + 1) (P := Mid lo W2.heap.size) (fun b hb => by have := hb.2; omega) ?_
  refine JP.keep (fun p hp => ?_) (fun b hb => hb) _ _ _ hr
  have hp1 := hp.1
  have hp2 := hp.2
  exact World.cell?_of_block (o3.block _ hp2 (by intro e; omega))

set_option maxHeartbeats 2000000 in
set_option maxRecDepth 100000 in
theorem byteLength_any (n : Nat) (w : World) (B : Nat) (x : Value) (v : JV) (hx : JAt w B (n + 1) x v) (hg : Good (n + 1) v) (hsz : v.text.size ≤ 4096) (hB : B ≤ w.heap.size) :
    Calls Tryd.prog 10 #[x] w fun e w' => ∃ r, e = .returned r ∧ Below w.heap.size w w' ∧ (v.kind = 4 → ResAt w' w'.heap.size n r (numJ (2 * v.text.size)) 0) ∧ (¬ v.kind = 4 → ResAt w' w'.heap.size n r zeroJ 1) := by
  have hx' := hide hx
  obtain ⟨la, lc, ka, kc, va, vc, rfl, -⟩ := hx
  obtain ⟨W, hW⟩ : ∃ W, W = (w.alloc (.cells #[.int .i64 v.kind, .int .i64 v.half, .string v.text, .slice la v.list.length lc, .slice ka v.keys.length kc, .slice va v.vals.length vc] 26)).alloc (.cells #[.int .i64 0, .int .i64 0, .string ⟨#[]⟩, .slice none 0 0, .slice none 0 0, .slice none 0 0, .int .i64 0] 30) := ⟨_, rfl⟩
  have bW : Below w.heap.size w W := by rw [hW]; exact Below.alloc (Below.alloc (Below.refl _ _) (Nat.le_refl _) _) (by simp) _
  have sW : W.heap.size = w.heap.size + 2 := by rw [hW]; simp
  have kW : Blk W (w.heap.size + 1) 30 #[.int .i64 0, .int .i64 0, .string ⟨#[]⟩, .slice none 0 0, .slice none 0 0, .slice none 0 0, .int .i64 0] := by
    rw [hW]
    have h2 := Blk.new (w.alloc (.cells #[.int .i64 v.kind, .int .i64 v.half, .string v.text, .slice la v.list.length lc, .slice ka v.keys.length kc, .slice va v.vals.length vc] 26)) 30 #[.int .i64 0, .int .i64 0, .string ⟨#[]⟩, .slice none 0 0, .slice none 0 0, .slice none 0 0, .int .i64 0]
    have hsz : (w.alloc (.cells #[.int .i64 v.kind, .int .i64 v.half, .string v.text, .slice la v.list.length lc, .slice ka v.keys.length kc, .slice va v.vals.length vc] 26)).heap.size = w.heap.size + 1 := by simp
    rw [hsz] at h2
    exact h2
  have hxW : JAt W B (n + 1) _ v := JAt.keep (fun p hp => bW.cell (by omega)) (Nat.le_refl _) (n + 1) _ _ hx'.out
  replace hxW := hide hxW
  replace bW := hide bW
  replace kW := hide kW
  replace sW := hide sW
  replace hg := hide hg
  go_enter Tryd.func10, Tryd.ntmps10
  go_wp2_with fail
  rw [← hW]
  clear hW
  refine (toGo_any (n + 1) W B _ v hxW.out hg.out (by have := sW.out; omega)).mono ?_
  rintro e W1 ⟨y, rfl, b1, hy⟩
  have hform := hy.form
  have kW1 := hide (kW.out.below b1 (by have := sW.out; omega))
  have b2 := hide (bW.out.trans (b1.mono bW.out.size))
  have s1 := hide b1.size
  clear b1
  by_cases hk : v.kind = 4
  · have hy4 : y = .iface 9 (.string v.text) := by
      rcases hy with h | h | h | h | h | h | h | h
      · omega
      · omega
      · omega
      · omega
      · omega
      · exact h.2
      · omega
      · omega
    subst hy4
    clear hy hform
    replace hk := hide hk
    go_wp2_with (first
      | (go_at_call 35; refine (bytes_str _ _).mono ?_; rintro e W2 ⟨rfl, rfl⟩)
      | (go_at_call 34; refine (result_of n W1 0 _ _ (num_gat W1 0 n _) (fun W _ => num_fg W n _ (by omega))).mono ?_; rintro e W3 ⟨la', lc', ka', kc', va', vc', rfl, b3, hr⟩; have kW3 := hide (kW1.out.below b3 kW1.out.lt); have b3' := hide (b2.out.trans (b3.mono b2.out.size)); have hr' := hide hr; clear b3 hr)
      | (refine wpList_store_blk rfl 30 (.tmp 2) (.tmp 15) rfl (w.heap.size + 1) _ rfl rfl 30 _ kW3.out res_size rfl (res_one _ _ _ _ _ _ _ _ _ _ _ _ _) ?_; intro W4 k4 o4 s4; have k4' := hide k4; have o4' := hide o4; have s4' := hide s4; clear k4 o4 s4))
    obtain ⟨q0, q1, q2, q3, q4, q5, q6⟩ := blk_seven k4'.out
    have hlo : w.heap.size + 1 < W1.heap.size := kW1.out.lt
    obtain ⟨r1, r2⟩ := door_end (z := 0) (by omega) b3'.out hr'.out o4'.out s4'.out hlo
    exact bodyPost_ret (by simp [results, Tryd.results10, go_sem, q0, q1, q2, q3, q4, q5, q6]) rfl ⟨_, rfl, r1, fun _ => r2, fun h => absurd hk.out h⟩
  · have hns := hide (hy.nostr hk)
    clear hy
    replace hk := hide hk
    rcases hform with rfl | ⟨ty, u, rfl⟩
    all_goals
      go_wp2_with (first
        | (go_at_call 35; refine (bytes_err _ _ hns.out (by first | exact Or.inl rfl | exact Or.inr ⟨_, _, rfl⟩)).mono ?_; rintro e W2 ⟨u2, rfl, b3⟩; have kW2 := hide (kW1.out.below b3 kW1.out.lt); have b3' := hide (b2.out.trans (b3.mono b2.out.size)); clear b3)
        | (go_at_call 34; refine (result_err _ _).mono ?_; rintro e W3 ⟨rfl, b4⟩; have kW3 := hide (kW2.out.below b4 kW2.out.lt); have b4' := hide (b3'.out.trans (b4.mono b3'.out.size)); clear b4)
        | (refine wpList_store_blk rfl 30 (.tmp 2) (.tmp 15) rfl (w.heap.size + 1) _ rfl rfl 30 _ kW3.out res_size rfl (res_one _ _ _ _ _ _ _ _ _ _ _ _ _) ?_; intro W4 k4 o4 s4; have k4' := hide k4; have o4' := hide o4; have s4' := hide s4; clear k4 o4 s4))
      obtain ⟨q0, q1, q2, q3, q4, q5, q6⟩ := blk_seven k4'.out
      exact bodyPost_ret (v := .agg #[.int .i64 0, .int .i64 0, .string ⟨#[]⟩, .slice none 0 0, .slice none 0 0, .slice none 0 0, .int .i64 1]) (by simp [results, Tryd.results10, go_sem, q0, q1, q2, q3, q4, q5, q6]) rfl
        ⟨_, rfl, b4'.out.trans (o4'.out.below (by intro k hk; omega) b4'.out.size), fun h => absurd h hk.out, fun _ => ⟨_, _, _, _, _, _, rfl, zero_jat _ _ n⟩⟩
end Go.Proofs.YtmkdkcbkgngfdaaDoor
