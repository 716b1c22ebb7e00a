/- The doors LTrim, RTrim, Trim, walked (printed by mktrim.py). -/
import Derived.Test.YtmkdkcbkgngfdaaDoorTrimW
namespace Go.Proofs.YtmkdkcbkgngfdaaDoor
open Go.RowKit Go.Lib
set_option linter.unusedVariables false

/-- A string as plain data. -/
def strJ (s : ByteArray) : JV := .mk 4 0 s [] [] []

set_option maxHeartbeats 1000000 in
theorem fromGo_str (w : World) (s : ByteArray) :
    Calls Tryd.prog 55 #[.iface 9 (.string s)] w fun e w' => e = .returned (.tuple #[.agg #[.int .i64 4, .int .i64 0, .string s, .slice none 0 0, .slice none 0 0, .slice none 0 0], .bool true]) ∧ Below w.heap.size w w' := by
  go_enter Tryd.func55, Tryd.ntmps55
  go_wp2
  exact bodyPost_ret (v := .tuple #[.agg #[.int .i64 4, .int .i64 0, .string s, .slice none 0 0, .slice none 0 0, .slice none 0 0], .bool true]) (by simp [results, Tryd.results55, go_sem]) rfl ⟨rfl, (Below.refl _ _).alloc (Nat.le_refl _) _⟩

theorem str_leaf (w : World) (P : Nat → Prop) (n : Nat) (s : ByteArray) (hs : s.size ≤ 9223372036854775807) : JP w P (n + 1) (.agg #[.int .i64 4, .int .i64 0, .string s, .slice none 0 0, .slice none 0 0, .slice none 0 0]) (strJ s) :=
  JP.leaf (v := strJ s) rfl rfl rfl hs (by show (-9223372036854775808 : Int) ≤ 4 ∧ (4 : Int) ≤ 9223372036854775807; decide) (by show (-9223372036854775808 : Int) ≤ 0 ∧ (0 : Int) ≤ 9223372036854775807; decide)
theorem str_jat (w : World) (B n : Nat) (s : ByteArray) (hs : s.size ≤ 9223372036854775807) : JAt w B (n + 1) (.agg #[.int .i64 4, .int .i64 0, .string s, .slice none 0 0, .slice none 0 0, .slice none 0 0]) (strJ s) :=
  JP.jat (n + 1) (P := (· < B)) (fun _ h => h) (str_leaf w _ n s hs)
theorem str_gat (w : World) (lo n : Nat) (s : ByteArray) : GAt w lo (n + 1) (.iface 9 (.string s)) (strJ s) :=
  Or.inr (Or.inr (Or.inr (Or.inr (Or.inr (Or.inl ⟨rfl, rfl⟩)))))
theorem str_fg (w : World) (n : Nat) (s : ByteArray) (hs : s.size ≤ 9223372036854775807) : FGat (n + 1) w (.iface 9 (.string s)) (strJ s) := by
  refine (fromGo_str w s).mono ?_
  rintro e w' ⟨rfl, hb⟩
  exact ⟨_, rfl, hb, str_leaf _ _ n s hs⟩

theorem LTrim_at (w : World) (s : ByteArray) (hs : s.size ≤ 9223372036854775807) (hT : Lib.Utf8Tabs 1 2 w) : Calls Tryd.prog 94 #[.string s, .func (.func 95) #[] #[]] w fun e w' => e = .returned (.string (trimLeftF sp s)) ∧ Below w.heap.size w w' :=
  Any.strings_TrimLeftFunc Tryd.lays272 95 #[] (enters_of Tryd.func95 (by kernel_rfl) rfl) sp s w (space_pays w)

set_option maxHeartbeats 1000000 in
theorem LTrim_str (w : World) (s : ByteArray) (hs : s.size ≤ 9223372036854775807) (hT : Lib.Utf8Tabs 1 2 w) : Calls Tryd.prog 73 #[.iface 9 (.string s)] w fun e w' => e = .returned (.iface 9 (.string (trimLeftF sp s))) ∧ Below w.heap.size w w' := by
  have hc := hide (LTrim_at w s hs hT)
  go_enter Tryd.func73, Tryd.ntmps73
  go_wp2_with (go_at_call 94; refine hc.out.mono ?_; rintro e w' ⟨rfl, hb⟩)
  go_ret
  exact ⟨rfl, hb⟩

set_option maxHeartbeats 1000000 in
theorem LTrim_err (w : World) (x : Value) (hx : NoStr x) (hf : x = .nilIface ∨ ∃ t u, x = .iface t u) : Calls Tryd.prog 73 #[x] w fun e w' => ∃ u, e = .returned (.iface 93 u) ∧ Below w.heap.size w w' := by
  unfold NoStr at hx
  rcases hf with rfl | ⟨t, u, rfl⟩
  all_goals
    go_enter Tryd.func73, Tryd.ntmps73
    go_wp2
    go_ret
    exact ⟨_, rfl, (Below.refl _ _).alloc (Nat.le_refl _) _⟩

set_option maxHeartbeats 1000000 in
theorem LTrim_zz (x : Value) (w : World) (Q : Value → World → Prop) (hc : Calls Tryd.prog 73 #[x] w fun e w' => ∃ y, e = .returned y ∧ Q y w') (hf : x = .nilIface ∨ ∃ t u, x = .iface t u) : Calls Tryd.prog 50 #[x] w fun e w' => ∃ y, e = .returned y ∧ Q y w' := by
  replace hc := hide hc
  rcases hf with rfl | ⟨t, u, rfl⟩
  all_goals
    go_enter Tryd.func50, Tryd.ntmps50
    go_wp2_with (go_at_call 73; refine hc.out.mono ?_; rintro e w' ⟨y, rfl, hq⟩)
    go_ret
    exact ⟨y, rfl, hq⟩

set_option maxHeartbeats 2000000 in
set_option maxRecDepth 100000 in
theorem doorLTrim_any (n : Nat) (w : World) (B : Nat) (x : Value) (v : JV) (hx : JAt w B (n + 1) x v) (hg : Good (n + 1) v) (hT : Tabs w B) (hs : v.text.size ≤ 9223372036854775807) (hB : B ≤ w.heap.size) :
    Calls Tryd.prog 26 #[x] w fun e w' => ∃ r, e = .returned r ∧ Below w.heap.size w w' ∧ (v.kind = 4 → ResAt w' w'.heap.size n r (strJ (trimLeftF sp v.text)) 0) ∧ (¬ v.kind = 4 → ResAt w' w'.heap.size n r zeroJ 1) := by
  have hx' := hide hx
  have hsz : (trimLeftF sp v.text).size ≤ 9223372036854775807 := Nat.le_trans (trimLeftF_size sp v.text) hs
  obtain ⟨la, lc, ka, kc, va, vc, rfl, -⟩ := hx
  obtain ⟨W, hW⟩ : ∃ W, W = (w.alloc (.cells #[.int .i64 v.kind, .int .i64 v.half, .string v.text, .slice la v.list.length lc, .slice ka v.keys.length kc, .slice va v.vals.length vc] 26)).alloc (.cells #[.int .i64 0, .int .i64 0, .string ⟨#[]⟩, .slice none 0 0, .slice none 0 0, .slice none 0 0, .int .i64 0] 30) := ⟨_, rfl⟩
  have bW : Below w.heap.size w W := by rw [hW]; exact Below.alloc (Below.alloc (Below.refl _ _) (Nat.le_refl _) _) (by simp) _
  have sW : W.heap.size = w.heap.size + 2 := by rw [hW]; simp
  have kW : Blk W (w.heap.size + 1) 30 #[.int .i64 0, .int .i64 0, .string ⟨#[]⟩, .slice none 0 0, .slice none 0 0, .slice none 0 0, .int .i64 0] := by
    rw [hW]
    have h2 := Blk.new (w.alloc (.cells #[.int .i64 v.kind, .int .i64 v.half, .string v.text, .slice la v.list.length lc, .slice ka v.keys.length kc, .slice va v.vals.length vc] 26)) 30 #[.int .i64 0, .int .i64 0, .string ⟨#[]⟩, .slice none 0 0, .slice none 0 0, .slice none 0 0, .int .i64 0]
    have hsz : (w.alloc (.cells #[.int .i64 v.kind, .int .i64 v.half, .string v.text, .slice la v.list.length lc, .slice ka v.keys.length kc, .slice va v.vals.length vc] 26)).heap.size = w.heap.size + 1 := by simp
    rw [hsz] at h2
    exact h2
  have hxW : JAt W B (n + 1) _ v := JAt.keep (fun p hp => bW.cell (by omega)) (Nat.le_refl _) (n + 1) _ _ hx'.out
  have hTW : Tabs W B := hT.keep (fun p hp => bW.cell (by omega))
  have hTs : ∀ W', Below W.heap.size W W' → Lib.Utf8Tabs 1 2 W' := fun W' h => (hTW.keep (fun p hp => h.cell (by omega))).1
  clear hT hTW
  replace hTs := hide hTs
  replace hxW := hide hxW
  replace bW := hide bW
  replace kW := hide kW
  replace sW := hide sW
  replace hg := hide hg
  replace hs := hide hs
  replace hsz := hide hsz
  go_enter Tryd.func26, Tryd.ntmps26
  go_wp2_with fail
  rw [← hW]
  clear hW
  refine (toGo_any (n + 1) W B _ v hxW.out hg.out (by have := sW.out; omega)).mono ?_
  rintro e W1 ⟨y, rfl, b1, hy⟩
  have hform := hy.form
  have kW1 := hide (kW.out.below b1 (by have := sW.out; omega))
  have b2 := hide (bW.out.trans (b1.mono bW.out.size))
  have hT1 := hide (hTs.out W1 b1)
  have s1 := hide b1.size
  clear b1
  by_cases hk : v.kind = 4
  · have hy4 : y = .iface 9 (.string v.text) := by
      rcases hy with h | h | h | h | h | h | h | h
      · omega
      · omega
      · omega
      · omega
      · omega
      · exact h.2
      · omega
      · omega
    subst hy4
    clear hy hform
    replace hk := hide hk
    have hc := hide (LTrim_zz _ W1 (fun y w' => y = Value.iface 9 (.string (trimLeftF sp v.text)) ∧ Below W1.heap.size W1 w') ((LTrim_str W1 v.text hs.out hT1.out).mono (fun e w' h => ⟨_, h.1, rfl, h.2⟩)) (Or.inr ⟨_, _, rfl⟩))
    go_wp2_with (first
      | (go_at_call 50; refine hc.out.mono ?_; rintro e W2 ⟨y, rfl, rfl, b3⟩; have kW2 := hide (kW1.out.below b3 kW1.out.lt); have b3' := hide (b2.out.trans (b3.mono b2.out.size)); have s3 := hide b3.size; clear b3)
      | (go_at_call 34; refine (result_of n W2 0 _ _ (str_gat W2 0 n _) (fun W _ => str_fg W n _ hsz.out)).mono ?_; rintro e W3 ⟨la', lc', ka', kc', va', vc', rfl, b4, hr⟩; have kW3 := hide (kW2.out.below b4 kW2.out.lt); have b4' := hide (b3'.out.trans (b4.mono b3'.out.size)); have hr' := hide hr; clear b4 hr)
      | (refine wpList_store_blk rfl 30 (.tmp 2) (.tmp 15) rfl (w.heap.size + 1) _ rfl rfl 30 _ kW3.out res_size rfl (res_one _ _ _ _ _ _ _ _ _ _ _ _ _) ?_; intro W4 k4 o4 s4; have k4' := hide k4; have o4' := hide o4; have s4' := hide s4; clear k4 o4 s4))
    obtain ⟨q0, q1, q2, q3, q4, q5, q6⟩ := blk_seven k4'.out
    have hlo : w.heap.size + 1 < W2.heap.size := kW2.out.lt
    obtain ⟨r1, r2⟩ := door_end (z := 0) (by omega) b4'.out hr'.out o4'.out s4'.out hlo
    exact bodyPost_ret (by simp [results, Tryd.results26, go_sem, q0, q1, q2, q3, q4, q5, q6]) rfl ⟨_, rfl, r1, fun _ => r2, fun h => absurd hk.out h⟩
  · have hns := hide (hy.nostr hk)
    clear hy
    replace hk := hide hk
    have hc := hide (LTrim_zz _ W1 (fun y w' => (∃ u', y = Value.iface 93 u') ∧ Below W1.heap.size W1 w') ((LTrim_err W1 y hns.out hform).mono (fun e w' ⟨u, h1, h2⟩ => ⟨_, h1, ⟨u, rfl⟩, h2⟩)) hform)
    rcases hform with rfl | ⟨ty, u, rfl⟩
    all_goals
      go_wp2_with (first
        | (go_at_call 50; refine hc.out.mono ?_; rintro e W2 ⟨y2, rfl, ⟨u2, rfl⟩, b3⟩; have kW2 := hide (kW1.out.below b3 kW1.out.lt); have b3' := hide (b2.out.trans (b3.mono b2.out.size)); clear b3)
        | (go_at_call 34; refine (result_err _ _).mono ?_; rintro e W3 ⟨rfl, b4⟩; have kW3 := hide (kW2.out.below b4 kW2.out.lt); have b4' := hide (b3'.out.trans (b4.mono b3'.out.size)); clear b4)
        | (refine wpList_store_blk rfl 30 (.tmp 2) (.tmp 15) rfl (w.heap.size + 1) _ rfl rfl 30 _ kW3.out res_size rfl (res_one _ _ _ _ _ _ _ _ _ _ _ _ _) ?_; intro W4 k4 o4 s4; have k4' := hide k4; have o4' := hide o4; have s4' := hide s4; clear k4 o4 s4))
      obtain ⟨q0, q1, q2, q3, q4, q5, q6⟩ := blk_seven k4'.out
      exact bodyPost_ret (v := .agg #[.int .i64 0, .int .i64 0, .string ⟨#[]⟩, .slice none 0 0, .slice none 0 0, .slice none 0 0, .int .i64 1]) (by simp [results, Tryd.results26, go_sem, q0, q1, q2, q3, q4, q5, q6]) rfl
        ⟨_, rfl, b4'.out.trans (o4'.out.below (by intro k hk; omega) b4'.out.size), fun h => absurd h hk.out, fun _ => ⟨_, _, _, _, _, _, rfl, zero_jat _ _ n⟩⟩

theorem RTrim_at (w : World) (s : ByteArray) (hs : s.size ≤ 9223372036854775807) (hT : Lib.Utf8Tabs 1 2 w) : Calls Tryd.prog 96 #[.string s, .func (.func 95) #[] #[]] w fun e w' => e = .returned (.string (trimRightF sp s)) ∧ Below w.heap.size w w' :=
  Any.strings_TrimRightFunc Tryd.lays238 95 #[] (enters_of Tryd.func95 (by kernel_rfl) rfl) sp s w hs hT (space_pays w)

set_option maxHeartbeats 1000000 in
theorem RTrim_str (w : World) (s : ByteArray) (hs : s.size ≤ 9223372036854775807) (hT : Lib.Utf8Tabs 1 2 w) : Calls Tryd.prog 74 #[.iface 9 (.string s)] w fun e w' => e = .returned (.iface 9 (.string (trimRightF sp s))) ∧ Below w.heap.size w w' := by
  have hc := hide (RTrim_at w s hs hT)
  go_enter Tryd.func74, Tryd.ntmps74
  go_wp2_with (go_at_call 96; refine hc.out.mono ?_; rintro e w' ⟨rfl, hb⟩)
  go_ret
  exact ⟨rfl, hb⟩

set_option maxHeartbeats 1000000 in
theorem RTrim_err (w : World) (x : Value) (hx : NoStr x) (hf : x = .nilIface ∨ ∃ t u, x = .iface t u) : Calls Tryd.prog 74 #[x] w fun e w' => ∃ u, e = .returned (.iface 93 u) ∧ Below w.heap.size w w' := by
  unfold NoStr at hx
  rcases hf with rfl | ⟨t, u, rfl⟩
  all_goals
    go_enter Tryd.func74, Tryd.ntmps74
    go_wp2
    go_ret
    exact ⟨_, rfl, (Below.refl _ _).alloc (Nat.le_refl _) _⟩

set_option maxHeartbeats 1000000 in
theorem RTrim_zz (x : Value) (w : World) (Q : Value → World → Prop) (hc : Calls Tryd.prog 74 #[x] w fun e w' => ∃ y, e = .returned y ∧ Q y w') (hf : x = .nilIface ∨ ∃ t u, x = .iface t u) : Calls Tryd.prog 51 #[x] w fun e w' => ∃ y, e = .returned y ∧ Q y w' := by
  replace hc := hide hc
  rcases hf with rfl | ⟨t, u, rfl⟩
  all_goals
    go_enter Tryd.func51, Tryd.ntmps51
    go_wp2_with (go_at_call 74; refine hc.out.mono ?_; rintro e w' ⟨y, rfl, hq⟩)
    go_ret
    exact ⟨y, rfl, hq⟩

set_option maxHeartbeats 2000000 in
set_option maxRecDepth 100000 in
theorem doorRTrim_any (n : Nat) (w : World) (B : Nat) (x : Value) (v : JV) (hx : JAt w B (n + 1) x v) (hg : Good (n + 1) v) (hT : Tabs w B) (hs : v.text.size ≤ 9223372036854775807) (hB : B ≤ w.heap.size) :
    Calls Tryd.prog 27 #[x] w fun e w' => ∃ r, e = .returned r ∧ Below w.heap.size w w' ∧ (v.kind = 4 → ResAt w' w'.heap.size n r (strJ (trimRightF sp v.text)) 0) ∧ (¬ v.kind = 4 → ResAt w' w'.heap.size n r zeroJ 1) := by
  have hx' := hide hx
  have hsz : (trimRightF sp v.text).size ≤ 9223372036854775807 := Nat.le_trans (trimRightF_size sp v.text) hs
  obtain ⟨la, lc, ka, kc, va, vc, rfl, -⟩ := hx
  obtain ⟨W, hW⟩ : ∃ W, W = (w.alloc (.cells #[.int .i64 v.kind, .int .i64 v.half, .string v.text, .slice la v.list.length lc, .slice ka v.keys.length kc, .slice va v.vals.length vc] 26)).alloc (.cells #[.int .i64 0, .int .i64 0, .string ⟨#[]⟩, .slice none 0 0, .slice none 0 0, .slice none 0 0, .int .i64 0] 30) := ⟨_, rfl⟩
  have bW : Below w.heap.size w W := by rw [hW]; exact Below.alloc (Below.alloc (Below.refl _ _) (Nat.le_refl _) _) (by simp) _
  have sW : W.heap.size = w.heap.size + 2 := by rw [hW]; simp
  have kW : Blk W (w.heap.size + 1) 30 #[.int .i64 0, .int .i64 0, .string ⟨#[]⟩, .slice none 0 0, .slice none 0 0, .slice none 0 0, .int .i64 0] := by
    rw [hW]
    have h2 := Blk.new (w.alloc (.cells #[.int .i64 v.kind, .int .i64 v.half, .string v.text, .slice la v.list.length lc, .slice ka v.keys.length kc, .slice va v.vals.length vc] 26)) 30 #[.int .i64 0, .int .i64 0, .string ⟨#[]⟩, .slice none 0 0, .slice none 0 0, .slice none 0 0, .int .i64 0]
    have hsz : (w.alloc (.cells #[.int .i64 v.kind, .int .i64 v.half, .string v.text, .slice la v.list.length lc, .slice ka v.keys.length kc, .slice va v.vals.length vc] 26)).heap.size = w.heap.size + 1 := by simp
    rw [hsz] at h2
    exact h2
  have hxW : JAt W B (n + 1) _ v := JAt.keep (fun p hp => bW.cell (by omega)) (Nat.le_refl _) (n + 1) _ _ hx'.out
  have hTW : Tabs W B := hT.keep (fun p hp => bW.cell (by omega))
  have hTs : ∀ W', Below W.heap.size W W' → Lib.Utf8Tabs 1 2 W' := fun W' h => (hTW.keep (fun p hp => h.cell (by omega))).1
  clear hT hTW
  replace hTs := hide hTs
  replace hxW := hide hxW
  replace bW := hide bW
  replace kW := hide kW
  replace sW := hide sW
  replace hg := hide hg
  replace hs := hide hs
  replace hsz := hide hsz
  go_enter Tryd.func27, Tryd.ntmps27
  go_wp2_with fail
  rw [← hW]
  clear hW
  refine (toGo_any (n + 1) W B _ v hxW.out hg.out (by have := sW.out; omega)).mono ?_
  rintro e W1 ⟨y, rfl, b1, hy⟩
  have hform := hy.form
  have kW1 := hide (kW.out.below b1 (by have := sW.out; omega))
  have b2 := hide (bW.out.trans (b1.mono bW.out.size))
  have hT1 := hide (hTs.out W1 b1)
  have s1 := hide b1.size
  clear b1
  by_cases hk : v.kind = 4
  · have hy4 : y = .iface 9 (.string v.text) := by
      rcases hy with h | h | h | h | h | h | h | h
      · omega
      · omega
      · omega
      · omega
      · omega
      · exact h.2
      · omega
      · omega
    subst hy4
    clear hy hform
    replace hk := hide hk
    have hc := hide (RTrim_zz _ W1 (fun y w' => y = Value.iface 9 (.string (trimRightF sp v.text)) ∧ Below W1.heap.size W1 w') ((RTrim_str W1 v.text hs.out hT1.out).mono (fun e w' h => ⟨_, h.1, rfl, h.2⟩)) (Or.inr ⟨_, _, rfl⟩))
    go_wp2_with (first
      | (go_at_call 51; refine hc.out.mono ?_; rintro e W2 ⟨y, rfl, rfl, b3⟩; have kW2 := hide (kW1.out.below b3 kW1.out.lt); have b3' := hide (b2.out.trans (b3.mono b2.out.size)); have s3 := hide b3.size; clear b3)
      | (go_at_call 34; refine (result_of n W2 0 _ _ (str_gat W2 0 n _) (fun W _ => str_fg W n _ hsz.out)).mono ?_; rintro e W3 ⟨la', lc', ka', kc', va', vc', rfl, b4, hr⟩; have kW3 := hide (kW2.out.below b4 kW2.out.lt); have b4' := hide (b3'.out.trans (b4.mono b3'.out.size)); have hr' := hide hr; clear b4 hr)
      | (refine wpList_store_blk rfl 30 (.tmp 2) (.tmp 15) rfl (w.heap.size + 1) _ rfl rfl 30 _ kW3.out res_size rfl (res_one _ _ _ _ _ _ _ _ _ _ _ _ _) ?_; intro W4 k4 o4 s4; have k4' := hide k4; have o4' := hide o4; have s4' := hide s4; clear k4 o4 s4))
    obtain ⟨q0, q1, q2, q3, q4, q5, q6⟩ := blk_seven k4'.out
    have hlo : w.heap.size + 1 < W2.heap.size := kW2.out.lt
    obtain ⟨r1, r2⟩ := door_end (z := 0) (by omega) b4'.out hr'.out o4'.out s4'.out hlo
    exact bodyPost_ret (by simp [results, Tryd.results27, go_sem, q0, q1, q2, q3, q4, q5, q6]) rfl ⟨_, rfl, r1, fun _ => r2, fun h => absurd hk.out h⟩
  · have hns := hide (hy.nostr hk)
    clear hy
    replace hk := hide hk
    have hc := hide (RTrim_zz _ W1 (fun y w' => (∃ u', y = Value.iface 93 u') ∧ Below W1.heap.size W1 w') ((RTrim_err W1 y hns.out hform).mono (fun e w' ⟨u, h1, h2⟩ => ⟨_, h1, ⟨u, rfl⟩, h2⟩)) hform)
    rcases hform with rfl | ⟨ty, u, rfl⟩
    all_goals
      go_wp2_with (first
        | (go_at_call 51; refine hc.out.mono ?_; rintro e W2 ⟨y2, rfl, ⟨u2, rfl⟩, b3⟩; have kW2 := hide (kW1.out.below b3 kW1.out.lt); have b3' := hide (b2.out.trans (b3.mono b2.out.size)); clear b3)
        | (go_at_call 34; refine (result_err _ _).mono ?_; rintro e W3 ⟨rfl, b4⟩; have kW3 := hide (kW2.out.below b4 kW2.out.lt); have b4' := hide (b3'.out.trans (b4.mono b3'.out.size)); clear b4)
        | (refine wpList_store_blk rfl 30 (.tmp 2) (.tmp 15) rfl (w.heap.size + 1) _ rfl rfl 30 _ kW3.out res_size rfl (res_one _ _ _ _ _ _ _ _ _ _ _ _ _) ?_; intro W4 k4 o4 s4; have k4' := hide k4; have o4' := hide o4; have s4' := hide s4; clear k4 o4 s4))
      obtain ⟨q0, q1, q2, q3, q4, q5, q6⟩ := blk_seven k4'.out
      exact bodyPost_ret (v := .agg #[.int .i64 0, .int .i64 0, .string ⟨#[]⟩, .slice none 0 0, .slice none 0 0, .slice none 0 0, .int .i64 1]) (by simp [results, Tryd.results27, go_sem, q0, q1, q2, q3, q4, q5, q6]) rfl
        ⟨_, rfl, b4'.out.trans (o4'.out.below (by intro k hk; omega) b4'.out.size), fun h => absurd h hk.out, fun _ => ⟨_, _, _, _, _, _, rfl, zero_jat _ _ n⟩⟩

theorem Trim_at (w : World) (s : ByteArray) (hs : s.size ≤ 9223372036854775807) (hT : Lib.Utf8Tabs 1 2 w) : Calls Tryd.prog 97 #[.string s, .func (.func 95) #[] #[]] w fun e w' => e = .returned (.string (trimF sp s)) ∧ Below w.heap.size w w' :=
  Any.strings_TrimFunc Tryd.lays237 95 #[] (enters_of Tryd.func95 (by kernel_rfl) rfl) sp s w hs hT (space_pays w)

set_option maxHeartbeats 1000000 in
theorem Trim_str (w : World) (s : ByteArray) (hs : s.size ≤ 9223372036854775807) (hT : Lib.Utf8Tabs 1 2 w) : Calls Tryd.prog 75 #[.iface 9 (.string s)] w fun e w' => e = .returned (.iface 9 (.string (trimF sp s))) ∧ Below w.heap.size w w' := by
  have hc := hide (Trim_at w s hs hT)
  go_enter Tryd.func75, Tryd.ntmps75
  go_wp2_with (go_at_call 97; refine hc.out.mono ?_; rintro e w' ⟨rfl, hb⟩)
  go_ret
  exact ⟨rfl, hb⟩

set_option maxHeartbeats 1000000 in
theorem Trim_err (w : World) (x : Value) (hx : NoStr x) (hf : x = .nilIface ∨ ∃ t u, x = .iface t u) : Calls Tryd.prog 75 #[x] w fun e w' => ∃ u, e = .returned (.iface 93 u) ∧ Below w.heap.size w w' := by
  unfold NoStr at hx
  rcases hf with rfl | ⟨t, u, rfl⟩
  all_goals
    go_enter Tryd.func75, Tryd.ntmps75
    go_wp2
    go_ret
    exact ⟨_, rfl, (Below.refl _ _).alloc (Nat.le_refl _) _⟩

set_option maxHeartbeats 1000000 in
theorem Trim_zz (x : Value) (w : World) (Q : Value → World → Prop) (hc : Calls Tryd.prog 75 #[x] w fun e w' => ∃ y, e = .returned y ∧ Q y w') (hf : x = .nilIface ∨ ∃ t u, x = .iface t u) : Calls Tryd.prog 52 #[x] w fun e w' => ∃ y, e = .returned y ∧ Q y w' := by
  replace hc := hide hc
  rcases hf with rfl | ⟨t, u, rfl⟩
  all_goals
    go_enter Tryd.func52, Tryd.ntmps52
    go_wp2_with (go_at_call 75; refine hc.out.mono ?_; rintro e w' ⟨y, rfl, hq⟩)
    go_ret
    exact ⟨y, rfl, hq⟩

set_option maxHeartbeats 2000000 in
set_option maxRecDepth 100000 in
theorem doorTrim_any (n : Nat) (w : World) (B : Nat) (x : Value) (v : JV) (hx : JAt w B (n + 1) x v) (hg : Good (n + 1) v) (hT : Tabs w B) (hs : v.text.size ≤ 9223372036854775807) (hB : B ≤ w.heap.size) :
    Calls Tryd.prog 28 #[x] w fun e w' => ∃ r, e = .returned r ∧ Below w.heap.size w w' ∧ (v.kind = 4 → ResAt w' w'.heap.size n r (strJ (trimF sp v.text)) 0) ∧ (¬ v.kind = 4 → ResAt w' w'.heap.size n r zeroJ 1) := by
  have hx' := hide hx
  have hsz : (trimF sp v.text).size ≤ 9223372036854775807 := Nat.le_trans (trimF_size sp v.text) hs
  obtain ⟨la, lc, ka, kc, va, vc, rfl, -⟩ := hx
  obtain ⟨W, hW⟩ : ∃ W, W = (w.alloc (.cells #[.int .i64 v.kind, .int .i64 v.half, .string v.text, .slice la v.list.length lc, .slice ka v.keys.length kc, .slice va v.vals.length vc] 26)).alloc (.cells #[.int .i64 0, .int .i64 0, .string ⟨#[]⟩, .slice none 0 0, .slice none 0 0, .slice none 0 0, .int .i64 0] 30) := ⟨_, rfl⟩
  have bW : Below w.heap.size w W := by rw [hW]; exact Below.alloc (Below.alloc (Below.refl _ _) (Nat.le_refl _) _) (by simp) _
  have sW : W.heap.size = w.heap.size + 2 := by rw [hW]; simp
  have kW : Blk W (w.heap.size + 1) 30 #[.int .i64 0, .int .i64 0, .string ⟨#[]⟩, .slice none 0 0, .slice none 0 0, .slice none 0 0, .int .i64 0] := by
    rw [hW]
    have h2 := Blk.new (w.alloc (.cells #[.int .i64 v.kind, .int .i64 v.half, .string v.text, .slice la v.list.length lc, .slice ka v.keys.length kc, .slice va v.vals.length vc] 26)) 30 #[.int .i64 0, .int .i64 0, .string ⟨#[]⟩, .slice none 0 0, .slice none 0 0, .slice none 0 0, .int .i64 0]
    have hsz : (w.alloc (.cells #[.int .i64 v.kind, .int .i64 v.half, .string v.text, .slice la v.list.length lc, .slice ka v.keys.length kc, .slice va v.vals.length vc] 26)).heap.size = w.heap.size + 1 := by simp
    rw [hsz] at h2
    exact h2
  have hxW : JAt W B (n + 1) _ v := JAt.keep (fun p hp => bW.cell (by omega)) (Nat.le_refl _) (n + 1) _ _ hx'.out
  have hTW : Tabs W B := hT.keep (fun p hp => bW.cell (by omega))
  have hTs : ∀ W', Below W.heap.size W W' → Lib.Utf8Tabs 1 2 W' := fun W' h => (hTW.keep (fun p hp => h.cell (by omega))).1
  clear hT hTW
  replace hTs := hide hTs
  replace hxW := hide hxW
  replace bW := hide bW
  replace kW := hide kW
  replace sW := hide sW
  replace hg := hide hg
  replace hs := hide hs
  replace hsz := hide hsz
  go_enter Tryd.func28, Tryd.ntmps28
  go_wp2_with fail
  rw [← hW]
  clear hW
  refine (toGo_any (n + 1) W B _ v hxW.out hg.out (by have := sW.out; omega)).mono ?_
  rintro e W1 ⟨y, rfl, b1, hy⟩
  have hform := hy.form
  have kW1 := hide (kW.out.below b1 (by have := sW.out; omega))
  have b2 := hide (bW.out.trans (b1.mono bW.out.size))
  have hT1 := hide (hTs.out W1 b1)
  have s1 := hide b1.size
  clear b1
  by_cases hk : v.kind = 4
  · have hy4 : y = .iface 9 (.string v.text) := by
      rcases hy with h | h | h | h | h | h | h | h
      · omega
      · omega
      · omega
      · omega
      · omega
      · exact h.2
      · omega
      · omega
    subst hy4
    clear hy hform
    replace hk := hide hk
    have hc := hide (Trim_zz _ W1 (fun y w' => y = Value.iface 9 (.string (trimF sp v.text)) ∧ Below W1.heap.size W1 w') ((Trim_str W1 v.text hs.out hT1.out).mono (fun e w' h => ⟨_, h.1, rfl, h.2⟩)) (Or.inr ⟨_, _, rfl⟩))
    go_wp2_with (first
      | (go_at_call 52; refine hc.out.mono ?_; rintro e W2 ⟨y, rfl, rfl, b3⟩; have kW2 := hide (kW1.out.below b3 kW1.out.lt); have b3' := hide (b2.out.trans (b3.mono b2.out.size)); have s3 := hide b3.size; clear b3)
      | (go_at_call 34; refine (result_of n W2 0 _ _ (str_gat W2 0 n _) (fun W _ => str_fg W n _ hsz.out)).mono ?_; rintro e W3 ⟨la', lc', ka', kc', va', vc', rfl, b4, hr⟩; have kW3 := hide (kW2.out.below b4 kW2.out.lt); have b4' := hide (b3'.out.trans (b4.mono b3'.out.size)); have hr' := hide hr; clear b4 hr)
      | (refine wpList_store_blk rfl 30 (.tmp 2) (.tmp 15) rfl (w.heap.size + 1) _ rfl rfl 30 _ kW3.out res_size rfl (res_one _ _ _ _ _ _ _ _ _ _ _ _ _) ?_; intro W4 k4 o4 s4; have k4' := hide k4; have o4' := hide o4; have s4' := hide s4; clear k4 o4 s4))
    obtain ⟨q0, q1, q2, q3, q4, q5, q6⟩ := blk_seven k4'.out
    have hlo : w.heap.size + 1 < W2.heap.size := kW2.out.lt
    obtain ⟨r1, r2⟩ := door_end (z := 0) (by omega) b4'.out hr'.out o4'.out s4'.out hlo
    exact bodyPost_ret (by simp [results, Tryd.results28, go_sem, q0, q1, q2, q3, q4, q5, q6]) rfl ⟨_, rfl, r1, fun _ => r2, fun h => absurd hk.out h⟩
  · have hns := hide (hy.nostr hk)
    clear hy
    replace hk := hide hk
    have hc := hide (Trim_zz _ W1 (fun y w' => (∃ u', y = Value.iface 93 u') ∧ Below W1.heap.size W1 w') ((Trim_err W1 y hns.out hform).mono (fun e w' ⟨u, h1, h2⟩ => ⟨_, h1, ⟨u, rfl⟩, h2⟩)) hform)
    rcases hform with rfl | ⟨ty, u, rfl⟩
    all_goals
      go_wp2_with (first
        | (go_at_call 52; refine hc.out.mono ?_; rintro e W2 ⟨y2, rfl, ⟨u2, rfl⟩, b3⟩; have kW2 := hide (kW1.out.below b3 kW1.out.lt); have b3' := hide (b2.out.trans (b3.mono b2.out.size)); clear b3)
        | (go_at_call 34; refine (result_err _ _).mono ?_; rintro e W3 ⟨rfl, b4⟩; have kW3 := hide (kW2.out.below b4 kW2.out.lt); have b4' := hide (b3'.out.trans (b4.mono b3'.out.size)); clear b4)
        | (refine wpList_store_blk rfl 30 (.tmp 2) (.tmp 15) rfl (w.heap.size + 1) _ rfl rfl 30 _ kW3.out res_size rfl (res_one _ _ _ _ _ _ _ _ _ _ _ _ _) ?_; intro W4 k4 o4 s4; have k4' := hide k4; have o4' := hide o4; have s4' := hide s4; clear k4 o4 s4))
      obtain ⟨q0, q1, q2, q3, q4, q5, q6⟩ := blk_seven k4'.out
      exact bodyPost_ret (v := .agg #[.int .i64 0, .int .i64 0, .string ⟨#[]⟩, .slice none 0 0, .slice none 0 0, .slice none 0 0, .int .i64 1]) (by simp [results, Tryd.results28, go_sem, q0, q1, q2, q3, q4, q5, q6]) rfl
        ⟨_, rfl, b4'.out.trans (o4'.out.below (by intro k hk; omega) b4'.out.size), fun h => absurd h hk.out, fun _ => ⟨_, _, _, _, _, _, rfl, zero_jat _ _ n⟩⟩
end Go.Proofs.YtmkdkcbkgngfdaaDoor
