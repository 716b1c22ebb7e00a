/- The door Values, walked. -/
import Derived.Test.YtmkdkcbkgngfdaaDoorValR
namespace Go.Proofs.YtmkdkcbkgngfdaaDoor
open Go.RowKit Go.Maps Go.Sort Go.Shelf
set_option linter.unusedVariables false

/-- A list as plain data. -/
def listJ (l : List JV) : JV := .mk 5 0 ⟨#[]⟩ l [] []

/-- The values of a list or a map. -/
def valsOf (v : JV) : List JV := if v.kind = 5 then v.list else v.vals

theorem list_say (n : Nat) (l : List JV) (h : ∀ x ∈ l, Say n x) (hl : l.length ≤ 100000) : Say (n + 1) (listJ l) :=
  ⟨by show (0 : Int) ≤ 5 ∧ (5 : Int) ≤ 6; decide, Or.inr rfl, Or.inr (by show (⟨#[]⟩ : ByteArray).toList = []; rw [ByteArray.toList_eq]), Or.inl rfl, Or.inr rfl, rfl, by show (-18014398509481984 : Int) ≤ 0 ∧ (0 : Int) ≤ 18014398509481984; decide, Or.inl (by show Int.tmod 0 2 = 0; decide), hl, Nat.zero_le _, h, by intro i a b h; simp [listJ, JV.keys] at h, by intro x hx; exact absurd hx (List.not_mem_nil), by intro x hx; exact absurd hx (List.not_mem_nil), by show (⟨#[]⟩ : ByteArray).size ≤ 9223372036854775807; decide⟩

theorem values_ok (n : Nat) (W : World) (lo : Nat) (y : Value) (v : JV) (hlo : lo ≤ W.heap.size) (hy : GAt W lo (n + 1) y v) (hs : Say (n + 1) v) (hk : v.kind = 5 ∨ v.kind = 6) :
    Calls Tryd.prog 47 #[y] W fun e w' => ∃ s b, e = .returned (.tuple #[s, .bool b]) ∧ (∃ A n c, s = .slice A n c) ∧ b = true ∧ Below W.heap.size W w' ∧ GAt w' lo (n + 1) (.iface 59 s) (listJ (valsOf v)) := by
  have hform := hy.form
  obtain ⟨hkk, -, -, -, -, hkv, -, -, hl1, hl2, -, hrise, -, hks, -⟩ := hs
  rcases hy with h | h | h | h | h | h | ⟨hk, b, o, c, rfl, h1, h2, h3, h4, h5⟩ | ⟨hk, b, ents, rfl, h1, h2, h3, h4, h5⟩
  · omega
  · omega
  · omega
  · omega
  · omega
  · omega
  · refine (zzValues _ W (fun s b w' => b = .bool true ∧ Below W.heap.size W w' ∧ GAt w' lo (n + 1) (.iface 59 s) (listJ (valsOf v))) ((values_list W _ ⟨_, _, _, rfl⟩).mono ?_) hform).mono ?_
    · rintro e w' ⟨rfl, rfl⟩
      refine ⟨_, true, rfl, ⟨_, _, _, rfl⟩, rfl, Below.refl _ _, ?_⟩
      rw [show valsOf v = v.list from if_pos hk]
      exact Or.inr (Or.inr (Or.inr (Or.inr (Or.inr (Or.inr (Or.inl ⟨rfl, b, o, c, rfl, h1, h2, h3, h4, h5⟩))))))
    · rintro e w' ⟨s, b, rfl, hs, hb, hq⟩
      exact ⟨s, b, rfl, hs, by simpa using hb, hq⟩
  · have hlen : ents.length = v.vals.length := by rw [← hkv, ← h4]; simp
    have hval : ∀ (i : Nat) (x : Ent), ents[i]? = some x → ∃ y, v.vals[i]? = some y ∧ GAt W lo n x.2 y := fun i x hx => by
      obtain ⟨y, hy⟩ : ∃ y, v.vals[i]? = some y := ⟨_, List.getElem?_eq_getElem (by rw [← hlen]; exact (List.getElem?_eq_some_iff.1 hx).1)⟩
      obtain ⟨x', hx', hg⟩ := h5 i y hy
      rw [hx] at hx'
      cases hx'
      exact ⟨y, hy, hg⟩
    refine (zzValues _ W (fun s b w' => b = .bool true ∧ Below W.heap.size W w' ∧ GAt w' lo (n + 1) (.iface 59 s) (listJ (valsOf v))) ((values_map W b ents h3 (by rw [h4]; exact hrise) (by omega) (fun x hx => hks _ (by rw [← h4]; exact List.mem_map_of_mem hx)) (fun x hx => by
      obtain ⟨i, hi⟩ := List.getElem?_of_mem hx
      obtain ⟨y, _, hg⟩ := hval i x hi
      exact hg.form)).mono ?_) hform).mono ?_
    · rintro e w' ⟨S, rfl, s1, s2, s3, s4⟩
      refine ⟨_, true, rfl, ⟨_, _, _, rfl⟩, rfl, s3, ?_⟩
      rw [show valsOf v = v.vals from if_neg (by omega)]
      refine Or.inr (Or.inr (Or.inr (Or.inr (Or.inr (Or.inr (Or.inl ⟨rfl, S, 0, ents.length, by rw [hlen]; rfl, by omega, s2, ?_, ?_, fun i y hy => ?_⟩))))))
      · rw [hlen]; exact Nat.le_refl _
      · omega
      · obtain ⟨x, hx, hg⟩ := h5 i y hy
        exact ⟨x.2, by rw [Nat.zero_add]; exact s4 i x hx, GAt.only (P := fun _ => False) (Only.of_below s3 (fun k hk _ => hk)) (fun k hk => hk.elim) n _ _ hg⟩
    · rintro e w' ⟨s, b, rfl, hs, hb, hq⟩
      exact ⟨s, b, rfl, hs, by simpa using hb, hq⟩

theorem values_not (n : Nat) (W : World) (lo : Nat) (y : Value) (v : JV) (hy : GAt W lo (n + 1) y v) (hk : ¬ v.kind = 5) (hk' : ¬ v.kind = 6) :
    Calls Tryd.prog 47 #[y] W fun e w' => e = .returned (.tuple #[.slice none 0 0, .bool false]) ∧ w' = W := by
  refine (zzValues _ W (fun s b w' => b = .bool false ∧ s = .slice none 0 0 ∧ w' = W) ((values_no W y (hy.noEach hk hk') hy.form).mono ?_) hy.form).mono ?_
  · rintro e w' ⟨rfl, rfl⟩
    exact ⟨_, false, rfl, ⟨_, _, _, rfl⟩, rfl, rfl, rfl⟩
  · rintro e w' ⟨s, b, rfl, _, hb, hs, hw⟩
    rw [hb, hs]
    exact ⟨rfl, hw⟩

set_option maxHeartbeats 2000000 in
set_option maxRecDepth 100000 in
theorem doorValues_any (n : Nat) (w : World) (B : Nat) (x : Value) (v : JV) (hx : JAt w B (n + 1) x v) (hg : Good (n + 1) v) (hB : B ≤ w.heap.size) :
    Calls Tryd.prog 20 #[x] w fun e w' => ∃ r, e = .returned r ∧ Below w.heap.size w w' ∧ (v.kind = 5 ∨ v.kind = 6 → ResAt w' w'.heap.size n r (listJ (valsOf v)) 0) ∧ (¬ v.kind = 5 → ¬ v.kind = 6 → ResAt w' w'.heap.size n r zeroJ 1) := by
  have hx' := hide hx
  have hsay := hg.say (n + 1) hx
  obtain ⟨la, lc, ka, kc, va, vc, rfl, -⟩ := hx
  obtain ⟨W, hW⟩ : ∃ W, W = (w.alloc (.cells #[.int .i64 v.kind, .int .i64 v.half, .string v.text, .slice la v.list.length lc, .slice ka v.keys.length kc, .slice va v.vals.length vc] 26)).alloc (.cells #[.int .i64 0, .int .i64 0, .string ⟨#[]⟩, .slice none 0 0, .slice none 0 0, .slice none 0 0, .int .i64 0] 30) := ⟨_, rfl⟩
  have bW : Below w.heap.size w W := by rw [hW]; exact Below.alloc (Below.alloc (Below.refl _ _) (Nat.le_refl _) _) (by simp) _
  have sW : W.heap.size = w.heap.size + 2 := by rw [hW]; simp
  have kW : Blk W (w.heap.size + 1) 30 #[.int .i64 0, .int .i64 0, .string ⟨#[]⟩, .slice none 0 0, .slice none 0 0, .slice none 0 0, .int .i64 0] := by
    rw [hW]
    have h2 := Blk.new (w.alloc (.cells #[.int .i64 v.kind, .int .i64 v.half, .string v.text, .slice la v.list.length lc, .slice ka v.keys.length kc, .slice va v.vals.length vc] 26)) 30 #[.int .i64 0, .int .i64 0, .string ⟨#[]⟩, .slice none 0 0, .slice none 0 0, .slice none 0 0, .int .i64 0]
    have hsz : (w.alloc (.cells #[.int .i64 v.kind, .int .i64 v.half, .string v.text, .slice la v.list.length lc, .slice ka v.keys.length kc, .slice va v.vals.length vc] 26)).heap.size = w.heap.size + 1 := by simp
    rw [hsz] at h2
    exact h2
  have hxW : JAt W B (n + 1) _ v := JAt.keep (fun p hp => bW.cell (by omega)) (Nat.le_refl _) (n + 1) _ _ hx'.out
  replace hxW := hide hxW
  replace bW := hide bW
  replace kW := hide kW
  replace sW := hide sW
  replace hg := hide hg
  replace hsay := hide hsay
  go_enter Tryd.func20, Tryd.ntmps20
  go_wp2_with fail
  rw [← hW]
  clear hW
  refine (toGo_any (n + 1) W B _ v hxW.out hg.out (by have := sW.out; omega)).mono ?_
  rintro e W1 ⟨y, rfl, b1, hy⟩
  have hform := hy.form
  have kW1 := hide (kW.out.below b1 (by have := sW.out; omega))
  have b2 := hide (bW.out.trans (b1.mono bW.out.size))
  have s1 := b1.size
  clear b1
  by_cases hk : v.kind = 5 ∨ v.kind = 6
  · have hc := hide (values_ok n W1 W.heap.size y v s1 hy hsay.out hk)
    obtain ⟨l, hl⟩ : ∃ l, l = valsOf v := ⟨_, rfl⟩
    rw [← hl] at hc
    have hls : Say (n + 1) (listJ l) := by
      obtain ⟨-, -, -, -, -, -, -, -, hl1, hl2, hl3, -, hl4, -, -⟩ := hsay.out
      rw [hl]
      unfold valsOf
      split
      · exact list_say n _ hl3 hl1
      · exact list_say n _ hl4 hl2
    have hR := hide fun (W2 : World) (s : Value) (hg2 : GAt W2 W.heap.size (n + 1) (.iface 59 s) (listJ l)) => result_of n W2 W.heap.size _ (listJ l) hg2 (fun W3 hb => fromGo_any (n + 1) W3 W.heap.size _ _ (GAt.only (P := fun _ => False) (Only.of_below hb (fun k hk _ => hk)) (fun k hk => hk.elim) (n + 1) _ _ hg2) hls)
    clear hy hls
    replace hl := hide hl
    replace hk := hide hk
    replace s1 := hide s1
    rcases hform with rfl | ⟨ty, u, rfl⟩
    all_goals
      go_wp2_with (first
        | (go_at_call 47; refine hc.out.mono ?_; rintro e W2 ⟨s, bb, rfl, ⟨A', n', c', rfl⟩, rfl, b3, hg3⟩; have kW2 := hide (kW1.out.below b3 kW1.out.lt); have b3' := hide (b2.out.trans (b3.mono b2.out.size)); have s3 := hide b3.size; have hg3' := hide hg3; clear b3 hg3)
        | (go_at_call 34; refine (hR.out _ _ hg3'.out).mono ?_; rintro e W3 ⟨la', lc', ka', kc', va', vc', rfl, b4, hr⟩; have kW3 := hide (kW2.out.below b4 kW2.out.lt); have b4' := hide (b3'.out.trans (b4.mono b3'.out.size)); have hr' := hide hr; clear b4 hr)
        | (refine wpList_store_blk rfl 30 (.tmp 2) (.tmp 25) rfl (w.heap.size + 1) _ rfl rfl 30 _ kW3.out res_size rfl (res_one _ _ _ _ _ _ _ _ _ _ _ _ _) ?_; intro W4 k4 o4 s4; have k4' := hide k4; have o4' := hide o4; have s4' := hide s4; clear k4 o4 s4))
      obtain ⟨q0, q1, q2, q3, q4, q5, q6⟩ := blk_seven k4'.out
      have hlo : w.heap.size + 1 < W2.heap.size := kW2.out.lt
      obtain ⟨r1, r2⟩ := door_end (z := 0) (by omega) b4'.out hr'.out o4'.out s4'.out hlo
      refine bodyPost_ret (v := .agg #[.int .i64 (listJ l).kind, .int .i64 (listJ l).half, .string (listJ l).text, .slice la' (listJ l).list.length lc', .slice ka' (listJ l).keys.length kc', .slice va' (listJ l).vals.length vc', .int .i64 0]) (by simp [results, Tryd.results20, go_sem, q0, q1, q2, q3, q4, q5, q6]) rfl ⟨_, rfl, r1, fun _ => ?_, fun h1 h2 => absurd hk.out (by rintro (h | h); exact h1 h; exact h2 h)⟩
      rw [← hl.out]
      exact r2
  · have hc := hide (values_not n W1 W.heap.size y v hy (fun h => hk (Or.inl h)) (fun h => hk (Or.inr h)))
    clear hy
    replace hk := hide hk
    rcases hform with rfl | ⟨ty, u, rfl⟩
    all_goals
      go_wp2_with (first
        | (go_at_call 47; refine hc.out.mono ?_; rintro e W2 ⟨rfl, rfl⟩)
        | (refine wpList_store_blk rfl 30 (.tmp 2) (.tmp 22) rfl (w.heap.size + 1) _ rfl rfl 30 _ kW1.out res_size rfl (res_one _ _ _ _ _ _ _ _ _ _ _ _ _) ?_; intro W4 k4 o4 s4; have k4' := hide k4; have o4' := hide o4; have s4' := hide s4; clear k4 o4 s4))
      obtain ⟨q0, q1, q2, q3, q4, q5, q6⟩ := blk_seven k4'.out
      exact bodyPost_ret (v := .agg #[.int .i64 0, .int .i64 0, .string ⟨#[]⟩, .slice none 0 0, .slice none 0 0, .slice none 0 0, .int .i64 1]) (by simp [results, Tryd.results20, go_sem, q0, q1, q2, q3, q4, q5, q6]) rfl
        ⟨_, rfl, b2.out.trans (o4'.out.below (by intro k hk; omega) b2.out.size), fun h => absurd h hk.out, fun _ _ => ⟨_, _, _, _, _, _, rfl, zero_jat _ _ n⟩⟩
end Go.Proofs.YtmkdkcbkgngfdaaDoor
