/- The reference's place, Get and Vague, walked. -/
import Derived.Test.YtmkdkcbkgngfdaaDoorMrgP
namespace Go.Proofs.YtmkdkcbkgngfdaaDoor
open Go.RowKit Go.Maps Go.Sort
set_option linter.unusedVariables false

theorem bytes_lss (a b : ByteArray) (w : World) : (binOp .lss 9 (.string a) (.string b)).run Tryd.prog w = .ok (.bool (Op.bytesLess a.toList b.toList)) w := by kernel_rfl

theorem toList_beq (a k : ByteArray) : (a.toList == k.toList) = decide (a = k) := by
  rw [toList_data, toList_data]
  by_cases h : a = k
  · simp [h]
  · have : ¬ a.data.toList = k.data.toList := fun e => h (key_inj e)
    rw [decide_eq_false h]
    exact beq_eq_false_iff_ne.2 this

set_option maxHeartbeats 2000000 in
set_option maxRecDepth 100000 in
theorem place_any (n : Nat) (w : World) (B : Nat) (x : Value) (v : JV) (k : ByteArray) (hx : JAt w B (n + 1) x v) (hB : B ≤ w.heap.size) :
    Calls Tryd.prog 82 #[x, .string k] w fun e w' => e = .returned (.tuple #[.int .i64 (plc v.keys k), .bool (hit v.keys k)]) ∧ Below w.heap.size w w' := by
  obtain ⟨la, lc, ka, kc, va, vc, rfl, -, g2, -, -, g5, -, -, -, -, -, hs, -⟩ := hx
  obtain ⟨W, hW⟩ : ∃ W, W = w.alloc (.cells #[.int .i64 v.kind, .int .i64 v.half, .string v.text, .slice la v.list.length lc, .slice ka v.keys.length kc, .slice va v.vals.length vc] 26) := ⟨_, rfl⟩
  have bW : Below w.heap.size w W := by rw [hW]; exact Below.alloc (Below.refl _ _) (Nat.le_refl _) _
  have kW : Blk W w.heap.size 26 #[.int .i64 v.kind, .int .i64 v.half, .string v.text, .slice la v.list.length lc, .slice ka v.keys.length kc, .slice va v.vals.length vc] := by rw [hW]; exact Blk.new w _ _
  have hsW : StrsAt W B ka v.keys := hs.keep (fun p hp => bW.cell (by omega)) (Nat.le_refl _)
  have q4 : W.cell? ⟨w.heap.size, 4, none⟩ = some (.slice ka v.keys.length kc) := kW.cell 4
  have hWl : w.heap.size < W.heap.size := kW.lt
  clear hs kW
  obtain ⟨pp, hpe⟩ : ∃ pp, pp = plc v.keys k := ⟨_, rfl⟩
  obtain ⟨hh', hbe⟩ : ∃ hh', hh' = hit v.keys k := ⟨_, rfl⟩
  rw [← hpe, ← hbe]
  replace hpe := hide hpe
  replace hbe := hide hbe
  replace bW := hide bW
  replace hsW := hide hsW
  go_enter Tryd.func82, Tryd.ntmps82
  go_wp2_with fail
  rw [← hW]
  clear hW
  go_loopw [6] (fun s6 wr => wr = W ∧ ∃ j : Nat, s6 = .int .i64 j ∧ j ≤ v.keys.length ∧ ∀ (i : Nat) a, i < j → v.keys[i]? = some a → Op.bytesLess a.toList k.toList = true) (fun i _ => v.keys.length - (intOf i).toNat)
  case atStart => exact ⟨rfl, 0, rfl, Nat.zero_le _, fun i a hi => absurd hi (by omega)⟩
  case round =>
    obtain ⟨rfl, j, rfl, hj, hlt⟩ := hrel
    replace hlt := hide hlt
    by_cases hjl : j < v.keys.length
    · obtain ⟨b, o, rfl, hb, hc⟩ := hsW.out.2 (by omega)
      obtain ⟨a, ha⟩ : ∃ a, v.keys[j]? = some a := ⟨_, List.getElem?_eq_getElem hjl⟩
      have hcj := hc j a ha
      have hbl : b < wr.heap.size := by omega
      cases hle : Op.bytesLess a.toList k.toList with
      | true =>
        clear hc
        go_wp2
        go_roundw
        case rel => exact ⟨trivial, j + 1, by go_num, by omega, fun i c hi hc => by
          rcases Nat.lt_or_ge i j with h | h
          · exact hlt.out i c h hc
          · obtain rfl : i = j := by omega
            rw [ha] at hc
            cases hc
            exact hle⟩
        case measure => simp [intOf]; omega
      | false =>
        have hp : plc v.keys k = j := plc_eq v.keys k j hj hlt.out (fun c hc => by rw [ha] at hc; cases hc; exact hle)
        have hh : hit v.keys k = decide (a = k) := by unfold hit; rw [hp, ha]; simp
        replace hp := hide hp
        replace hh := hide hh
        clear hc
        go_wp2_with fail
        go_region
        all_goals
          go_wp2
          go_ret2
          exact ⟨by rw [hpe.out, hbe.out, hp.out, hh.out, ← toList_beq a k]; rfl, bW.out.drew⟩
    · obtain rfl : j = v.keys.length := by omega
      have hp : plc v.keys k = v.keys.length := plc_eq v.keys k _ hj hlt.out (fun c hc => by simp at hc)
      have hh : hit v.keys k = false := by unfold hit; rw [hp]; simp
      replace hp := hide hp
      replace hh := hide hh
      go_wp2_with fail
      go_region
      all_goals
        go_wp2
        go_ret2
        exact ⟨by rw [hpe.out, hbe.out, hp.out, hh.out]; rfl, bW.out.drew⟩

theorem cell_lt' {w : World} {p : Addr} {v : Value} (h : w.cell? p = some v) : p.block < w.heap.size := by
  rcases Nat.lt_or_ge p.block w.heap.size with hlt | hge
  · exact hlt
  · simp [World.cell?, Array.getElem?_eq_none hge] at h

theorem zeroV_jat (w : World) (B n : Nat) : JAt w B n (.agg #[.int .i64 0, .int .i64 0, .string ⟨#[]⟩, .slice none 0 0, .slice none 0 0, .slice none 0 0]) zeroJ := by
  cases n with
  | zero => trivial
  | succ n => exact zero_jat w B n

theorem lk_prs {v : JV} (h : Asc (prs v)) (hl : v.keys.length = v.vals.length) (k : ByteArray) : lk (prs v) k = if hit v.keys k = true then v.vals[plc v.keys k]? else none := by
  obtain ⟨z1, z2⟩ := zip_fst v.keys v.vals hl
  have e1 : (prs v).map (·.1) = v.keys := z1
  have e2 : (prs v).map (·.2) = v.vals := z2
  rw [lk_hit k (prs v) h, e1]
  split
  · rw [← List.getElem?_map, e2]
  · rfl

theorem hit_lt {ks : List ByteArray} {k : ByteArray} (h : hit ks k = true) : plc ks k < ks.length := by
  unfold hit at h
  exact (List.getElem?_eq_some_iff.1 (of_decide_eq_true h)).1

set_option maxHeartbeats 2000000 in
set_option maxRecDepth 100000 in
theorem get_any (n : Nat) (w : World) (P : Nat → Prop) (x : Value) (v : JV) (k : ByteArray) (hx : JP w P (n + 2) x v) (hs : Asc (prs v)) (hl : v.keys.length = v.vals.length) (hP : ∀ b, P b → b < w.heap.size) :
    Calls Tryd.prog 83 #[x, .string k] w fun e w' => ∃ c0 c1 c2 c3 c4 c5, e = .returned (.agg #[c0, c1, c2, c3, c4, c5]) ∧ Below w.heap.size w w' ∧ JP w' P (n + 1) (.agg #[c0, c1, c2, c3, c4, c5]) ((lk (prs v) k).getD zeroJ) := by
  have hx' := hide hx
  have hlk := lk_prs hs hl k
  obtain ⟨la, lc, ka, kc, va, vc, rfl, -, -, g3, -, -, g6, -, -, -, -, -, hv⟩ := hx
  obtain ⟨Wa, hWa⟩ : ∃ Wa, Wa = w.alloc (.cells #[.int .i64 v.kind, .int .i64 v.half, .string v.text, .slice la v.list.length lc, .slice ka v.keys.length kc, .slice va v.vals.length vc] 26) := ⟨_, rfl⟩
  obtain ⟨W, hW⟩ : ∃ W, W = Wa.alloc (.cells #[.int .i64 0, .int .i64 0, .string ⟨#[]⟩, .slice none 0 0, .slice none 0 0, .slice none 0 0] 26) := ⟨_, rfl⟩
  have sa : Wa.heap.size = w.heap.size + 1 := by rw [hWa]; simp
  have sW : W.heap.size = w.heap.size + 2 := by rw [hW]; simp [sa]
  have bW : Below w.heap.size w W := by rw [hW, hWa]; exact Below.alloc (Below.alloc (Below.refl _ _) (Nat.le_refl _) _) (by simp) _
  have kX : Blk W w.heap.size 26 #[.int .i64 v.kind, .int .i64 v.half, .string v.text, .slice la v.list.length lc, .slice ka v.keys.length kc, .slice va v.vals.length vc] := by
    rw [hW, hWa]
    exact (Blk.new w _ _).alloc _
  have kW : Blk W (w.heap.size + 1) 26 #[.int .i64 0, .int .i64 0, .string ⟨#[]⟩, .slice none 0 0, .slice none 0 0, .slice none 0 0] := by
    have h := Blk.new Wa 26 #[.int .i64 0, .int .i64 0, .string ⟨#[]⟩, .slice none 0 0, .slice none 0 0, .slice none 0 0]
    rw [← hW, sa] at h
    exact h
  rw [hWa] at hW
  have hxW : JAt W w.heap.size (n + 2) _ v := JAt.keep (fun p hp => bW.cell hp) (Nat.le_refl _) (n + 2) _ _ (JP.jat (n + 2) hP hx'.out)
  have hpl := hide (place_any (n + 1) W w.heap.size _ v k hxW (by omega))
  have hvW : ∀ W1, Below W.heap.size W W1 → VecP (JP W1 P (n + 1)) W1 P va v.vals := fun W1 h => hv.keep (fun p hp => (h.cell (by have := hP _ hp; omega)).trans (bW.cell (hP _ hp))) (fun _ h => h) (fun x v h2 => JP.keep (fun p hp => (h.cell (by have := hP _ hp; omega)).trans (bW.cell (hP _ hp))) (fun _ h => h) (n + 1) _ _ h2)
  clear hWa hx' hv hxW
  replace hvW := hide hvW
  replace bW := hide bW
  replace kX := hide kX
  replace kW := hide kW
  replace hlk := hide hlk
  replace hl := hide hl
  obtain ⟨t, ht⟩ : ∃ t, t = (lk (prs v) k).getD zeroJ := ⟨_, rfl⟩
  rw [← ht]
  replace ht := hide ht
  go_enter Tryd.func83, Tryd.ntmps83
  go_wp2_with fail
  rw [← hW]
  clear hW
  refine hpl.out.mono ?_
  rintro e W1 ⟨rfl, c1⟩
  have kX1 := kX.out.below c1 (by omega)
  have q5 : W1.cell? ⟨w.heap.size, 5, none⟩ = some (.slice va v.vals.length vc) := kX1.cell 5
  have kW1 := hide (kW.out.below c1 (by omega))
  have bw1 := hide (bW.out.trans (c1.mono bW.out.size))
  have hv1 := hide (hvW.out W1 c1)
  have hS : w.heap.size < W1.heap.size := kX1.lt
  clear kX1 c1
  cases hh : hit v.keys k with
  | true =>
    have hlt := hit_lt hh
    have hlt2 : plc v.keys k < v.vals.length := by have := hl.out; omega
    obtain ⟨b, o, rfl, hb, hc⟩ := hv1.out (by omega)
    obtain ⟨u, hu⟩ : ∃ u, v.vals[plc v.keys k]? = some u := ⟨_, List.getElem?_eq_getElem hlt2⟩
    have htu : t = u := by rw [ht.out, hlk.out, hh, if_pos rfl, hu]; rfl
    obtain ⟨c0, c1, c2, c3, c4, c5, e0, e1, e2, e3, e4, e5, hju⟩ := hc _ u hu
    obtain ⟨p, hp⟩ : ∃ p, p = plc v.keys k := ⟨_, rfl⟩
    rw [← hp] at hlt2 e0 e1 e2 e3 e4 e5 ⊢
    replace hju := hide hju
    replace hp := hide hp
    have hbl : b < W1.heap.size := cell_lt' e0
    clear hc
    have hju' := hju.out
    obtain ⟨la', lc', ka', kc', va', vc', hagg, -⟩ := hju'
    injection hagg with hagg
    injection hagg with hagg
    simp at hagg
    obtain ⟨rfl, rfl, rfl, rfl, rfl, rfl⟩ := hagg
    replace htu := hide htu
    clear ht hlk
    go_wp2_with (refine wpList_store_blk rfl 26 (.tmp 4) (.tmp 18) rfl (w.heap.size + 1) _ rfl rfl 26 _ kW1.out val_size rfl (val_one _ _ _ _ _ _ _ _ _ _ _ _) ?_; intro W4 k4 o4 s4; have k4' := hide k4; have o4' := hide o4; clear k4 o4)
    obtain ⟨q0, q1, q2, q3, q4, q5⟩ := blk_six k4'.out
    refine bodyPost_ret (v := .agg #[.int .i64 u.kind, .int .i64 u.half, .string u.text, .slice la' u.list.length lc', .slice ka' u.keys.length kc', .slice va' u.vals.length vc']) (by simp [results, Tryd.results83, go_sem, q0, q1, q2, q3, q4, q5]) rfl ⟨_, _, _, _, _, _, rfl, bw1.out.trans (o4'.out.below (by intro k hk; omega) bw1.out.size), ?_⟩
    rw [htu.out]
    exact JP.keep (fun p hp => World.cell?_of_block (o4'.out.block _ (by have := hP _ hp; have := bw1.out.size; omega) (by intro e; have := hP _ hp; omega))) (fun _ h => h) (n + 1) _ _ hju.out
  | false =>
    have htu : t = zeroJ := by rw [ht.out, hlk.out, hh]; rfl
    go_wp2_with (refine wpList_store_blk rfl 26 (.tmp 4) (.tmp 19) rfl (w.heap.size + 1) _ rfl rfl 26 _ kW1.out val_size rfl (val_one _ _ _ _ _ _ _ _ _ _ _ _) ?_; intro W4 k4 o4 s4; have k4' := hide k4; have o4' := hide o4; clear k4 o4)
    obtain ⟨q0, q1, q2, q3, q4, q5⟩ := blk_six k4'.out
    refine bodyPost_ret (v := .agg #[.int .i64 0, .int .i64 0, .string ⟨#[]⟩, .slice none 0 0, .slice none 0 0, .slice none 0 0]) (by simp [results, Tryd.results83, go_sem, q0, q1, q2, q3, q4, q5]) rfl ⟨_, _, _, _, _, _, rfl, bw1.out.trans (o4'.out.below (by intro k hk; omega) bw1.out.size), ?_⟩
    rw [htu]
    exact JP.leaf (v := zeroJ) rfl rfl rfl (by decide) (by decide) (by decide)
end Go.Proofs.YtmkdkcbkgngfdaaDoor
