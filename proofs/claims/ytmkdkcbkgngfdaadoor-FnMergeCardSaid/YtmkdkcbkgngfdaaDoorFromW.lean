/- listFromGo, walked. -/
import Derived.Test.YtmkdkcbkgngfdaaDoorFromL
namespace Go.Proofs.YtmkdkcbkgngfdaaDoor
open Go.RowKit
set_option linter.unusedVariables false

abbrev zeroVal : Array Value := #[.int .i64 0, .int .i64 0, .string ⟨#[]⟩, .slice none 0 0, .slice none 0 0, .slice none 0 0]

structure LFr (n : Nat) (xs : List JV) (w wr : World) (j : Nat) (v : Value) (cs : List Value) : Prop where
  below : Below w.heap.size w wr
  b0 : Blk wr w.heap.size 26 #[.int .i64 0, .int .i64 0, .string ⟨#[]⟩, .slice none 0 0, .slice none 0 0, .slice none 0 0]
  b1 : Blk wr (w.heap.size + 1) 26 #[.int .i64 5, .int .i64 0, .string ⟨#[]⟩, v, .slice none 0 0, .slice none 0 0]
  own : wr.ownsRow (w.heap.size + 2) 26 6 v j cs
  vals : RowVals n xs wr (w.heap.size + 2) j v cs
  size : w.heap.size + 2 ≤ wr.heap.size

theorem LFr.next {n : Nat} {xs : List JV} {w wr W1 W3 W4 : World} {j : Nat} {v v' : Value} {cs : List Value} {c0 c1 c2 c3 c4 c5 : Value} {x : JV} (h : LFr n xs w wr j v cs)
    (hb1 : Below wr.heap.size wr W1) (hr : JP W1 (Mid wr.heap.size W1.heap.size) n (.agg #[c0, c1, c2, c3, c4, c5]) x) (hb3 : Below W1.heap.size W1 W3) (hg : W3.grownBy W4 v.ownBlock) (hloc : v'.ownBlock = v.ownBlock ∨ v'.ownBlock = some W3.heap.size)
    (hown : W4.ownsRow (w.heap.size + 2) 26 6 v' (j + 1) (cs ++ [c0, c1, c2, c3, c4, c5])) (hxj : xs[j]? = some x) :
    LFr n xs w (W4.setCell ⟨w.heap.size + 1, 3, none⟩ v') (j + 1) v' (cs ++ [c0, c1, c2, c3, c4, c5]) := by
  have h0 := h.size
  have h1 := hb1.size
  have h3 := hb3.size
  have h4 := hg.size
  have hol := h.own.lt
  have hsz : (W4.setCell ⟨w.heap.size + 1, 3, none⟩ v').heap.size = W4.heap.size := by simp [World.setCell]
  have blk4 : ∀ {g : Nat} {t : TypeId} {a : Array Value}, Blk wr g t a → g < w.heap.size + 2 → Blk W4 g t a := fun hb hgl =>
    (((hb.below hb1 (by omega)).below hb3 (by omega)).grown hg (by intro e; have := hol _ e.symm; omega))
  refine ⟨?_, ?_, ?_, ?_, ?_, by rw [hsz]; omega⟩
  · have b4 : Below w.heap.size w W4 := by
      have o1 : Only (fun b => w.heap.size ≤ b) w W4 := ((Only.of_below (P := fun b => w.heap.size ≤ b) (h.below.trans ((hb1.trans (hb3.mono h1)).mono (by omega))) (fun k hk _ => hk))).grown hg (fun k hk => Or.inl (by have := hol k hk; omega))
      exact o1.below (fun k hk => hk) (Nat.le_refl _)
    exact b4.setCell (by simp) _
  · exact (blk4 h.b0 (by omega)).far (by simp) _
  · have := (blk4 h.b1 (by omega)).set_ 3 v'
    simpa using this
  · have ho : v'.ownBlock ≠ some (w.heap.size + 1) := by
      intro e
      have := hown.lt _ e
      omega
    refine Only.own (P := fun k => k = w.heap.size + 1) ((Only.refl (fun k => k = w.heap.size + 1) W4).setCell (p := ⟨w.heap.size + 1, 3, none⟩) (Or.inl rfl) _) hown (fun k hk e => ?_)
    subst e
    exact ho hk
  · exact h.vals.next h.own h0 hb1 hr hb3 hg hloc (fun p hp => World.cell?_setCell_other _ _ _ _ (by intro e; subst e; simp at hp)) hsz hxj

set_option maxHeartbeats 4000000 in
set_option maxRecDepth 100000 in
theorem listFrom_step (n : Nat) (hF : FG n) : FL n := by
  intro w lo b o c xs hb hc hm hel hsay hlen
  obtain ⟨i0, hi0, hz0, hz1, hz2⟩ := info_parts Tryd.infoVal
  obtain ⟨W, hW⟩ : ∃ W, W = (w.alloc (.cells #[.int .i64 0, .int .i64 0, .string ⟨#[]⟩, .slice none 0 0, .slice none 0 0, .slice none 0 0] 26)).alloc (.cells #[.int .i64 5, .int .i64 0, .string ⟨#[]⟩, .slice none 0 0, .slice none 0 0, .slice none 0 0] 26) := ⟨_, rfl⟩
  have hL0 : LFr n xs w W 0 (.slice none 0 0) [] := by
    have k1 := Blk.new (w.alloc (.cells #[.int .i64 0, .int .i64 0, .string ⟨#[]⟩, .slice none 0 0, .slice none 0 0, .slice none 0 0] 26)) 26 #[.int .i64 5, .int .i64 0, .string ⟨#[]⟩, .slice none 0 0, .slice none 0 0, .slice none 0 0]
    have hsz : (w.alloc (.cells #[.int .i64 0, .int .i64 0, .string ⟨#[]⟩, .slice none 0 0, .slice none 0 0, .slice none 0 0] 26)).heap.size = w.heap.size + 1 := by simp
    rw [hsz] at k1
    refine ⟨by rw [hW]; exact Below.alloc (Below.alloc (Below.refl _ _) (Nat.le_refl _) _) (by simp) _, by rw [hW]; exact (Blk.new w _ _).alloc _, by rw [hW]; exact k1, World.ownsRow_nil _ _ _ _, fun i y hi => absurd hi (by omega), by rw [hW]; simp⟩
  replace hel := hide hel
  replace hsay := hide hsay
  replace hL0 := hide hL0
  replace hi0 := hide hi0
  replace hz0 := hide hz0
  replace hz1 := hide hz1
  replace hz2 := hide hz2
  go_enter Tryd.func80, Tryd.ntmps80
  go_wp2_with fail
  rw [← hW]
  clear hW
  go_loopw [12] (fun s12 wr => ∃ (j : Nat) (v : Value) (cs : List Value), s12 = .int .i64 j ∧ j ≤ xs.length ∧ LFr n xs w wr j v cs) (fun i _ => xs.length - (intOf i).toNat)
  case atStart => exact ⟨0, _, _, rfl, Nat.zero_le _, hL0.out⟩
  case round =>
    obtain ⟨j, v, cs, rfl, hj, hl⟩ := hrel
    obtain ⟨p0, p1, p2, p3, p4, p5⟩ := blk_six hl.b1
    by_cases hjl : j < xs.length
    · obtain ⟨x, hxj⟩ : ∃ x, xs[j]? = some x := ⟨_, List.getElem?_eq_getElem hjl⟩
      obtain ⟨z, hz, hg⟩ := hel.out j x hxj
      have hz' := (hl.below.cell (by show b < _; exact hb)).trans hz
      have hgr := GAt.below hl.below n hg
      have hsx := hsay.out x (List.mem_of_getElem? hxj)
      rcases n with _ | m
      · exact hsx.elim
      have hf := hide (hF wr lo z x hgr hsx)
      have hform := hgr.form
      have hsz := hl.size
      replace hl := hide hl
      clear hg hgr hz hsx
      rcases hform with rfl | ⟨ty, u, rfl⟩
      all_goals
        go_wp2_with fail
        refine hf.out.mono ?_
        rintro e W1 ⟨r, rfl, b1, hr⟩
        have hr' := hide hr
        obtain ⟨la, lc, ka, kc, va, vc, rfl, -⟩ := hr
        have hs1 := b1.size
        have kk1 := hl.out.b1.below b1 (by omega)
        obtain ⟨p0, p1, p2, p3, p4, p5⟩ := blk_six kk1
        have hl1 := kk1.lt
        have hown3 := hide ((((Only.of_below (P := fun _ => False) b1 (fun k hk _ => hk)).own hl.out.own (fun k _ h => h)).alloc (.cells #[.int .i64 x.kind, .int .i64 x.half, .string x.text, .slice la x.list.length lc, .slice ka x.keys.length kc, .slice va x.vals.length vc] 26)).alloc (.cells #[.int .i64 x.kind, .int .i64 x.half, .string x.text, .slice la x.list.length lc, .slice ka x.keys.length kc, .slice va x.vals.length vc] 26))
        have hrd : Reads ((W1.alloc (.cells #[.int .i64 x.kind, .int .i64 x.half, .string x.text, .slice la x.list.length lc, .slice ka x.keys.length kc, .slice va x.vals.length vc] 26)).alloc (.cells #[.int .i64 x.kind, .int .i64 x.half, .string x.text, .slice la x.list.length lc, .slice ka x.keys.length kc, .slice va x.vals.length vc] 26)) (W1.heap.size + 1 + 1) 6 (some ⟨W1.heap.size + 1, 0, none⟩) 1 [.int .i64 x.kind, .int .i64 x.half, .string x.text, .slice la x.list.length lc, .slice ka x.keys.length kc, .slice va x.vals.length vc] := by
          have := reads_new6 (W1.alloc (.cells #[.int .i64 x.kind, .int .i64 x.half, .string x.text, .slice la x.list.length lc, .slice ka x.keys.length kc, .slice va x.vals.length vc] 26)) (.int .i64 x.kind) (.int .i64 x.half) (.string x.text) (.slice la x.list.length lc) (.slice ka x.keys.length kc) (.slice va x.vals.length vc) 26
          have e : (W1.alloc (.cells #[.int .i64 x.kind, .int .i64 x.half, .string x.text, .slice la x.list.length lc, .slice ka x.keys.length kc, .slice va x.vals.length vc] 26)).heap.size = W1.heap.size + 1 := by simp
          rw [e] at this
          exact this
        have h63 : j + 1 ≤ maxLen := by unfold maxLen; omega
        have hby : (j + 1) * 104 ≤ 140737488355328 := by omega
        have hbs : w.heap.size + 2 ≤ ((W1.alloc (.cells #[.int .i64 x.kind, .int .i64 x.half, .string x.text, .slice la x.list.length lc, .slice ka x.keys.length kc, .slice va x.vals.length vc] 26)).alloc (.cells #[.int .i64 x.kind, .int .i64 x.half, .string x.text, .slice la x.list.length lc, .slice ka x.keys.length kc, .slice va x.vals.length vc] 26)).heap.size := by simp; omega
        have b13 : Below W1.heap.size W1 ((W1.alloc (.cells #[.int .i64 x.kind, .int .i64 x.half, .string x.text, .slice la x.list.length lc, .slice ka x.keys.length kc, .slice va x.vals.length vc] 26)).alloc (.cells #[.int .i64 x.kind, .int .i64 x.half, .string x.text, .slice la x.list.length lc, .slice ka x.keys.length kc, .slice va x.vals.length vc] 26)) := ((Below.refl _ W1).alloc (Nat.le_refl _) _).alloc (by simp) _
        replace kk1 := hide ((kk1.alloc (.cells #[.int .i64 x.kind, .int .i64 x.half, .string x.text, .slice la x.list.length lc, .slice ka x.keys.length kc, .slice va x.vals.length vc] 26)).alloc (.cells #[.int .i64 x.kind, .int .i64 x.half, .string x.text, .slice la x.list.length lc, .slice ka x.keys.length kc, .slice va x.vals.length vc] 26))
        have hne1 : some (w.heap.size + 1) ≠ v.ownBlock := by
          intro e
          have := hl.out.own.lt _ e.symm
          omega
        replace hrd := hide hrd
        replace h63 := hide h63
        replace hby := hide hby
        replace hbs := hide hbs
        replace b13 := hide b13
        replace hne1 := hide hne1
        replace b1 := hide b1
        go_wp2_with (refine wpList_append_any _ rfl (.tmp 25) (.tmp 27) 23 rfl (w.heap.size + 2) 26 i0 _ 6 104 Tryd.underlying23 hi0.out hz0.out hz1.out hz2.out rfl (by decide) v j cs rfl hown3.out (W1.heap.size + 1 + 1) (some ⟨W1.heap.size + 1, 0, none⟩) 1 1 _ rfl hrd.out (six_one _ _ _ _ _ _ _ _ _ _ _ _) h63.out hby.out hbs.out ?_; intro v' W4 own4 g4 loc4; obtain ⟨g', cap', hv', -, -⟩ := own4.form (Nat.succ_pos _); have k4 := kk1.out.grown g4 hne1.out; have c3 := k4.cell 3; have f3 := k4.frozen 3; simp at c3; have hnx := hide (hl.out.next b1.out hr'.out b13.out g4 (by simpa using loc4) own4 hxj); clear own4 g4 loc4 k4; subst hv')
        go_roundw
        case rel => exact ⟨j + 1, _, _, by go_num, by omega, hnx.out⟩
        case measure => simp [intOf]; omega
    · obtain rfl : j = xs.length := by omega
      obtain ⟨A, cap, rfl, hcap, hcm⟩ := own_slice hl.own
      have hv := hl.vals.vec hl.own rfl
      have hsz := hl.size
      replace hl := hide hl
      replace hv := hide hv
      go_wp2_with (refine wpList_store_blk rfl 26 (.tmp 2) (.tmp 31) rfl w.heap.size _ rfl rfl 26 _ hl.out.b0 val_size rfl (val_one _ _ _ _ _ _ _ _ _ _ _ _) ?_; intro W3 k3 o3 s3; have o3' := hide o3; have k3' := hide k3; have s3' := hide s3; clear o3 k3 s3)
      obtain ⟨q0, q1, q2, q3, q4, q5⟩ := blk_six k3'.out
      refine bodyPost_ret (v := .tuple #[.agg #[.int .i64 5, .int .i64 0, .string ⟨#[]⟩, .slice A xs.length cap, .slice none 0 0, .slice none 0 0], .bool true]) (by simp [results, Tryd.results80, go_sem, q0, q1, q2, q3, q4, q5]) rfl ⟨_, rfl, hl.out.below.trans (o3'.out.below (by intro k hk; omega) hl.out.below.size), ?_⟩
      have kc : ∀ p : Addr, Mid (w.heap.size + 2) wr.heap.size p.block → W3.cell? p = wr.cell? p := fun p hp => World.cell?_of_block (o3'.out.block _ hp.2 (by intro e; have := hp.1; omega))
      have kb : ∀ b, Mid (w.heap.size + 2) wr.heap.size b → Mid w.heap.size W3.heap.size b := fun b hb => ⟨by have := hb.1; omega, by have := hb.2; rw [s3'.out]; exact this⟩
      refine ⟨A, cap, none, 0, none, 0, rfl, hcap, Nat.le_refl _, Nat.le_refl _, by unfold maxLen at hcm; omega, by omega, by omega, by show (⟨#[]⟩ : ByteArray).size ≤ 9223372036854775807; decide, by show (-9223372036854775808 : Int) ≤ 5 ∧ (5 : Int) ≤ 9223372036854775807; decide, by show (-9223372036854775808 : Int) ≤ 0 ∧ (0 : Int) ≤ 9223372036854775807; decide, ?_, ⟨fun s hs => absurd hs List.not_mem_nil, fun h => absurd h (by show ¬ 0 < 0; omega)⟩, fun h => absurd h (by show ¬ 0 < 0; omega)⟩
      exact hv.out.keep kc kb (fun x v h => JP.keep kc kb n x v h)
end Go.Proofs.YtmkdkcbkgngfdaaDoor
