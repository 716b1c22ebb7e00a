/- The reference's merged, walked (printed by mkmrgs.py). -/
import Derived.Test.YtmkdkcbkgngfdaaDoorMrgX
import Derived.Test.YtmkdkcbkgngfdaaDoorMrgM
namespace Go.Proofs.YtmkdkcbkgngfdaaDoor
open Go.RowKit Go.Maps Go.Sort
set_option linter.unusedVariables false

def MS (n : Nat) : Prop := ∀ (w : World) (P : Nat → Prop) (a b : Value) (x y : JV), JP w P (n + 1) a x → JP w P (n + 1) b y → Fine (n + 1) x → Fine (n + 1) y → x.kind = 6 → y.kind = 6 → (∀ b, P b → b < w.heap.size) →
  Calls Tryd.prog 63 #[a, b] w fun e w' => ∃ r, e = .returned r ∧ Below w.heap.size w w' ∧ JP w' (fun b => P b ∨ Mid w.heap.size w'.heap.size b) (n + 1) r (mapJ (mrgW (mvs n) (prs x) (prs y)))

/-- The six cells of a map. -/
theorem JP.map_shape {w : World} {P : Nat → Prop} {n : Nat} {r : Value} {ps : List (ByteArray × JV)} (h : JP w P (n + 1) r (mapJ ps)) : ∃ la lc ka kc va vc, r = .agg #[.int .i64 6, .int .i64 0, .string ⟨#[]⟩, .slice la 0 lc, .slice ka ps.length kc, .slice va ps.length vc] ∧
    ps.length ≤ kc ∧ ps.length ≤ vc ∧ kc ≤ 9223372036854775807 ∧ vc ≤ 9223372036854775807 ∧ StrsP w P ka (ps.map (·.1)) ∧ VecP (JP w P n) w P va (ps.map (·.2)) := by
  obtain ⟨la, lc, ka, kc, va, vc, rfl, -, h2, h3, -, h5, h6, -, -, -, -, hs, hv⟩ := h
  refine ⟨la, lc, ka, kc, va, vc, by simp [mapJ, JV.kind, JV.half, JV.text, JV.list, JV.keys, JV.vals], ?_, ?_, h5, h6, hs, hv⟩
  · simpa [mapJ, JV.keys] using h2
  · simpa [mapJ, JV.vals] using h3

theorem JP.ones {w : World} {P : Nat → Prop} {n : Nat} {cells : Array Value} {v : JV} (h : JP w P (n + 1) (.agg cells) v) : cells.all (·.oneCell') = true := by
  obtain ⟨la, lc, ka, kc, va, vc, e, -⟩ := h
  injection e with e
  subst e
  exact val_one _ _ _ _ _ _ _ _ _ _ _ _

theorem six_map (M : List (ByteArray × JV)) (ba : Option Addr) (bc : Nat) (ca : Option Addr) (cc : Nat) (da : Option Addr) (dc : Nat) : (Value.agg #[.int .i64 (mapJ M).kind, .int .i64 (mapJ M).half, .string (mapJ M).text, .slice ba (mapJ M).list.length bc, .slice ca (mapJ M).keys.length cc, .slice da (mapJ M).vals.length dc]) = .agg #[.int .i64 6, .int .i64 0, .string ⟨#[]⟩, .slice ba 0 bc, .slice ca M.length cc, .slice da M.length dc] := by
  simp [mapJ, JV.kind, JV.half, JV.text, JV.list, JV.keys, JV.vals]

theorem mvs_both_ (m : Nat) (u y : JV) (h1 : u.kind = 6) (h2 : y.kind = 6) : mvs (m + 1) (some u) y = mapJ (mrgW (mvs m) (prs u) (prs y)) := if_pos ⟨h1, h2⟩

/-- The blocks of the merged map so far: the arguments', or new ones. -/
def PC (P : Nat → Prop) (S : Nat) (w : World) : Nat → Prop := fun b => P b ∨ Mid S w.heap.size b

/-- The loop's relation. -/
structure SFr (P : Nat → Prop) (w W : World) (n : Nat) (ps qs : List (ByteArray × JV)) (wr : World) (j : Nat) (la : Option Addr) (lc : Nat) (ka : Option Addr) (kc : Nat) (va : Option Addr) (vc : Nat) (N : Nat) : Prop where
  only : Only (· = w.heap.size) W wr
  len : N = (mrgW (mvs n) ps (qs.take j)).length
  blk : Blk wr w.heap.size 26 #[.int .i64 6, .int .i64 0, .string ⟨#[]⟩, .slice la 0 lc, .slice ka N kc, .slice va N vc]
  cur : JP wr (PC P W.heap.size wr) (n + 1) (.agg #[.int .i64 6, .int .i64 0, .string ⟨#[]⟩, .slice la 0 lc, .slice ka N kc, .slice va N vc]) (mapJ (mrgW (mvs n) ps (qs.take j)))

set_option maxHeartbeats 4000000 in
set_option maxRecDepth 100000 in
theorem merged_step (n : Nat) (ih : ∀ m, n = m + 1 → MS m) : MS n := by
  intro w P a b x y hx hy fx fy kx ky hP
  have ex := mapJ_prs fx.2 kx
  have ey := mapJ_prs fy.2 ky
  obtain ⟨ps, hps⟩ : ∃ ps, ps = prs x := ⟨_, rfl⟩
  obtain ⟨qs, hqs⟩ : ∃ qs, qs = prs y := ⟨_, rfl⟩
  have axp := fx.asc
  have axq := fy.asc
  have lp := fx.len
  have lq := fy.len
  have hvp : ∀ k z, lk ps k = some z → Fine n z := fun k z h => fx.val (lk_mem (by rw [← hps]; exact h))
  have hvq : ∀ q, q ∈ qs → Fine n q.2 ∧ q.1.size ≤ 9223372036854775807 := fun q h => ⟨fy.val (k := q.1) (y := q.2) (by rw [← hqs]; exact h), fy.key (k := q.1) (y := q.2) (by rw [← hqs]; exact h)⟩
  rw [← hps] at ex axp lp ⊢
  rw [← hqs] at ey axq lq ⊢
  subst ex
  subst ey
  clear hps hqs kx ky fx fy
  have hx' := hide hx
  obtain ⟨la, lc, ka, kc, va, vc, rfl, g2, g3, g5, g6, -, -⟩ := hx.map_shape
  obtain ⟨la2, lc2, ka2, kc2, va2, vc2, rfl, e2, e3, e5, e6, hs2, hv2⟩ := hy.map_shape
  clear hx hy
  obtain ⟨Wa, hWa⟩ : ∃ Wa, Wa = w.alloc (.cells #[.int .i64 6, .int .i64 0, .string ⟨#[]⟩, .slice la 0 lc, .slice ka ps.length kc, .slice va ps.length vc] 26) := ⟨_, rfl⟩
  obtain ⟨Wb, hWb⟩ : ∃ Wb, Wb = Wa.alloc (.cells #[.int .i64 6, .int .i64 0, .string ⟨#[]⟩, .slice la2 0 lc2, .slice ka2 qs.length kc2, .slice va2 qs.length vc2] 26) := ⟨_, rfl⟩
  obtain ⟨W, hW⟩ : ∃ W, W = Wb.alloc (.cells #[.int .i64 0, .int .i64 0, .string ⟨#[]⟩, .slice none 0 0, .slice none 0 0, .slice none 0 0] 26) := ⟨_, rfl⟩
  have sa : Wa.heap.size = w.heap.size + 1 := by rw [hWa]; simp
  have sb : Wb.heap.size = w.heap.size + 2 := by rw [hWb]; simp [sa]
  have sW : W.heap.size = w.heap.size + 3 := by rw [hW]; simp [sb]
  have bW : Below w.heap.size w W := by rw [hW, hWb, hWa]; exact Below.alloc (Below.alloc (Below.alloc (Below.refl _ _) (Nat.le_refl _) _) (by simp) _) (by simp; omega) _
  have kX : Blk W w.heap.size 26 #[.int .i64 6, .int .i64 0, .string ⟨#[]⟩, .slice la 0 lc, .slice ka ps.length kc, .slice va ps.length vc] := by
    rw [hW, hWb, hWa]
    exact ((Blk.new w _ _).alloc _).alloc _
  have kY : Blk W (w.heap.size + 1) 26 #[.int .i64 6, .int .i64 0, .string ⟨#[]⟩, .slice la2 0 lc2, .slice ka2 qs.length kc2, .slice va2 qs.length vc2] := by
    have h := Blk.new Wa 26 #[.int .i64 6, .int .i64 0, .string ⟨#[]⟩, .slice la2 0 lc2, .slice ka2 qs.length kc2, .slice va2 qs.length vc2]
    rw [← hWb, sa] at h
    rw [hW]
    exact h.alloc _
  have kZ : Blk W (w.heap.size + 1 + 1) 26 #[.int .i64 0, .int .i64 0, .string ⟨#[]⟩, .slice none 0 0, .slice none 0 0, .slice none 0 0] := by
    have h := Blk.new Wb 26 #[.int .i64 0, .int .i64 0, .string ⟨#[]⟩, .slice none 0 0, .slice none 0 0, .slice none 0 0]
    rw [← hW, sb] at h
    exact h
  rw [hWb, hWa] at hW
  have hxW : JP W (PC P W.heap.size W) (n + 1) _ (mapJ ps) := JP.keep (fun p hp => bW.cell (hP _ hp)) (fun b h => Or.inl h) (n + 1) _ _ hx'.out
  have h0 : SFr P w W n ps qs W 0 la lc ka kc va vc ps.length := ⟨Only.refl _ _, by simp [mrgW], kX, by simpa [mrgW] using hxW⟩
  have q4 := kY.cell 4
  have lY := kY.lt
  simp at q4
  have lW : w.heap.size + 2 < W.heap.size := by omega
  clear hWa hWb sa sb hx' hxW kX sW
  replace hP := hide hP
  replace bW := hide bW
  replace kY := hide kY
  replace kZ := hide kZ
  replace hs2 := hide hs2
  replace hv2 := hide hv2
  replace h0 := hide h0
  replace ih := hide ih
  replace hvp := hide hvp
  replace hvq := hide hvq
  replace axp := hide axp
  replace axq := hide axq
  go_enter Tryd.func63, Tryd.ntmps63
  go_wp2_with fail
  rw [← hW]
  clear hW
  go_loopw [12] (fun s12 wr => ∃ (j : Nat) (la : Option Addr) (lc : Nat) (ka : Option Addr) (kc : Nat) (va : Option Addr) (vc N : Nat), s12 = .int .i64 j ∧ j ≤ qs.length ∧ SFr P w W n ps qs wr j la lc ka kc va vc N) (fun i _ => qs.length - (intOf i).toNat)
  case atStart => exact ⟨0, _, _, _, _, _, _, _, rfl, Nat.zero_le _, h0.out⟩
  case round =>
    obtain ⟨j, la3, lc3, ka3, kc3, va3, vc3, N, rfl, hj, hF⟩ := hrel
    by_cases hjl : j < qs.length
    · obtain ⟨q, hq⟩ : ∃ q, qs[j]? = some q := ⟨_, List.getElem?_eq_getElem hjl⟩
      obtain ⟨k, u⟩ := q
      obtain ⟨hfu, hks⟩ := hvq.out _ (List.mem_of_getElem? hq)
      obtain ⟨m, rfl⟩ : ∃ m, n = m + 1 := by
        cases n with
        | zero => exact absurd hfu.1 (fun h => h)
        | succ m => exact ⟨m, rfl⟩
      obtain ⟨bk, ok, rfl, hbk, hck⟩ := hs2.out.2 (by simpa using (by omega : 0 < qs.length))
      obtain ⟨bv, ov, rfl, hbv, hcv⟩ := hv2.out (by simpa using (by omega : 0 < qs.length))
      have hkj := hck j k (by rw [List.getElem?_map, hq]; rfl)
      obtain ⟨c0, c1, c2, c3, c4, c5, d0, d1, d2, d3, d4, d5, hju⟩ := hcv j u (by rw [List.getElem?_map, hq]; rfl)
      have hro : ∀ p : Addr, P p.block → wr.cell? p = w.cell? p := fun p hp => (World.cell?_of_block (hF.only.block p.block (by have := hP.out _ hp; omega) (by have := hP.out _ hp; omega))).trans (bW.out.cell (hP.out _ hp))
      have hju' := JP.keep hro (fun _ h => h) (m + 1) _ _ hju
      obtain ⟨ula, ulc, uka, ukc, uva, uvc, hagg, -⟩ := hju
      simp at hagg
      obtain ⟨rfl, rfl, rfl, rfl, rfl, rfl⟩ := hagg
      replace hkj := (hro ⟨bk, ok + j, none⟩ hbk).trans hkj
      replace d0 := (hro ⟨bv, ov + j * 6, none⟩ hbv).trans d0
      replace d1 := (hro ⟨bv, ov + j * 6 + 1, none⟩ hbv).trans d1
      replace d2 := (hro ⟨bv, ov + j * 6 + 2, none⟩ hbv).trans d2
      replace d3 := (hro ⟨bv, ov + j * 6 + 3, none⟩ hbv).trans d3
      replace d4 := (hro ⟨bv, ov + j * 6 + 4, none⟩ hbv).trans d4
      replace d5 := (hro ⟨bv, ov + j * 6 + 5, none⟩ hbv).trans d5
      clear hck hcv hro
      have sr := hF.only.size
      have kYr := hF.only.blk kY.out (by omega)
      have kZr := hF.only.blk kZ.out (by omega)
      have lYr := kYr.lt
      have lbk : bk < wr.heap.size := by have := hP.out _ hbk; omega
      have lbv : bv < wr.heap.size := by have := hP.out _ hbv; omega
      replace hF := hide hF
      replace hju' := hide hju'
      replace kYr := hide kYr
      replace kZr := hide kZr
      replace hq := hide hq
      replace hfu := hide hfu
      go_wp2_with fail
      obtain ⟨cur, hcur⟩ : ∃ cur, cur = mrgW (mvs (m + 1)) ps (qs.take j) := ⟨_, rfl⟩
      obtain ⟨hlk, hnx⟩ := mrgW_next (mvs (m + 1)) (ps := ps) axq.out hq.out
      have hFc := hF.out.cur
      have hFl := hF.out.len
      rw [← hcur] at hlk hnx hFc hFl
      have acur : Asc cur := by rw [hcur]; exact asc_mrgW _ _ _ axp.out
      have hcl : cur.length ≤ 800 := by
        have := length_mrgW (mvs (m + 1)) (qs.take j) ps
        rw [← hcur] at this
        have h2 : (qs.take j).length ≤ qs.length := by simp; omega
        omega
      obtain ⟨G, hG⟩ : ∃ G, G = (lk cur k).getD zeroJ := ⟨_, rfl⟩
      have hPC : ∀ b, PC P W.heap.size wr b → b < wr.heap.size := fun b hb => by
        rcases hb with hb | hb
        · have := hP.out b hb; omega
        · exact hb.2
      have hget := hide fun (X : World) (h : Below wr.heap.size wr X) => get_any m X (PC P W.heap.size wr) _ (mapJ cur) k (JP.keep (fun p hp => h.cell (hPC _ hp)) (fun _ h => h) (m + 2) _ _ hFc) (by rw [prs_mapJ]; exact acur) (by simp [mapJ, JV.keys, JV.vals]) (fun b hb => by have := hPC b hb; have := h.size; omega)
      rw [prs_mapJ, ← hG] at hget
      simp only at hlk hnx
      replace hPC := hide hPC
      replace hG := hide hG
      replace hcur := hide hcur
      replace hFc := hide hFc
      replace hFl := hide hFl
      replace hlk := hide hlk
      replace hnx := hide hnx
      have kX0 := hide hF.out.blk
      refine wp_region_inv (by kernel_rfl) (fun listed a w' => ∃ s0 s1 s2 s3 s4 s5 s6 s7 s8 s9, a = (⟨#[.agg #[.int .i64 6, .int .i64 0, .string ⟨#[]⟩, .slice la 0 lc, .slice ka ps.length kc, .slice va ps.length vc], .agg #[.int .i64 6, .int .i64 0, .string ⟨#[]⟩, .slice la2 0 lc2, .slice (some ⟨bk, ok, none⟩) qs.length kc2, .slice (some ⟨bv, ov, none⟩) qs.length vc2], .pointer (some ⟨w.heap.size, 0, none⟩), .pointer (some ⟨w.heap.size + 1, 0, none⟩), .pointer (some ⟨w.heap.size + 1 + 1, 0, none⟩), .int .i64 j, .string k, s8, s9, .pointer (some ⟨w.heap.size + 1, 4, none⟩), .slice (some ⟨bk, ok, none⟩) qs.length kc2, .int .i64 qs.length, .int .i64 j, .bool true, .int .i64 j, .pointer (some ⟨bk, ok + j, none⟩), .string k, s0, s1, s2, s3, s4, s5, s6, s7, u25, u26, u27, u28, u29, u30, u31, u32, u33, u34, u35, u36, u37, u38, u39, u40, undef], []⟩ : Act) ∧ RegM wr (PC P W.heap.size wr) (w.heap.size + 1) m j k G (.agg #[.int .i64 6, .int .i64 0, .string ⟨#[]⟩, .slice la3 0 lc3, .slice ka3 N kc3, .slice va3 N vc3]) (.slice (some ⟨bv, ov, none⟩) qs.length vc2) (.pointer (some ⟨bv, ov + j * 6, none⟩)) (.agg #[.int .i64 u.kind, .int .i64 u.half, .string u.text, .slice ula u.list.length ulc, .slice uka u.keys.length ukc, .slice uva u.vals.length uvc]) listed w' s0 s1 s2 s3 s4 s5 s6 s7 s8 s9) ?_ ?_ ?_
      · exact ⟨_, _, _, _, _, _, _, _, _, _, rfl, RegM.start _ _ _ _ _ _ _ _ _ _ _ _ _ _ _ _ _ _ _ _ _⟩
      · rintro listed a w' i ⟨s0, s1, s2, s3, s4, s5, s6, s7, s8, s9, rfl, H⟩ hi
        have hun := Up.no (Up.un hi)
        have hlt12 : i < 12 := by
          obtain ⟨-, o, ho, -⟩ := mem_ready.1 hi
          rcases Nat.lt_or_ge i 12 with h | h
          · exact h
          · rw [Array.getElem?_eq_none (by exact h)] at ho
            cases ho
        have hi12 : i = 0 ∨ i = 1 ∨ i = 2 ∨ i = 3 ∨ i = 4 ∨ i = 5 ∨ i = 6 ∨ i = 7 ∨ i = 8 ∨ i = 9 ∨ i = 10 ∨ i = 11 := by omega
        rcases hi12 with rfl | rfl | rfl | rfl | rfl | rfl | rfl | rfl | rfl | rfl | rfl | rfl
        · have kd := kX0.out.below H.low kX0.out.lt
          have lg := kd.lt
          obtain ⟨y0, y1, y2, y3, y4, y5⟩ := blk_six kd
          clear kd
          replace H := hide H
          replace hi := hide hi
          replace hun := hide hun
          refine wpOp_of_list rfl ?_
          go_wp2_with fail
          refine Then.normal ⟨_, _, _, _, _, _, _, _, _, _, rfl, H.out.s0⟩
        · replace H := hide H
          replace hi := hide hi
          replace hun := hide hun
          refine wpOp_of_list rfl ?_
          go_wp2_with fail
          refine Then.normal ⟨_, _, _, _, _, _, _, _, _, _, rfl, H.out.s1⟩
        · obtain rfl := H.f0 (Up.waits hi 0 (by kernel_rfl))
          obtain rfl := H.f1 (Up.waits hi 1 (by kernel_rfl))
          have hc := hide (hget.out w' H.low)
          replace H := hide H
          replace hi := hide hi
          replace hun := hide hun
          refine wpOp_of_list rfl ?_
          go_wp2_with fail
          refine hc.out.mono ?_
          rintro e w2 ⟨c0, c1, c2, c3, c4, c5, rfl, hb2, hj2⟩
          have hj3 := JP.keep (w' := wr) (fun p hp => ((H.out.low.trans (hb2.mono H.out.low.size)).cell (hPC.out _ hp)).symm) (fun _ h => h) (m + 1) _ _ hj2
          replace hb2 := hide hb2
          replace hj3 := hide hj3
          clear hj2
          go_wp2_with fail
          refine Then.normal ⟨_, _, _, _, _, _, _, _, _, _, rfl, H.out.s2 hun.out hb2.out hj3.out⟩
        · replace H := hide H
          replace hi := hide hi
          replace hun := hide hun
          refine wpOp_of_list rfl ?_
          go_wp2_with fail
          refine Then.normal ⟨_, _, _, _, _, _, _, _, _, _, rfl, H.out.s3⟩
        · obtain rfl := H.f3 (Up.waits hi 3 (by kernel_rfl))
          have kd := kYr.out.below H.low kYr.out.lt
          have lg := kd.lt
          obtain ⟨y0, y1, y2, y3, y4, y5⟩ := blk_six kd
          clear kd
          replace H := hide H
          replace hi := hide hi
          replace hun := hide hun
          refine wpOp_of_list rfl ?_
          go_wp2_with fail
          refine Then.normal ⟨_, _, _, _, _, _, _, _, _, _, rfl, H.out.s4⟩
        · replace H := hide H
          replace hi := hide hi
          replace hun := hide hun
          refine wpOp_of_list rfl ?_
          go_wp2_with fail
          refine Then.normal ⟨_, _, _, _, _, _, _, _, _, _, rfl, H.out.s5⟩
        · obtain rfl := H.f4 (Up.waits hi 4 (by kernel_rfl))
          obtain rfl := H.f5 (Up.waits hi 5 (by kernel_rfl))
          replace H := hide H
          replace hi := hide hi
          replace hun := hide hun
          refine wpOp_of_list rfl ?_
          go_wp2_with fail
          refine Then.normal ⟨_, _, _, _, _, _, _, _, _, _, rfl, H.out.s6⟩
        · obtain rfl := H.f6 (Up.waits hi 6 (by kernel_rfl))
          have y0 := (H.low.cell (p := ⟨bv, ov + j * 6, none⟩) lbv).trans d0
          have y1 := (H.low.cell (p := ⟨bv, ov + j * 6 + 1, none⟩) lbv).trans d1
          have y2 := (H.low.cell (p := ⟨bv, ov + j * 6 + 2, none⟩) lbv).trans d2
          have y3 := (H.low.cell (p := ⟨bv, ov + j * 6 + 3, none⟩) lbv).trans d3
          have y4 := (H.low.cell (p := ⟨bv, ov + j * 6 + 4, none⟩) lbv).trans d4
          have y5 := (H.low.cell (p := ⟨bv, ov + j * 6 + 5, none⟩) lbv).trans d5
          have lw := Nat.lt_of_lt_of_le lbv H.low.size
          replace H := hide H
          replace hi := hide hi
          replace hun := hide hun
          refine wpOp_of_list rfl ?_
          go_wp2_with fail
          refine Then.normal ⟨_, _, _, _, _, _, _, _, _, _, rfl, H.out.s7 hun.out⟩
        · replace H := hide H
          replace hi := hide hi
          replace hun := hide hun
          refine wpOp_of_list rfl ?_
          go_wp2_with fail
          refine Then.normal ⟨_, _, _, _, _, _, _, _, _, _, rfl, H.out.s8 hun.out⟩
        · replace H := hide H
          replace hi := hide hi
          replace hun := hide hun
          refine wpOp_of_list rfl ?_
          go_wp2_with fail
          refine Then.normal ⟨_, _, _, _, _, _, _, _, _, _, rfl, H.out.s9 hun.out⟩
        · have hw1 := Up.waits hi 8 (by kernel_rfl)
          have hw2 := Up.waits hi 2 (by kernel_rfl)
          have hj := H.f2 hw2
          obtain ⟨gla, glc, gka, gkc, gva, gvc, e2, -⟩ := hj
          subst e2
          obtain ⟨ad, rfl, hal, hz, -⟩ := H.b8 hw1
          have kz := hz hun
          refine wpOp_of_list rfl ?_
          refine wpList_store_blk rfl 26 (.tmp 7) (.tmp 19) rfl ad _ rfl rfl 26 _ kz val_size rfl (val_one _ _ _ _ _ _ _ _ _ _ _ _) ?_
          intro w2 k2 o2 z2
          refine Then.normal ⟨_, _, _, _, _, _, _, _, _, _, rfl, H.s10 hun hw1 hw2 rfl rfl k2 o2 hal⟩
        · have hw1 := Up.waits hi 9 (by kernel_rfl)
          have hw2 := Up.waits hi 7 (by kernel_rfl)
          obtain rfl := H.f7 hw2
          obtain ⟨ad, rfl, hal, hz, -⟩ := H.b9 hw1
          have kz := hz hun
          refine wpOp_of_list rfl ?_
          refine wpList_store_blk rfl 26 (.tmp 8) (.tmp 24) rfl ad _ rfl rfl 26 _ kz val_size rfl (val_one _ _ _ _ _ _ _ _ _ _ _ _) ?_
          intro w2 k2 o2 z2
          refine Then.normal ⟨_, _, _, _, _, _, _, _, _, _, rfl, H.s11 hun hw1 hw2 rfl rfl k2 o2 hal⟩
      · rintro listed a W4 ⟨s0, s1, s2, s3, s4, s5, s6, s7, s8, s9, rfl, H⟩ hi
        have hall := Up.all H.size (by kernel_rfl) hi
        have hlow := H.low
        have hjG := H.f2 (hall 2 (by decide))
        obtain ⟨a8, rfl, hal8, -, hk8⟩ := H.b8 (hall 8 (by decide))
        obtain ⟨cells8, rfl, k8⟩ := hk8 (hall 10 (by decide))
        obtain ⟨a9, rfl, hal9, -, hk9⟩ := H.b9 (hall 9 (by decide))
        obtain ⟨cells9, hc9, k9⟩ := hk9 (hall 11 (by decide))
        have hne := H.ne (hall 8 (by decide)) (hall 9 (by decide))
        obtain rfl := H.f0 (hall 0 (by decide))
        obtain rfl := H.f1 (hall 1 (by decide))
        obtain rfl := H.f3 (hall 3 (by decide))
        obtain rfl := H.f4 (hall 4 (by decide))
        obtain rfl := H.f5 (hall 5 (by decide))
        obtain rfl := H.f6 (hall 6 (by decide))
        obtain rfl := H.f7 (hall 7 (by decide))
        injection hc9 with hc9
        subst hc9
        have hjG' := hjG
        obtain ⟨gla, glc, gka, gkc, gva, gvc, eG, -⟩ := hjG
        injection eG with eG
        subst eG
        clear H hall hi hk8 hk9
        have hlow' := hlow.size
        have kX4 := kX0.out.below hlow kX0.out.lt
        have kY4 := kYr.out.below hlow kYr.out.lt
        have kZ4 := kZr.out.below hlow kZr.out.lt
        have hjG4 := JP.keep (w' := W4) (fun p hp => hlow.cell (hPC.out _ hp)) (fun _ h => h) (m + 1) _ _ hjG'
        have hju4 := JP.keep (w' := W4) (Q := PC P W.heap.size wr) (fun p hp => hlow.cell (by have := hP.out _ hp; omega)) (fun _ h => Or.inl h) (m + 1) _ _ hju'.out
        have hjc4 := JP.keep (w' := W4) (fun p hp => hlow.cell (hPC.out _ hp)) (fun _ h => h) (m + 2) _ _ hFc.out
        have hne' : a8 ≠ a9 := fun e => hne (by rw [e])
        obtain ⟨x0, x1, x2, x3, x4, x5⟩ := blk_six kX4
        obtain ⟨v0, v1, v2, v3, v4, v5⟩ := blk_six k8
        obtain ⟨z0, z1, z2, z3, z4, z5⟩ := blk_six k9
        have lx := kX4.lt
        have l8 := k8.lt
        have l9 := k9.lt
        have hfG : G.kind = 6 → Fine (m + 1) G ∧ lk ps k = some G := fun h => by
          cases e : lk cur k with
          | none =>
            rw [hG.out, e] at h
            exact absurd h (by show ¬ (0 : Int) = 6; decide)
          | some z =>
            have : G = z := by rw [hG.out, e]; rfl
            subst this
            have e2 := hlk.out
            rw [e] at e2
            exact ⟨hvp.out _ _ e2.symm, e2.symm⟩
        have hkeep : ∀ u', (mvs (m + 1) (lk ps k) u = u') → mrgW (mvs (m + 1)) ps (qs.take (j + 1)) = put cur k u' := fun u' h => by rw [hnx.out, h]
        have hmv : ¬ (G.kind = 6 ∧ u.kind = 6) → mvs (m + 1) (lk ps k) u = u := fun h => by
          rw [← hlk.out]
          cases e : lk cur k with
          | none => rfl
          | some z =>
            have : G = z := by rw [hG.out, e]; rfl
            subst this
            exact if_neg h
        replace hfG := hide hfG
        replace hkeep := hide hkeep
        replace hmv := hide hmv
        replace hlow := hide hlow
        replace hjG4 := hide hjG4
        replace hju4 := hide hju4
        replace hjc4 := hide hjc4
        replace kX4 := hide kX4
        replace kY4 := hide kY4
        replace kZ4 := hide kZ4
        replace k9 := hide k9
        replace k8 := hide k8
        clear hjG' hne d0 d1 d2 d3 d4 d5 hkj
        have hwith := hide fun (X : World) (u' : JV) (ba : Option Addr) (bc : Nat) (ca : Option Addr) (cc : Nat) (da : Option Addr) (dc : Nat) (h : wr.heap.size ≤ X.heap.size) (hy : JP X (PC P W.heap.size X) (m + 1) (.agg #[.int .i64 u'.kind, .int .i64 u'.half, .string u'.text, .slice ba u'.list.length bc, .slice ca u'.keys.length cc, .slice da u'.vals.length dc]) u') (hc : JP X (PC P W.heap.size wr) (m + 2) (.agg #[.int .i64 6, .int .i64 0, .string ⟨#[]⟩, .slice la3 0 lc3, .slice ka3 N kc3, .slice va3 N vc3]) (mapJ cur)) => with_any m X (PC P W.heap.size X) _ (mapJ cur) u' k ba bc ca cc da dc (JP.more (fun b hb => by rcases hb with hb | hb; exact Or.inl hb; exact Or.inr ⟨hb.1, Nat.lt_of_lt_of_le hb.2 h⟩) hc) hy (by simp [mapJ, JV.keys, JV.vals]) (by simp [mapJ, JV.vals]; omega) hks (fun b hb => by rcases hb with hb | hb; have := hP.out b hb; omega; exact hb.2)
        -- behind With: the variable is turned
        have hend := hide fun (X Y Z : World) (u' : JV) (d0 d1 d2 d3 d4 d5 : Value) (hX : Below wr.heap.size wr X) (hu' : mvs (m + 1) (lk ps k) u = u') (hb : Below X.heap.size X Y) (hj : JP Y (fun b => PC P W.heap.size X b ∨ Mid X.heap.size Y.heap.size b) (m + 2) (.agg #[d0, d1, d2, d3, d4, d5]) (mapJ (put (prs (mapJ cur)) k u'))) (hk : Blk Z w.heap.size 26 #[d0, d1, d2, d3, d4, d5]) (ho : Only (· = w.heap.size) Y Z) (hz : Z.heap.size = Y.heap.size) => (show ∃ la lc ka kc va vc N, SFr P w W (m + 1) ps qs Z (j + 1) la lc ka kc va vc N from by
          rw [prs_mapJ] at hj
          have hj' := hj
          obtain ⟨la, lc, ka, kc, va, vc, eS, -⟩ := hj.map_shape
          injection eS with eS
          injection eS with eS
          simp at eS
          obtain ⟨rfl, rfl, rfl, rfl, rfl, rfl⟩ := eS
          refine ⟨la, lc, ka, kc, va, vc, _, ?_, by rw [hkeep.out u' hu'], hk, ?_⟩
          · have h1 : Only (· = w.heap.size) wr Y := Only.of_below (P := (· = w.heap.size)) (hX.trans (hb.mono hX.size)) (fun k hk _ => hk)
            exact hF.out.only.trans (h1.trans ho)
          · rw [hkeep.out u' hu']
            have hsX := hX.size
            have hsb := hb.size
            refine JP.keep (fun p hp => World.cell?_of_block (ho.block _ ?_ ?_)) (fun b hb => ?_) (m + 2) _ _ hj'
            · rcases hp with (hp | hp) | hp
              · have := hP.out _ hp; omega
              · have := hp.2; omega
              · exact hp.2
            · rcases hp with (hp | hp) | hp
              · have := hP.out _ hp; omega
              · have := hp.1; omega
              · have := hp.1; omega
            · rcases hb with (hb | hb) | hb
              · exact Or.inl hb
              · exact Or.inr ⟨hb.1, by have := hb.2; omega⟩
              · exact Or.inr ⟨by have := hb.1; omega, by have := hb.2; omega⟩)
        have hnx9 : w.heap.size ≠ a9 := by omega
        have hX6 := hide fun (w5 W6 : World) (h5 : Below W4.heap.size W4 w5) (o6 : Only (· = a9) w5 W6) => (show Below wr.heap.size wr W6 from (hlow.out.trans (h5.mono hlow')).trans (o6.below (by intro k hk; omega) (by have := h5.size; omega)))
        have hwm := hide fun (w5 W6 : World) (M : List (ByteArray × JV)) (ba : Option Addr) (bc : Nat) (ca : Option Addr) (cc : Nat) (da : Option Addr) (dc : Nat) (h5 : Below W4.heap.size W4 w5) (hj : JP w5 (fun b => PC P W.heap.size wr b ∨ Mid W4.heap.size w5.heap.size b) (m + 1) (.agg #[.int .i64 6, .int .i64 0, .string ⟨#[]⟩, .slice ba 0 bc, .slice ca M.length cc, .slice da M.length dc]) (mapJ M)) (o6 : Only (· = a9) w5 W6) (s6 : W6.heap.size = w5.heap.size) => (by
          have hs5 := h5.size
          have := hwith.out W6 (mapJ M) ba bc ca cc da dc (by omega) (by
            rw [six_map]
            refine JP.keep (fun p hp => World.cell?_of_block (o6.block _ ?_ ?_)) (fun b hb => ?_) (m + 1) _ _ hj
            · rcases hp with hp | hp
              · have := hPC.out _ hp; omega
              · exact hp.2
            · rcases hp with hp | hp
              · have := hPC.out _ hp; omega
              · have := hp.1; omega
            · rcases hb with (hb | hb) | hb
              · exact Or.inl hb
              · exact Or.inr ⟨hb.1, by have := hb.2; omega⟩
              · exact Or.inr ⟨by have := hb.1; omega, by have := hb.2; omega⟩) (JP.keep (fun p hp => (World.cell?_of_block (o6.block _ (by have := hPC.out _ hp; omega) (by have := hPC.out _ hp; omega))).trans (h5.cell (by have := hPC.out _ hp; omega))) (fun _ h => h) (m + 2) _ _ hjc4.out)
          rw [six_map] at this
          exact this : Calls Tryd.prog 59 #[.agg #[.int .i64 6, .int .i64 0, .string ⟨#[]⟩, .slice la3 0 lc3, .slice ka3 N kc3, .slice va3 N vc3], .string k, .agg #[.int .i64 6, .int .i64 0, .string ⟨#[]⟩, .slice ba 0 bc, .slice ca M.length cc, .slice da M.length dc]] W6 fun e w' => ∃ c0 c1 c2 c3 c4 c5, e = .returned (.agg #[c0, c1, c2, c3, c4, c5]) ∧ Below W6.heap.size W6 w' ∧ JP w' (fun b => PC P W.heap.size W6 b ∨ Mid W6.heap.size w'.heap.size b) (m + 2) (.agg #[c0, c1, c2, c3, c4, c5]) (mapJ (put (prs (mapJ cur)) k (mapJ M))))
        have hwu := hide (hwith.out W4 u ula ulc uka ukc uva uvc hlow' (JP.more (fun b hb => by rcases hb with hb | hb; exact Or.inl hb; exact Or.inr ⟨hb.1, Nat.lt_of_lt_of_le hb.2 hlow'⟩) hju4.out) hjc4.out)
        by_cases hGk : G.kind = 6
        · by_cases hUk : u.kind = 6
          · obtain ⟨fG, eG⟩ := hfG.out hGk
            have hc := ih.out m rfl W4 (PC P W.heap.size wr) _ _ G u hjG4.out hju4.out fG hfu.out hGk hUk (fun b hb => by have := hPC.out b hb; omega)
            have hu' : mvs (m + 1) (lk ps k) u = mapJ (mrgW (mvs m) (prs G) (prs u)) := by rw [eG]; exact mvs_both_ m G u hGk hUk
            obtain ⟨M, hM⟩ : ∃ M, M = mrgW (mvs m) (prs G) (prs u) := ⟨_, rfl⟩
            rw [← hM] at hc hu'
            rw [hGk] at hc v0
            rw [hUk] at hc z0
            have k8' := k8.out
            rw [hGk] at k8'
            have k9' := k9.out
            rw [hUk] at k9'
            replace hc := hide hc
            replace hM := hide hM
            replace hu' := hide hu'
            replace k9' := hide k9'
            clear fG eG k8'
            replace hGk := hide hGk
            replace hUk := hide hUk
            go_wp2_with (first
              | (go_at_call 63; refine hc.out.mono ?_; rintro e w5 ⟨r, rfl, hb5, hj5⟩; have hj5' := hide hj5; obtain ⟨ba, bc, ca, cc, da, dc, rfl, -⟩ := hj5.map_shape; have k95 := hide (k9'.out.below hb5 k9'.out.lt); have hb5' := hide hb5; clear hb5 hj5)
              | (refine wpList_store_blk rfl 26 (.tmp 8) (.tmp 35) rfl a9 _ rfl rfl 26 _ k95.out val_size rfl (val_one _ _ _ _ _ _ _ _ _ _ _ _) ?_; intro W6 k6 o6 s6; have k6' := hide k6; have o6' := hide o6; have s6' := hide s6; have kx6 := o6.blk (kX4.out.below hb5'.out kX4.out.lt) hnx9; obtain ⟨x0, x1, x2, x3, x4, x5⟩ := blk_six kx6; obtain ⟨z0, z1, z2, z3, z4, z5⟩ := blk_six k6; have lx := kx6.lt; have l9 := k6.lt; have kx6' := hide kx6; clear k6 o6 s6 kx6)
              | (go_at_call 59; refine (hwm.out w5 W6 M _ _ _ _ _ _ hb5'.out hj5'.out o6'.out s6'.out).mono ?_; rintro e w7 ⟨d0, d1, d2, d3, d4, d5, rfl, hb7, hj7⟩; have kx7 := hide (kx6'.out.below hb7 kx6'.out.lt); have hb7' := hide hb7; have hj7' := hide hj7; have hon := JP.ones hj7; clear hb7 hj7)
              | (refine wpList_store_blk rfl 26 (.tmp 2) (.tmp 39) rfl w.heap.size _ rfl rfl 26 _ kx7.out val_size rfl hon ?_; intro W8 k8e o8 s8e; have hsf := hide (hend.out W6 w7 W8 _ _ _ _ _ _ _ (hX6.out w5 W6 hb5'.out o6'.out) hu'.out hb7'.out hj7'.out k8e o8 s8e); clear k8e o8 s8e))
            go_roundw
            case rel =>
              obtain ⟨f1, f2, f3, f4, f5, f6, f7, f8⟩ := hsf.out
              exact ⟨j + 1, f1, f2, f3, f4, f5, f6, f7, by go_num, by omega, f8⟩
            case measure => simp [intOf]; omega
          · have hu' := hide (hmv.out (fun h => hUk h.2))
            rw [hGk] at v0
            replace hGk := hide hGk
            go_wp2_with (first
              | (go_at_call 59; refine hwu.out.mono ?_; rintro e w7 ⟨d0, d1, d2, d3, d4, d5, rfl, hb7, hj7⟩; have kx7 := hide (kX4.out.below hb7 kX4.out.lt); have hb7' := hide hb7; have hj7' := hide hj7; have hon := JP.ones hj7; clear hb7 hj7)
              | (refine wpList_store_blk rfl 26 (.tmp 2) (.tmp 39) rfl w.heap.size _ rfl rfl 26 _ kx7.out val_size rfl hon ?_; intro W8 k8e o8 s8e; have hsf := hide (hend.out W4 w7 W8 _ _ _ _ _ _ _ hlow.out hu'.out hb7'.out hj7'.out k8e o8 s8e); clear k8e o8 s8e))
            go_roundw
            case rel =>
              obtain ⟨f1, f2, f3, f4, f5, f6, f7, f8⟩ := hsf.out
              exact ⟨j + 1, f1, f2, f3, f4, f5, f6, f7, by go_num, by omega, f8⟩
            case measure => simp [intOf]; omega
        · have hu' := hide (hmv.out (fun h => hGk h.1))
          go_wp2_with (first
            | (go_at_call 59; refine hwu.out.mono ?_; rintro e w7 ⟨d0, d1, d2, d3, d4, d5, rfl, hb7, hj7⟩; have kx7 := hide (kX4.out.below hb7 kX4.out.lt); have hb7' := hide hb7; have hj7' := hide hj7; have hon := JP.ones hj7; clear hb7 hj7)
            | (refine wpList_store_blk rfl 26 (.tmp 2) (.tmp 39) rfl w.heap.size _ rfl rfl 26 _ kx7.out val_size rfl hon ?_; intro W8 k8e o8 s8e; have hsf := hide (hend.out W4 w7 W8 _ _ _ _ _ _ _ hlow.out hu'.out hb7'.out hj7'.out k8e o8 s8e); clear k8e o8 s8e))
          go_roundw
          case rel =>
            obtain ⟨f1, f2, f3, f4, f5, f6, f7, f8⟩ := hsf.out
            exact ⟨j + 1, f1, f2, f3, f4, f5, f6, f7, by go_num, by omega, f8⟩
          case measure => simp [intOf]; omega
    · obtain rfl : j = qs.length := by omega
      have hcur := hF.cur
      have hlen := hF.len
      have kZr := hF.only.blk kZ.out (by omega)
      have sr := hF.only.size
      have hbr := bW.out.trans (hF.only.below (B := w.heap.size) (by intro k hk; omega) bW.out.size)
      obtain ⟨x0, x1, x2, x3, x4, x5⟩ := blk_six hF.blk
      have lx := hF.blk.lt
      rw [List.take_length] at hcur hlen
      replace hcur := hide hcur
      replace hlen := hide hlen
      replace hbr := hide hbr
      replace kZr := hide kZr
      replace hF := hide hF
      go_wp2_with (refine wpList_store_blk rfl 26 (.tmp 4) (.tmp 41) rfl (w.heap.size + 1 + 1) _ rfl rfl 26 _ kZr.out val_size rfl (val_one _ _ _ _ _ _ _ _ _ _ _ _) ?_; intro W9 k9 o9 s9; have k9' := hide k9; have o9' := hide o9; have s9' := hide s9; clear k9 o9 s9)
      obtain ⟨q0, q1, q2, q3, q4, q5⟩ := blk_six k9'.out
      refine bodyPost_ret (v := .agg #[.int .i64 6, .int .i64 0, .string ⟨#[]⟩, .slice la3 0 lc3, .slice ka3 N kc3, .slice va3 N vc3]) (by simp [results, Tryd.results63, go_sem, q0, q1, q2, q3, q4, q5]) rfl ⟨_, rfl, hbr.out.trans (o9'.out.below (by intro k hk; omega) hbr.out.size), ?_⟩
      refine JP.keep (fun p hp => World.cell?_of_block (o9'.out.block _ ?_ ?_)) (fun b hb => ?_) (n + 1) _ _ hcur.out
      · rcases hp with hp | hp
        · have := hP.out _ hp; omega
        · exact hp.2
      · rcases hp with hp | hp
        · have := hP.out _ hp; omega
        · have := hp.1; omega
      · rcases hb with hb | hb
        · exact Or.inl hb
        · exact Or.inr ⟨by have := hb.1; omega, by have := hb.2; have := s9'.out; omega⟩

theorem merged_any : ∀ n, MS n
  | 0 => merged_step 0 (fun m h => by omega)
  | n + 1 => merged_step (n + 1) (fun m h => by obtain rfl : m = n := by omega
                                                exact merged_any m)
end Go.Proofs.YtmkdkcbkgngfdaaDoor
