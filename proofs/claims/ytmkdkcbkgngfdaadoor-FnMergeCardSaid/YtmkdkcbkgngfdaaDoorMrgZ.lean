/- The reference's times, Vague and Operate, and fit, walked. -/
import Derived.Test.YtmkdkcbkgngfdaaDoorMrgY
import Derived.Test.YtmkdkcbkgngfdaaDoorLawB
namespace Go.Proofs.YtmkdkcbkgngfdaaDoor
open Go.RowKit Go.Maps Go.Sort
set_option linter.unusedVariables false

/-- Two arguments laid, and a variable for the answer. -/
theorem three_laid (w : World) (a0 a1 a2 a3 a4 a5 b0 b1 b2 b3 b4 b5 : Value) (t : TypeId) : ∃ W, W = ((w.alloc (.cells #[a0, a1, a2, a3, a4, a5] t)).alloc (.cells #[b0, b1, b2, b3, b4, b5] t)).alloc (.cells #[.int .i64 0, .int .i64 0, .string ⟨#[]⟩, .slice none 0 0, .slice none 0 0, .slice none 0 0] t) ∧
    W.heap.size = w.heap.size + 3 ∧ Below w.heap.size w W ∧ Blk W w.heap.size t #[a0, a1, a2, a3, a4, a5] ∧ Blk W (w.heap.size + 1) t #[b0, b1, b2, b3, b4, b5] ∧ Blk W (w.heap.size + 1 + 1) t #[.int .i64 0, .int .i64 0, .string ⟨#[]⟩, .slice none 0 0, .slice none 0 0, .slice none 0 0] := by
  obtain ⟨Wa, hWa⟩ : ∃ Wa, Wa = w.alloc (.cells #[a0, a1, a2, a3, a4, a5] t) := ⟨_, rfl⟩
  obtain ⟨Wb, hWb⟩ : ∃ Wb, Wb = Wa.alloc (.cells #[b0, b1, b2, b3, b4, b5] t) := ⟨_, rfl⟩
  obtain ⟨W, hW⟩ : ∃ W, W = Wb.alloc (.cells #[.int .i64 0, .int .i64 0, .string ⟨#[]⟩, .slice none 0 0, .slice none 0 0, .slice none 0 0] t) := ⟨_, rfl⟩
  have sa : Wa.heap.size = w.heap.size + 1 := by rw [hWa]; simp
  have sb : Wb.heap.size = w.heap.size + 2 := by rw [hWb]; simp [sa]
  have sW : W.heap.size = w.heap.size + 3 := by rw [hW]; simp [sb]
  have bW : Below w.heap.size w W := by rw [hW, hWb, hWa]; exact Below.alloc (Below.alloc (Below.alloc (Below.refl _ _) (Nat.le_refl _) _) (by simp) _) (by simp; omega) _
  have kX : Blk W w.heap.size t #[a0, a1, a2, a3, a4, a5] := by
    rw [hW, hWb, hWa]
    exact ((Blk.new w _ _).alloc _).alloc _
  have kY : Blk W (w.heap.size + 1) t #[b0, b1, b2, b3, b4, b5] := by
    have h := Blk.new Wa t #[b0, b1, b2, b3, b4, b5]
    rw [← hWb, sa] at h
    rw [hW]
    exact h.alloc _
  have kZ : Blk W (w.heap.size + 1 + 1) t #[.int .i64 0, .int .i64 0, .string ⟨#[]⟩, .slice none 0 0, .slice none 0 0, .slice none 0 0] := by
    have h := Blk.new Wb t #[.int .i64 0, .int .i64 0, .string ⟨#[]⟩, .slice none 0 0, .slice none 0 0, .slice none 0 0]
    rw [← hW, sb] at h
    exact h
  rw [hWb, hWa] at hW
  exact ⟨W, hW, sW, bW, kX, kY, kZ⟩

theorem JP.six {w : World} {P : Nat → Prop} {n : Nat} {r : Value} {v : JV} (h : JP w P (n + 1) r v) : ∃ c0 c1 c2 c3 c4 c5, r = .agg #[c0, c1, c2, c3, c4, c5] ∧ (#[c0, c1, c2, c3, c4, c5] : Array Value).all (·.oneCell') = true := by
  obtain ⟨la, lc, ka, kc, va, vc, rfl, -⟩ := h
  exact ⟨_, _, _, _, _, _, rfl, val_one _ _ _ _ _ _ _ _ _ _ _ _⟩

set_option maxHeartbeats 4000000 in
set_option maxRecDepth 100000 in
theorem times_any (n : Nat) (w : World) (P : Nat → Prop) (a b : Value) (x y : JV) (hx : JP w P (n + 1) a x) (hy : JP w P (n + 1) b y) (fx : Fine (n + 1) x) (fy : Fine (n + 1) y) (kx : x.kind = 6) (ky : y.kind = 6) (hP : ∀ b, P b → b < w.heap.size) :
    Calls Tryd.prog 40 #[a, b] w fun e w' => ∃ r, e = .returned (.tuple #[r, .int .i64 0]) ∧ Below w.heap.size w w' ∧ JP w' (fun b => P b ∨ Mid w.heap.size w'.heap.size b) (n + 1) r (mapJ (mrgW (mvs n) (prs x) (prs y))) := by
  have hx' := hide hx
  have hy' := hide hy
  obtain ⟨la, lc, ka, kc, va, vc, rfl, -⟩ := hx
  obtain ⟨la2, lc2, ka2, kc2, va2, vc2, rfl, -⟩ := hy
  rw [kx] at hx' ⊢
  rw [ky] at hy' ⊢
  obtain ⟨W, hW, sW, bW, kX, kY, kZ⟩ := three_laid w (.int .i64 6) (.int .i64 x.half) (.string x.text) (.slice la x.list.length lc) (.slice ka x.keys.length kc) (.slice va x.vals.length vc) (.int .i64 6) (.int .i64 y.half) (.string y.text) (.slice la2 y.list.length lc2) (.slice ka2 y.keys.length kc2) (.slice va2 y.vals.length vc2) 26
  have hm := hide fun (X : World) (h : X.heap = W.heap) => merged_any n X P _ _ x y (JP.keep (fun p hp => by have := bW.cell (hP _ hp); simpa [World.cell?, h] using this) (fun _ h => h) (n + 1) _ _ hx'.out) (JP.keep (fun p hp => by have := bW.cell (hP _ hp); simpa [World.cell?, h] using this) (fun _ h => h) (n + 1) _ _ hy'.out) fx fy kx ky (fun b hb => by have := hP b hb; rw [h]; omega)
  have hmW := hide (hm.out W rfl)
  clear hx' hy' hm
  obtain ⟨x0, x1, x2, x3, x4, x5⟩ := blk_six kX
  obtain ⟨y0, y1, y2, y3, y4, y5⟩ := blk_six kY
  have lx := kX.lt
  have ly := kY.lt
  obtain ⟨T, hT⟩ : ∃ T, T = mapJ (mrgW (mvs n) (prs x) (prs y)) := ⟨_, rfl⟩
  rw [← hT] at hmW ⊢
  replace kZ := hide kZ
  replace bW := hide bW
  replace sW := hide sW
  replace hP := hide hP
  clear fx fy hT kX kY
  go_enter Tryd.func40, Tryd.ntmps40
  go_upto_region 1 with fail
  rw [← hW]
  clear hW
  go_wp2_with (first
    | (go_at_call 63; refine hmW.out.mono ?_; rintro e W1 ⟨r, rfl, b1, hj⟩; obtain ⟨c0, c1, c2, c3, c4, c5, rfl, h1⟩ := hj.six; have kZ1 := hide (kZ.out.below b1 kZ.out.lt); have b1' := hide b1; have hj' := hide hj; clear b1 hj)
    | (refine wpList_store_blk rfl 26 (.tmp 4) (.tmp 125) rfl (w.heap.size + 1 + 1) _ rfl rfl 26 _ kZ1.out val_size rfl h1 ?_; intro W2 k2 o2 s2; have k2' := hide k2; have o2' := hide o2; have s2' := hide s2; clear k2 o2 s2))
  obtain ⟨q0, q1, q2, q3, q4, q5⟩ := blk_six k2'.out
  refine bodyPost_ret (v := .tuple #[.agg #[c0, c1, c2, c3, c4, c5], .int .i64 0]) (by simp [results, Tryd.results40, go_sem, q0, q1, q2, q3, q4, q5]) rfl ⟨_, rfl, (bW.out.trans (b1'.out.mono bW.out.size)).trans (o2'.out.below (by intro k hk; omega) (by have := bW.out.size; have := b1'.out.size; omega)), ?_⟩
  refine JP.keep (fun p hp => World.cell?_of_block (o2'.out.block _ ?_ ?_)) (fun b hb => ?_) (n + 1) _ _ hj'.out
  · have := b1'.out.size
    rcases hp with hp | hp
    · have := hP.out _ hp; have := sW.out; omega
    · exact hp.2
  · rcases hp with hp | hp
    · have := hP.out _ hp; omega
    · have := hp.1; have := sW.out; omega
  · rcases hb with hb | hb
    · exact Or.inl hb
    · exact Or.inr ⟨by have := hb.1; have := sW.out; omega, by have := hb.2; have := s2'.out; omega⟩

/-- What Vague asks of the values of a row. -/
def VG (n : Nat) : Prop := ∀ (w : World) (B : Nat) (x : Value) (v : JV), JAt w B n x v → Say n v → B ≤ w.heap.size →
  Calls Tryd.prog 37 #[x] w fun e w' => e = .returned (.bool false) ∧ Below w.heap.size w w'

set_option maxHeartbeats 4000000 in
set_option maxRecDepth 100000 in
theorem vague_step (n : Nat) (ih : VG n) : VG (n + 1) := by
  intro w B x v hx hs hB
  obtain ⟨la, lc, ka, kc, va, vc, rfl, g1, g2, g3, g4, g5, g6, -, -, -, hl, -, hv⟩ := hx
  obtain ⟨⟨k0, k6⟩, -, -, -, -, -, -, -, l1, l2, sl, -, sv, -, -⟩ := hs
  have k7 : ¬ v.kind = 7 := by omega
  obtain ⟨W, hW⟩ : ∃ W, W = w.alloc (.cells #[.int .i64 v.kind, .int .i64 v.half, .string v.text, .slice la v.list.length lc, .slice ka v.keys.length kc, .slice va v.vals.length vc] 26) := ⟨_, rfl⟩
  have bW : Below w.heap.size w W := by rw [hW]; exact Below.alloc (Below.refl _ _) (Nat.le_refl _) _
  have kW : Blk W w.heap.size 26 #[.int .i64 v.kind, .int .i64 v.half, .string v.text, .slice la v.list.length lc, .slice ka v.keys.length kc, .slice va v.vals.length vc] := by rw [hW]; exact Blk.new w _ _
  have q3 := kW.cell 3
  have lW := kW.lt
  simp at q3
  replace hl := hide hl
  replace hv := hide hv
  replace sl := hide sl
  replace sv := hide sv
  replace kW := hide kW
  replace bW := hide bW
  replace k0 := hide k0
  replace k6 := hide k6
  go_enter Tryd.func37, Tryd.ntmps37
  go_wp2_with fail
  rw [← hW]
  clear hW
  go_loopw [10] (fun s10 wr => ∃ j : Nat, s10 = .int .i64 j ∧ j ≤ v.list.length ∧ Below W.heap.size W wr) (fun i _ => v.list.length - (intOf i).toNat)
  case atStart => exact ⟨0, rfl, Nat.zero_le _, Below.refl _ _⟩
  case round =>
    obtain ⟨j, rfl, hj, hbr⟩ := hrel
    by_cases hjl : j < v.list.length
    · obtain ⟨bk, ofs, rfl, hbk, hcs⟩ := hl.out (by omega)
      obtain ⟨x, hxj⟩ : ∃ x, v.list[j]? = some x := ⟨_, List.getElem?_eq_getElem hjl⟩
      obtain ⟨c0, c1, c2, c3, c4, c5, e0, e1, e2, e3, e4, e5, hxx⟩ := hcs j x hxj
      have sr := hbr.size
      have hfr : ∀ p : Addr, p.block < B → wr.cell? p = w.cell? p := fun p hp => (hbr.cell (by omega)).trans (bW.out.cell (by omega))
      have hsx := sl.out x (List.mem_of_getElem? hxj)
      obtain ⟨m, rfl⟩ : ∃ m, n = m + 1 := by
        cases n with
        | zero => exact absurd hsx (fun h => h)
        | succ m => exact ⟨m, rfl⟩
      replace hxx := JAt.keep hfr (Nat.le_refl _) (m + 1) _ _ hxx
      replace e0 := (hfr ⟨bk, ofs + j * 6, none⟩ hbk).trans e0
      replace e1 := (hfr ⟨bk, ofs + j * 6 + 1, none⟩ hbk).trans e1
      replace e2 := (hfr ⟨bk, ofs + j * 6 + 2, none⟩ hbk).trans e2
      replace e3 := (hfr ⟨bk, ofs + j * 6 + 3, none⟩ hbk).trans e3
      replace e4 := (hfr ⟨bk, ofs + j * 6 + 4, none⟩ hbk).trans e4
      replace e5 := (hfr ⟨bk, ofs + j * 6 + 5, none⟩ hbk).trans e5
      have hxx' := hide hxx
      obtain ⟨ula, ulc, uka, ukc, uva, uvc, hagg, -⟩ := hxx
      simp at hagg
      obtain ⟨rfl, rfl, rfl, rfl, rfl, rfl⟩ := hagg
      have lbk : bk < wr.heap.size := by omega
      obtain ⟨W1, hW1⟩ : ∃ W1, W1 = wr.alloc (.cells #[.int .i64 0, .int .i64 0, .string ⟨#[]⟩, .slice none 0 0, .slice none 0 0, .slice none 0 0] 26) := ⟨_, rfl⟩
      have b1 : Below wr.heap.size wr W1 := by rw [hW1]; exact Below.alloc (Below.refl _ _) (Nat.le_refl _) _
      have kN := hide (show Blk W1 wr.heap.size 26 #[.int .i64 0, .int .i64 0, .string ⟨#[]⟩, .slice none 0 0, .slice none 0 0, .slice none 0 0] by rw [hW1]; exact Blk.new wr _ _)
      have hcall := hide fun (X : World) (h : Below wr.heap.size wr X) => ih X B _ x (JAt.keep (fun p hp => h.cell (by omega)) (Nat.le_refl _) (m + 1) _ _ hxx'.out) hsx (by have := h.size; omega)
      replace b1 := hide b1
      replace hbr := hide hbr
      clear hfr hcs hsx
      go_wp2_with (first
        | (rw [← hW1]; refine wpList_store_blk rfl 26 (.tmp 4) (.tmp 13) rfl wr.heap.size _ rfl rfl 26 _ kN.out val_size rfl (val_one _ _ _ _ _ _ _ _ _ _ _ _) ?_; intro W2 k2 o2 s2; have b2 := hide (b1.out.trans (o2.below (B := wr.heap.size) (by intro k hk; omega) b1.out.size)); obtain ⟨p0, p1, p2, p3, p4, p5⟩ := blk_six k2; have l2 := k2.lt; clear k2 o2 s2)
        | (go_at_call 37; refine (hcall.out _ b2.out).mono ?_; rintro e W3 ⟨rfl, b3⟩; have b3' := hide (hbr.out.trans ((b2.out.trans (b3.mono b2.out.size)).mono hbr.out.size)); clear b3))
      go_roundw
      case rel => exact ⟨j + 1, by go_num, by omega, b3'.out⟩
      case measure => simp [intOf]; omega
    · obtain rfl : j = v.list.length := by omega
      have kr := kW.out.below hbr lW
      have q5 := kr.cell 5
      have lr := kr.lt
      simp at q5
      clear kr
      have sr := hbr.size
      replace hbr := hide hbr
      go_wp2_with fail
      go_loopw [20] (fun s20 w2 => ∃ j : Nat, s20 = .int .i64 j ∧ j ≤ v.vals.length ∧ Below W.heap.size W w2) (fun i _ => v.vals.length - (intOf i).toNat)
      case atStart => exact ⟨0, rfl, Nat.zero_le _, hbr.out⟩
      case round =>
        obtain ⟨j, rfl, hj2, hbr2⟩ := hrel
        by_cases hjl2 : j < v.vals.length
        · obtain ⟨bk, ofs, rfl, hbk, hcs⟩ := hv.out (by omega)
          obtain ⟨x, hxj⟩ : ∃ x, v.vals[j]? = some x := ⟨_, List.getElem?_eq_getElem hjl2⟩
          obtain ⟨c0, c1, c2, c3, c4, c5, e0, e1, e2, e3, e4, e5, hxx⟩ := hcs j x hxj
          have sr2 := hbr2.size
          have hfr : ∀ p : Addr, p.block < B → wr.cell? p = w.cell? p := fun p hp => (hbr2.cell (by omega)).trans (bW.out.cell (by omega))
          have hsx := sv.out x (List.mem_of_getElem? hxj)
          obtain ⟨m, rfl⟩ : ∃ m, n = m + 1 := by
            cases n with
            | zero => exact absurd hsx (fun h => h)
            | succ m => exact ⟨m, rfl⟩
          replace hxx := JAt.keep hfr (Nat.le_refl _) (m + 1) _ _ hxx
          replace e0 := (hfr ⟨bk, ofs + j * 6, none⟩ hbk).trans e0
          replace e1 := (hfr ⟨bk, ofs + j * 6 + 1, none⟩ hbk).trans e1
          replace e2 := (hfr ⟨bk, ofs + j * 6 + 2, none⟩ hbk).trans e2
          replace e3 := (hfr ⟨bk, ofs + j * 6 + 3, none⟩ hbk).trans e3
          replace e4 := (hfr ⟨bk, ofs + j * 6 + 4, none⟩ hbk).trans e4
          replace e5 := (hfr ⟨bk, ofs + j * 6 + 5, none⟩ hbk).trans e5
          have hxx' := hide hxx
          obtain ⟨ula, ulc, uka, ukc, uva, uvc, hagg, -⟩ := hxx
          simp at hagg
          obtain ⟨rfl, rfl, rfl, rfl, rfl, rfl⟩ := hagg
          have lbk : bk < wr.heap.size := by omega
          obtain ⟨W1, hW1⟩ : ∃ W1, W1 = wr.alloc (.cells #[.int .i64 0, .int .i64 0, .string ⟨#[]⟩, .slice none 0 0, .slice none 0 0, .slice none 0 0] 26) := ⟨_, rfl⟩
          have b1 : Below wr.heap.size wr W1 := by rw [hW1]; exact Below.alloc (Below.refl _ _) (Nat.le_refl _) _
          have kN := hide (show Blk W1 wr.heap.size 26 #[.int .i64 0, .int .i64 0, .string ⟨#[]⟩, .slice none 0 0, .slice none 0 0, .slice none 0 0] by rw [hW1]; exact Blk.new wr _ _)
          have hcall := hide fun (X : World) (h : Below wr.heap.size wr X) => ih X B _ x (JAt.keep (fun p hp => h.cell (by omega)) (Nat.le_refl _) (m + 1) _ _ hxx'.out) hsx (by have := h.size; omega)
          replace b1 := hide b1
          replace hbr2 := hide hbr2
          clear hfr hcs hsx
          go_wp2_with (first
            | (rw [← hW1]; refine wpList_store_blk rfl 26 (.tmp 6) (.tmp 23) rfl wr.heap.size _ rfl rfl 26 _ kN.out val_size rfl (val_one _ _ _ _ _ _ _ _ _ _ _ _) ?_; intro W2 k2 o2 s2; have b2 := hide (b1.out.trans (o2.below (B := wr.heap.size) (by intro k hk; omega) b1.out.size)); obtain ⟨p0, p1, p2, p3, p4, p5⟩ := blk_six k2; have l2 := k2.lt; clear k2 o2 s2)
            | (go_at_call 37; refine (hcall.out _ b2.out).mono ?_; rintro e W3 ⟨rfl, b3⟩; have b3' := hide (hbr2.out.trans ((b2.out.trans (b3.mono b2.out.size)).mono hbr2.out.size)); clear b3))
          go_roundw
          case rel => exact ⟨j + 1, by go_num, by omega, b3'.out⟩
          case measure => simp [intOf]; omega
        · obtain rfl : j = v.vals.length := by omega
          have kr := kW.out.below hbr2 lW
          have q0 := kr.cell 0
          have lr2 := kr.lt
          simp at q0
          clear kr
          replace hbr2 := hide hbr2
          go_wp2_with fail
          go_ret
          have hk7 : (v.kind == 7) = false := by simpa using k7
          exact ⟨by rw [← hk7]; rfl, bW.out.trans (hbr2.out.mono bW.out.size)⟩

theorem vague_any : ∀ n, VG n
  | 0 => fun _ _ _ _ _ hs _ => absurd hs (fun h => h)
  | n + 1 => vague_step n (vague_any n)

set_option maxHeartbeats 4000000 in
set_option maxRecDepth 100000 in
theorem operate_any (n : Nat) (w : World) (P : Nat → Prop) (a b : Value) (x y : JV) (hx : JP w P (n + 1) a x) (hy : JP w P (n + 1) b y) (fx : Fine (n + 1) x) (fy : Fine (n + 1) y) (kx : x.kind = 6) (ky : y.kind = 6) (hP : ∀ b, P b → b < w.heap.size) :
    Calls Tryd.prog 15 #[.string ⟨#[42]⟩, a, b] w fun e w' => ∃ r, e = .returned (.tuple #[r, .int .i64 0]) ∧ Below w.heap.size w w' ∧ JP w' (fun b => P b ∨ Mid w.heap.size w'.heap.size b) (n + 1) r (mapJ (mrgW (mvs n) (prs x) (prs y))) := by
  have hx' := hide hx
  have hy' := hide hy
  obtain ⟨la, lc, ka, kc, va, vc, rfl, -⟩ := hx
  obtain ⟨la2, lc2, ka2, kc2, va2, vc2, rfl, -⟩ := hy
  obtain ⟨W, hW, sW, bW, kX, kY, kZ⟩ := three_laid w (.int .i64 x.kind) (.int .i64 x.half) (.string x.text) (.slice la x.list.length lc) (.slice ka x.keys.length kc) (.slice va x.vals.length vc) (.int .i64 y.kind) (.int .i64 y.half) (.string y.text) (.slice la2 y.list.length lc2) (.slice ka2 y.keys.length kc2) (.slice va2 y.vals.length vc2) 26
  have hxW := hide fun (X : World) (h : Below W.heap.size W X) => JP.keep (w' := X) (fun p hp => (h.cell (by have := hP _ hp; omega)).trans (bW.cell (hP _ hp))) (fun _ h => h) (n + 1) _ _ hx'.out
  have hyW := hide fun (X : World) (h : Below W.heap.size W X) => JP.keep (w' := X) (fun p hp => (h.cell (by have := hP _ hp; omega)).trans (bW.cell (hP _ hp))) (fun _ h => h) (n + 1) _ _ hy'.out
  have v1 := hide (vague_any (n + 1) W w.heap.size _ x (JP.jat (n + 1) hP (hxW.out W (Below.refl _ _))) fx.2 (by omega))
  have v2 := hide fun (X : World) (h : Below W.heap.size W X) => vague_any (n + 1) X w.heap.size _ y (JP.jat (n + 1) hP (hyW.out X h)) fy.2 (by have := h.size; omega)
  have hti := hide fun (X : World) (h : Below W.heap.size W X) => times_any n X P _ _ x y (hxW.out X h) (hyW.out X h) fx fy kx ky (fun b hb => by have := hP b hb; have := h.size; omega)
  have kk := hide fun (X : World) (h : Below W.heap.size W X) => And.intro (kX.below h kX.lt) (And.intro (kY.below h kY.lt) (kZ.below h kZ.lt))
  obtain ⟨T, hT⟩ : ∃ T, T = mapJ (mrgW (mvs n) (prs x) (prs y)) := ⟨_, rfl⟩
  rw [← hT] at hti ⊢
  obtain ⟨x0, x1, x2, x3, x4, x5⟩ := blk_six kX
  have lx := kX.lt
  replace bW := hide bW
  replace sW := hide sW
  replace hP := hide hP
  replace kx := hide kx
  replace ky := hide ky
  clear fx fy hT kX kY kZ hx' hy'
  go_enter Tryd.func15, Tryd.ntmps15
  go_upto_region 1 with fail
  rw [← hW]
  clear hW
  go_wp2_with fail
  refine v1.out.mono ?_
  rintro e W1 ⟨rfl, b1⟩
  obtain ⟨k1, k2, k3⟩ := kk.out W1 b1
  have hv2 := hide (v2.out W1 b1)
  clear x0 x1 x2 x3 x4 x5 lx
  obtain ⟨x0, x1, x2, x3, x4, x5⟩ := blk_six k1
  obtain ⟨y0, y1, y2, y3, y4, y5⟩ := blk_six k2
  have lx := k1.lt
  have ly := k2.lt
  replace b1 := hide b1
  clear k1 k2 k3
  go_wp2_with fail
  refine hv2.out.mono ?_
  rintro e W2 ⟨rfl, b2⟩
  have b12 := b1.out.trans (b2.mono b1.out.size)
  obtain ⟨k1, k2, k3⟩ := kk.out W2 b12
  have ht := hide (hti.out W2 b12)
  clear x0 x1 x2 x3 x4 x5 lx y0 y1 y2 y3 y4 y5 ly
  obtain ⟨x0, x1, x2, x3, x4, x5⟩ := blk_six k1
  obtain ⟨y0, y1, y2, y3, y4, y5⟩ := blk_six k2
  have lx := k1.lt
  have ly := k2.lt
  replace k3 := hide k3
  replace b12 := hide b12
  clear k1 k2 b2
  go_wp2_with (first
    | (go_at_call 40; refine ht.out.mono ?_; rintro e W3 ⟨r, rfl, b3, hj⟩; obtain ⟨c0, c1, c2, c3, c4, c5, rfl, h1⟩ := hj.six; have kZ3 := hide (k3.out.below b3 k3.out.lt); have b3' := hide b3; have hj' := hide hj; clear b3 hj)
    | (refine wpList_store_blk rfl 26 (.tmp 6) (.tmp 37) rfl (w.heap.size + 1 + 1) _ rfl rfl 26 _ kZ3.out val_size rfl h1 ?_; intro W4 k4 o4 s4; have k4' := hide k4; have o4' := hide o4; have s4' := hide s4; clear k4 o4 s4))
  obtain ⟨q0, q1, q2, q3, q4, q5⟩ := blk_six k4'.out
  have b3w := bW.out.trans ((b12.out.trans (b3'.out.mono b12.out.size)).mono bW.out.size)
  refine bodyPost_ret (v := .tuple #[.agg #[c0, c1, c2, c3, c4, c5], .int .i64 0]) (by simp [results, Tryd.results15, go_sem, q0, q1, q2, q3, q4, q5]) rfl ⟨_, rfl, b3w.trans (o4'.out.below (by intro k hk; omega) b3w.size), ?_⟩
  have hs12 := b12.out.size
  have hs3 := b3'.out.size
  have hsw := sW.out
  refine JP.keep (fun p hp => World.cell?_of_block (o4'.out.block _ ?_ ?_)) (fun b hb => ?_) (n + 1) _ _ hj'.out
  · rcases hp with hp | hp
    · have := hP.out _ hp; omega
    · exact hp.2
  · rcases hp with hp | hp
    · have := hP.out _ hp; omega
    · have := hp.1; omega
  · rcases hb with hb | hb
    · exact Or.inl hb
    · exact Or.inr ⟨by have := hb.1; omega, by have := hb.2; have := s4'.out; omega⟩

set_option maxHeartbeats 1000000 in
set_option maxRecDepth 100000 in
theorem fit2_any (w : World) (B : Nat) (a b : Value) (x y : JV) (hT : Tabs w B) (hB : B ≤ w.heap.size) (hx : JAt w B 62 a x) (hy : JAt w B 62 b y) :
    Calls Tryd.prog 14 #[a, b] w fun e w' => ∃ r, e = .returned (.bool r) ∧ Below w.heap.size w w' ∧ (r = true → Good 62 x ∧ Good 62 y) := by
  have hx' := hide hx
  have hy' := hide hy
  obtain ⟨la, lc, ka, kc, va, vc, rfl, -⟩ := hx
  obtain ⟨la2, lc2, ka2, kc2, va2, vc2, rfl, -⟩ := hy
  obtain ⟨Wa, hWa⟩ : ∃ Wa, Wa = w.alloc (.cells #[.int .i64 x.kind, .int .i64 x.half, .string x.text, .slice la x.list.length lc, .slice ka x.keys.length kc, .slice va x.vals.length vc] 26) := ⟨_, rfl⟩
  obtain ⟨W, hW⟩ : ∃ W, W = Wa.alloc (.cells #[.int .i64 y.kind, .int .i64 y.half, .string y.text, .slice la2 y.list.length lc2, .slice ka2 y.keys.length kc2, .slice va2 y.vals.length vc2] 26) := ⟨_, rfl⟩
  have sa : Wa.heap.size = w.heap.size + 1 := by rw [hWa]; simp
  have bW : Below w.heap.size w W := by rw [hW, hWa]; exact Below.alloc (Below.alloc (Below.refl _ _) (Nat.le_refl _) _) (by simp) _
  have kY : Blk W (w.heap.size + 1) 26 #[.int .i64 y.kind, .int .i64 y.half, .string y.text, .slice la2 y.list.length lc2, .slice ka2 y.keys.length kc2, .slice va2 y.vals.length vc2] := by
    have h := Blk.new Wa 26 #[.int .i64 y.kind, .int .i64 y.half, .string y.text, .slice la2 y.list.length lc2, .slice ka2 y.keys.length kc2, .slice va2 y.vals.length vc2]
    rw [← hW, sa] at h
    exact h
  have sW := bW.size
  have f1 := hide (fit_any W B _ x (hT.keep (fun p hp => bW.cell (by omega))) (by omega) (JAt.keep (fun p hp => bW.cell (by omega)) (Nat.le_refl _) 62 _ _ hx'.out))
  have f2 := hide fun (X : World) (h : Below W.heap.size W X) => fit_any X B _ y (hT.keep (fun p hp => (h.cell (by omega)).trans (bW.cell (by omega)))) (by have := h.size; omega) (JAt.keep (fun p hp => (h.cell (by omega)).trans (bW.cell (by omega))) (Nat.le_refl _) 62 _ _ hy'.out)
  rw [hWa] at hW
  clear hWa hx' hy' hT
  replace bW := hide bW
  replace kY := hide kY
  go_enter Tryd.func14, Tryd.ntmps14
  go_wp2_with fail
  rw [← hW]
  clear hW
  refine f1.out.mono ?_
  rintro e W1 ⟨r1, rfl, b1, h1⟩
  have k1 := kY.out.below b1 kY.out.lt
  obtain ⟨y0, y1, y2, y3, y4, y5⟩ := blk_six k1
  have ly := k1.lt
  have hf2 := hide (f2.out W1 b1)
  replace h1 := hide h1
  replace b1 := hide b1
  clear k1
  cases r1
  · go_wp2_with fail
    go_ret
    exact ⟨false, rfl, bW.out.trans (b1.out.mono bW.out.size), by simp⟩
  · go_wp2_with fail
    refine hf2.out.mono ?_
    rintro e W2 ⟨r2, rfl, b2, h2⟩
    have b12 := hide (bW.out.trans ((b1.out.trans (b2.mono b1.out.size)).mono bW.out.size))
    replace h2 := hide h2
    clear b2
    go_wp2_with fail
    go_ret
    exact ⟨r2, rfl, b12.out, fun h => ⟨h1.out trivial, h2.out h⟩⟩
end Go.Proofs.YtmkdkcbkgngfdaaDoor
