/- The reference's With, walked (printed by mkmrgx.py). -/
import Derived.Test.YtmkdkcbkgngfdaaDoorMrgV
import Derived.Test.YtmkdkcbkgngfdaaDoorMapX
namespace Go.Proofs.YtmkdkcbkgngfdaaDoor
open Go.RowKit Go.Maps Go.Sort
set_option linter.unusedVariables false

set_option maxHeartbeats 4000000 in
set_option maxRecDepth 100000 in
theorem with_any (n : Nat) (w : World) (P : Nat → Prop) (x : Value) (v u : JV) (k : ByteArray) (la2 : Option Addr) (lc2 : Nat) (ka2 : Option Addr) (kc2 : Nat) (va2 : Option Addr) (vc2 : Nat) (hx : JP w P (n + 2) x v)
    (hy : JP w P (n + 1) (.agg #[.int .i64 u.kind, .int .i64 u.half, .string u.text, .slice la2 u.list.length lc2, .slice ka2 u.keys.length kc2, .slice va2 u.vals.length vc2]) u) (hl : v.keys.length = v.vals.length) (hl2 : v.vals.length ≤ 100000) (hk : k.size ≤ 9223372036854775807) (hP : ∀ b, P b → b < w.heap.size) :
    Calls Tryd.prog 59 #[x, .string k, .agg #[.int .i64 u.kind, .int .i64 u.half, .string u.text, .slice la2 u.list.length lc2, .slice ka2 u.keys.length kc2, .slice va2 u.vals.length vc2]] w fun e w' => ∃ c0 c1 c2 c3 c4 c5, e = .returned (.agg #[c0, c1, c2, c3, c4, c5]) ∧ Below w.heap.size w w' ∧ JP w' (fun b => P b ∨ Mid w.heap.size w'.heap.size b) (n + 2) (.agg #[c0, c1, c2, c3, c4, c5]) (mapJ (put (prs v) k u)) := by
  have hx' := hide (JP.jat (n + 2) hP hx)
  obtain ⟨B, hBe⟩ : ∃ B, B = w.heap.size := ⟨_, rfl⟩
  have hB : B ≤ w.heap.size := by omega
  rw [← hBe] at hx'
  have hPB : ∀ b, P b → b < B := fun b h => by have := hP b h; omega
  replace hPB := hide hPB
  replace hBe := hide hBe
  obtain ⟨la, lc, ka, kc, va, vc, rfl, -, g2, g3, -, g5, g6, -, -, -, -, hsP, hvP⟩ := hx
  have hs : StrsAt w B ka v.keys := ⟨hsP.1, fun h => by
    obtain ⟨b, o, e, hb, hc⟩ := hsP.2 h
    exact ⟨b, o, e, hPB.out b hb, hc⟩⟩
  have hv : VecAt (JP w P (n + 1)) w B va v.vals := fun h => by
    obtain ⟨b, o, e, hb, hc⟩ := hvP h
    exact ⟨b, o, e, hPB.out b hb, hc⟩
  clear hsP hvP hP
  obtain ⟨Wa, hWa⟩ : ∃ Wa, Wa = w.alloc (.cells #[.int .i64 v.kind, .int .i64 v.half, .string v.text, .slice la v.list.length lc, .slice ka v.keys.length kc, .slice va v.vals.length vc] 26) := ⟨_, rfl⟩
  obtain ⟨Wb, hWb⟩ : ∃ Wb, Wb = Wa.alloc (.cells #[.int .i64 u.kind, .int .i64 u.half, .string u.text, .slice la2 u.list.length lc2, .slice ka2 u.keys.length kc2, .slice va2 u.vals.length vc2] 26) := ⟨_, rfl⟩
  obtain ⟨W, hW⟩ : ∃ W, W = Wb.alloc (.cells #[.int .i64 0, .int .i64 0, .string ⟨#[]⟩, .slice none 0 0, .slice none 0 0, .slice none 0 0] 26) := ⟨_, rfl⟩
  have sa : Wa.heap.size = w.heap.size + 1 := by rw [hWa]; simp
  have sb : Wb.heap.size = w.heap.size + 2 := by rw [hWb]; simp [sa]
  have sW : W.heap.size = w.heap.size + 3 := by rw [hW]; simp [sb]
  have bW : Below w.heap.size w W := by rw [hW, hWb, hWa]; exact Below.alloc (Below.alloc (Below.alloc (Below.refl _ _) (Nat.le_refl _) _) (by simp) _) (by simp; omega) _
  have kX : Blk W w.heap.size 26 #[.int .i64 v.kind, .int .i64 v.half, .string v.text, .slice la v.list.length lc, .slice ka v.keys.length kc, .slice va v.vals.length vc] := by
    rw [hW, hWb, hWa]
    exact ((Blk.new w _ _).alloc _).alloc _
  have kY : Blk W (w.heap.size + 1) 26 #[.int .i64 u.kind, .int .i64 u.half, .string u.text, .slice la2 u.list.length lc2, .slice ka2 u.keys.length kc2, .slice va2 u.vals.length vc2] := by
    have h := Blk.new Wa 26 #[.int .i64 u.kind, .int .i64 u.half, .string u.text, .slice la2 u.list.length lc2, .slice ka2 u.keys.length kc2, .slice va2 u.vals.length vc2]
    rw [← hWb, sa] at h
    rw [hW]
    exact h.alloc _
  have kZ : Blk W (w.heap.size + 2) 26 #[.int .i64 0, .int .i64 0, .string ⟨#[]⟩, .slice none 0 0, .slice none 0 0, .slice none 0 0] := by
    have h := Blk.new Wb 26 #[.int .i64 0, .int .i64 0, .string ⟨#[]⟩, .slice none 0 0, .slice none 0 0, .slice none 0 0]
    rw [← hW, sb] at h
    exact h
  rw [hWb, hWa] at hW
  have hxW : JAt W B (n + 2) _ v := JAt.keep (fun p hp => bW.cell (by omega)) (Nat.le_refl _) (n + 2) _ _ hx'.out
  have hpl := hide (place_any (n + 1) W B _ v k hxW (by omega))
  clear hWa hWb hx' hxW sa sb
  replace bW := hide bW
  replace kX := hide kX
  replace kY := hide kY
  replace kZ := hide kZ
  replace hs := hide hs
  replace hv := hide hv
  replace hy := hide hy
  have hlen5 : v.keys.length ≤ 100000 := by omega
  replace hl := hide hl
  replace hl2 := hide hl2
  obtain ⟨pp, hpp⟩ : ∃ pp, pp = plc v.keys k := ⟨_, rfl⟩
  obtain ⟨hh, hhh⟩ : ∃ hh, hh = hit v.keys k := ⟨_, rfl⟩
  rw [← hpp, ← hhh] at hpl
  have hple : pp ≤ v.keys.length := by rw [hpp]; exact plc_le _ _
  replace hpp := hide hpp
  replace hhh := hide hhh
  obtain ⟨T, hT⟩ : ∃ T, T = mapJ (put (prs v) k u) := ⟨_, rfl⟩
  rw [← hT]
  replace hT := hide hT
  go_enter Tryd.func59, Tryd.ntmps59
  go_wp2_with fail
  rw [← hW]
  clear hW
  refine hpl.out.mono ?_
  rintro e W1 ⟨rfl, c1⟩
  obtain ⟨W2, hW2⟩ : ∃ W2, W2 = W1.alloc (.cells #[.int .i64 0, .int .i64 0, .string ⟨#[]⟩, .slice none 0 0, .slice none 0 0, .slice none 0 0] 26) := ⟨_, rfl⟩
  have kN : Blk W2 W1.heap.size 26 #[.int .i64 0, .int .i64 0, .string ⟨#[]⟩, .slice none 0 0, .slice none 0 0, .slice none 0 0] := by rw [hW2]; exact Blk.new W1 _ _
  have c2 : Below W.heap.size W W2 := by rw [hW2]; exact Below.alloc c1 c1.size _
  replace c1 := hide c1
  replace c2 := hide c2
  replace kN := hide kN
  go_wp2_with (rw [← hW2]; refine wpList_store_blk rfl 26 (.tmp 9) (.tmp 16) rfl W1.heap.size _ rfl rfl 26 _ kN.out val_size rfl (val_one _ _ _ _ _ _ _ _ _ _ _ _) ?_; intro W3 k3 o3 s3; have k3' := hide k3; have o3' := hide o3; have s3' := hide s3; clear k3 o3 s3)
  go_frame
  have kg := hide k3'.out
  have c3 := hide (c2.out.trans (o3'.out.below (B := W.heap.size) (by intro k hk; have := c1.out.size; omega) c2.out.size))
  have hgl : W1.heap.size < W3.heap.size := kg.out.lt
  have hXl : w.heap.size < W3.heap.size := by have := c2.out.size; have := o3'.out.size; omega
  have hZ3 : w.heap.size + 2 < W3.heap.size := by have := c2.out.size; have := o3'.out.size; omega
  have kX3 := hide (kX.out.below c3.out (by omega))
  have kY3 := hide (kY.out.below c3.out (by omega))
  have kZ3 := hide (kZ.out.below c3.out (by omega))
  have bw3 := hide (bW.out.trans (c3.out.mono bW.out.size))
  obtain ⟨rs, hrs, hrd0⟩ := VecAt.list (hv.out.keep (w' := W3) (fun p hp => bw3.out.cell (by omega)) (Nat.le_refl _) (fun x y h => h))
  have hrs1 : ∀ z ∈ fl rs, z.oneCell' = true := fl_one (n := n) (fun i y hy => by
    obtain ⟨r, h1, h2⟩ := hrs.2 i y hy
    exact ⟨r, h1, _, _, JP.jat (n + 1) hPB.out h2⟩) hrs.1
  obtain ⟨vx, hvx⟩ : ∃ vx, vx = (fl rs).take (pp * 6) := ⟨_, rfl⟩
  have hvx1 : ∀ z ∈ vx, z.oneCell' = true := fun z hz => hrs1 z (List.mem_of_mem_take (by rw [hvx] at hz; exact hz))
  replace hrs := hide hrs
  replace hrd0 := hide hrd0
  replace hrs1 := hide hrs1
  replace hvx1 := hide hvx1
  have hrd1 := hide fun (X : World) (h : Below W3.heap.size W3 X) => Reads.take (StrsAt.reads (hs.out.keep (fun p hp => (h.cell (by have := c1.out.size; omega)).trans (bw3.out.cell (by omega))) (Nat.le_refl _))) hple
  obtain ⟨kx, hkx⟩ : ∃ kx, kx = (v.keys.map Value.string).take (pp * 1) := ⟨_, rfl⟩
  rw [← hkx] at hrd1
  have hkx1 : ∀ z ∈ kx, z.oneCell' = true := fun z hz => by
    rw [hkx] at hz
    obtain ⟨s, _, rfl⟩ := List.mem_map.1 (List.mem_of_mem_take hz)
    rfl
  have hp5 : pp ≤ 100000 := by omega
  have hpv : pp ≤ vc := by have := hl.out; omega
  replace hkx := hide hkx
  replace hkx1 := hide hkx1
  obtain ⟨i0, hi0, hz0, hz1, hz2⟩ := info_parts Tryd.infoVal
  obtain ⟨i9, hi9, hy0, hy1, hy2⟩ := info_parts Tryd.infoStr
  replace hi0 := hide hi0
  replace hz0 := hide hz0
  replace hz1 := hide hz1
  replace hz2 := hide hz2
  replace hi9 := hide hi9
  replace hy0 := hide hy0
  replace hy1 := hide hy1
  replace hy2 := hide hy2
  clear k3' o3'
  refine wp_region_inv (by kernel_rfl) (fun listed a w' => ∃ s0 s1 s2 s3 s4 s5 s6 s7 s8 s9 s10, a = (⟨#[.agg #[.int .i64 v.kind, .int .i64 v.half, .string v.text, .slice la v.list.length lc, .slice ka v.keys.length kc, .slice va v.vals.length vc], .string k, .agg #[.int .i64 u.kind, .int .i64 u.half, .string u.text, .slice la2 u.list.length lc2, .slice ka2 u.keys.length kc2, .slice va2 u.vals.length vc2], .pointer (some ⟨w.heap.size, 0, none⟩), undef, .pointer (some ⟨w.heap.size + 1, 0, none⟩), .pointer (some ⟨w.heap.size + 1 + 1, 0, none⟩), .int .i64 pp, .bool hh, .pointer (some ⟨W1.heap.size, 0, none⟩), .tuple #[.int .i64 pp, .bool hh], .agg #[.int .i64 v.kind, .int .i64 v.half, .string v.text, .slice la v.list.length lc, .slice ka v.keys.length kc, .slice va v.vals.length vc], .string k, .tuple #[.int .i64 pp, .bool hh], .int .i64 pp, .bool hh, .agg #[.int .i64 6, .int .i64 0, .string ⟨#[]⟩, .slice none 0 0, .slice none 0 0, .slice none 0 0], s0, s1, s2, s3, s4, s5, s6, s7, s8, s9, s10, undef, undef, undef, undef, undef, undef, undef, undef, undef, undef, undef, undef, undef, undef, undef, undef, undef, undef, undef, undef, undef, undef, undef, undef, undef, undef, undef, undef, undef, undef, undef], []⟩ : Act) ∧ RegK W3 W1.heap.size 4 9 1 pp kx [.string k] (.pointer (some ⟨w.heap.size, 4, none⟩)) (.slice ka v.keys.length kc) (.slice ka pp kc) (.string k) listed w' s0 s1 s2 s3 s4 s5 s6 s7 s8 s9 s10) ?_ ?_ ?_
  · exact ⟨_, _, _, _, _, _, _, _, _, _, _, rfl, RegK.start _ _ _ _ _ _ _ _ _ _ _ _ _ _ _ _ _ _ _ _ _ _ _⟩
  · rintro listed a w' i ⟨s0, s1, s2, s3, s4, s5, s6, s7, s8, s9, s10, rfl, H⟩ hi
    have hun := Up.no (Up.un hi)
    have hlt12 : i < 12 := by
      obtain ⟨-, o, ho, -⟩ := mem_ready.1 hi
      rcases Nat.lt_or_ge i 12 with h | h
      · exact h
      · rw [Array.getElem?_eq_none (by exact h)] at ho
        cases ho
    have hi12 : i = 0 ∨ i = 1 ∨ i = 2 ∨ i = 3 ∨ i = 4 ∨ i = 5 ∨ i = 6 ∨ i = 7 ∨ i = 8 ∨ i = 9 ∨ i = 10 ∨ i = 11 := by omega
    rcases hi12 with rfl | rfl | rfl | rfl | rfl | rfl | rfl | rfl | rfl | rfl | rfl | rfl
    · replace H := hide H
      replace hi := hide hi
      replace hun := hide hun
      refine wpOp_of_list rfl ?_
      go_wp2_with fail
      refine Then.normal ⟨_, _, _, _, _, _, _, _, _, _, _, rfl, H.out.s0⟩
    · have hno11 : ¬ Up listed 11 := fun h => hun (H.o11 h).2.1
      obtain rfl := H.f0 (Up.waits hi 0 (by kernel_rfl))
      have hlow := H.low hno11
      have kd := kg.out.below hlow hgl
      have lg := kd.lt
      obtain ⟨y0, y1, y2, y3, y4, y5⟩ := blk_six kd
      clear kd
      clear hlow
      replace H := hide H
      replace hi := hide hi
      replace hun := hide hun
      refine wpOp_of_list rfl ?_
      go_wp2_with fail
      refine Then.normal ⟨_, _, _, _, _, _, _, _, _, _, _, rfl, H.out.s1⟩
    · replace H := hide H
      replace hi := hide hi
      replace hun := hide hun
      refine wpOp_of_list rfl ?_
      go_wp2_with fail
      refine Then.normal ⟨_, _, _, _, _, _, _, _, _, _, _, rfl, H.out.s2⟩
    · have hno11 : ¬ Up listed 11 := fun h => hun (H.o11 h).2.2.1
      obtain rfl := H.f2 (Up.waits hi 2 (by kernel_rfl))
      have hlow := H.low hno11
      have kd := kX3.out.below hlow hXl
      have lg := kd.lt
      obtain ⟨y0, y1, y2, y3, y4, y5⟩ := blk_six kd
      clear kd
      clear hlow
      replace H := hide H
      replace hi := hide hi
      replace hun := hide hun
      refine wpOp_of_list rfl ?_
      go_wp2_with fail
      refine Then.normal ⟨_, _, _, _, _, _, _, _, _, _, _, rfl, H.out.s3⟩
    · replace H := hide H
      replace hi := hide hi
      replace hun := hide hun
      refine wpOp_of_list rfl ?_
      go_wp2_with fail
      refine Then.normal ⟨_, _, _, _, _, _, _, _, _, _, _, rfl, H.out.s4⟩
    · obtain rfl := H.f3 (Up.waits hi 3 (by kernel_rfl))
      obtain rfl := H.f4 (Up.waits hi 4 (by kernel_rfl))
      replace H := hide H
      replace hi := hide hi
      replace hun := hide hun
      refine wpOp_of_list rfl ?_
      go_wp2_with fail
      refine Then.normal ⟨_, _, _, _, _, _, _, _, _, _, _, rfl, H.out.s5⟩
    · have hw1 := Up.waits hi 1 (by kernel_rfl)
      have hw5 := Up.waits hi 5 (by kernel_rfl)
      obtain rfl := H.f1 hw1
      obtain rfl := H.f5 hw5
      have hno11 : ¬ Up listed 11 := fun h => hun (H.o9 (H.o11 h).1).1
      have hlow := H.low hno11
      have hbs := hlow.size
      have hrd := hrd1.out w' hlow
      refine wpOp_of_list rfl ?_
      refine wpList_append_any _ rfl (.tmp 18) (.tmp 22) 24 rfl W3.heap.size 9 i9 _ 1 16 Tryd.underlying24 hi9.out hy0.out hy1.out hy2.out rfl (Nat.zero_lt_succ _) (.slice none 0 0) 0 [] rfl ⟨rfl, Or.inl ⟨rfl, rfl⟩⟩ B _ _ _ _ rfl hrd hkx1.out (by unfold maxLen; omega) (by omega) hbs ?_
      intro v2 w2 own2 g2 l2
      rw [Nat.zero_add, List.nil_append] at own2
      refine Then.normal ⟨_, _, _, _, _, _, _, _, _, _, _, rfl, H.s6 hun g2 l2 own2⟩
    · replace H := hide H
      replace hi := hide hi
      replace hun := hide hun
      refine wpOp_of_list rfl ?_
      go_wp2_with fail
      refine Then.normal ⟨_, _, _, _, _, _, _, _, _, _, _, rfl, H.out.s7⟩
    · obtain rfl := H.f7 (Up.waits hi 7 (by kernel_rfl))
      have hno11 : ¬ Up listed 11 := fun h => hun (H.o9 (H.o11 h).1).2
      replace H := hide H
      replace hi := hide hi
      replace hun := hide hun
      refine wpOp_of_list rfl ?_
      go_wp2_with fail
      refine Then.normal ⟨_, _, _, _, _, _, _, _, _, _, _, rfl, H.out.s8 hun.out⟩
    · have hw6 := Up.waits hi 6 (by kernel_rfl)
      have hw8 := Up.waits hi 8 (by kernel_rfl)
      obtain ⟨b8, rfl, hb8, kb8, -⟩ := H.b hw8 hun
      have hbs := (H.low (fun h => hun (H.o11 h).1)).size
      have hoa := H.a hw6 hun
      refine wpOp_of_list rfl ?_
      refine wpList_append_any _ rfl (.tmp 23) (.tmp 25) 24 rfl W3.heap.size 9 i9 _ 1 16 Tryd.underlying24 hi9.out hy0.out hy1.out hy2.out rfl (Nat.zero_lt_succ _) _ pp kx rfl hoa (b8 + 1) (some ⟨b8, 0, none⟩) 1 1 [.string k] rfl (reads_blk1 kb8) (str_one k) (by unfold maxLen; omega) (by omega) hbs ?_
      intro v2 w2 own2 g2 l2
      refine Then.normal ⟨_, _, _, _, _, _, _, _, _, _, _, rfl, H.s9 hun hw6 hw8 g2 own2⟩
    · replace H := hide H
      replace hi := hide hi
      replace hun := hide hun
      refine wpOp_of_list rfl ?_
      go_wp2_with fail
      refine Then.normal ⟨_, _, _, _, _, _, _, _, _, _, _, rfl, H.out.s10⟩
    · have hw9 := Up.waits hi 9 (by kernel_rfl)
      obtain rfl := H.f10 (Up.waits hi 10 (by kernel_rfl))
      have hlow := H.low hun
      have kd := kg.out.below hlow hgl
      obtain ⟨A9, c9, rfl, -, -⟩ := own_slice (H.c hw9 hun)
      have lg := kd.lt
      obtain ⟨y0, y1, y2, y3, y4, y5⟩ := blk_six kd
      have fz := kd.frozen 4
      clear kd hlow
      have hw1 := Up.waits hi 1 (by kernel_rfl)
      have hw3 := Up.waits hi 3 (by kernel_rfl)
      have hw7 := Up.waits hi 7 (by kernel_rfl)
      replace hw1 := hide hw1
      replace hw3 := hide hw3
      replace hw7 := hide hw7
      replace hw9 := hide hw9
      replace H := hide H
      replace hi := hide hi
      replace hun := hide hun
      refine wpOp_of_list rfl ?_
      go_wp2_with fail
      refine Then.normal ⟨_, _, _, _, _, _, _, _, _, _, _, rfl, H.out.s11 hun.out hw9.out hw1.out hw3.out hw7.out⟩
  · rintro listed a W4' ⟨r0, r1, r2, r3, r4, r5, r6, r7, r8, r9, r10, rfl, H⟩ hi
    have hall := Up.all H.size (by kernel_rfl) hi
    obtain ⟨Y, hY, oY, hYe⟩ := H.d (hall 11 (by decide))
    obtain rfl := H.f0 (hall 0 (by decide))
    obtain rfl := H.f1 (hall 1 (by decide))
    obtain rfl := H.f2 (hall 2 (by decide))
    obtain rfl := H.f3 (hall 3 (by decide))
    obtain rfl := H.f4 (hall 4 (by decide))
    obtain rfl := H.f5 (hall 5 (by decide))
    obtain rfl := H.f7 (hall 7 (by decide))
    obtain rfl := H.f10 (hall 10 (by decide))
    clear H hall hi
    obtain ⟨kA, kcp, rfl, hkc1, hkc2⟩ := own_slice oY
    have o4 : Only (· = W1.heap.size) W3 W4' := by
      rw [hYe]
      exact (Only.of_below (P := (· = W1.heap.size)) hY (fun k hk _ => hk)).setCell (p := ⟨W1.heap.size, 4, none⟩) (Or.inl rfl) _
    have kg4 : Blk W4' W1.heap.size 26 #[.int .i64 6, .int .i64 0, .string ⟨#[]⟩, .slice none 0 0, .slice kA (pp + 1) kcp, .slice none 0 0] := by
      rw [hYe]
      simpa using (kg.out.below hY hgl).set_ 4 (.slice kA (pp + 1) kcp)
    have own4 : W4'.ownsRow W3.heap.size 9 1 (.slice kA (pp + 1) kcp) (pp + 1) (kx ++ [.string k]) := by
      rw [hYe]
      exact (((Only.refl (· = W1.heap.size) Y).setCell (p := ⟨W1.heap.size, 4, none⟩) (Or.inl rfl) _)).own oY (fun b hb e => by have := oY.lt b hb; omega)
    clear hY oY hYe
    have s4 := o4.size
    have kX4 := hide (o4.blk kX3.out (by have := c1.out.size; omega))
    have kY4 := hide (o4.blk kY3.out (by have := c1.out.size; omega))
    have kZ4 := hide (o4.blk kZ3.out (by have := c1.out.size; omega))
    have bw4 := hide (bw3.out.trans (o4.below (B := w.heap.size) (by intro k hk; have := c1.out.size; omega) bw3.out.size))
    have hrd2 := hide fun (X : World) (h : Below W4'.heap.size W4' X) => Reads.take (hrd0.out.keep (fun p hp => (h.cell (by have := c1.out.size; omega)).trans (World.cell?_of_block (o4.block _ (by have := c1.out.size; omega) (by have := c1.out.size; omega))))) (by have := hl.out; omega : pp ≤ v.vals.length)
    rw [← hvx] at hrd2
    replace hvx := hide hvx
    have hg4 : W1.heap.size < W4'.heap.size := kg4.lt
    have hY4 : w.heap.size + 1 < W4'.heap.size := kY4.out.lt
    have hX4 : w.heap.size < W4'.heap.size := kX4.out.lt
    replace kg4 := hide kg4
    replace own4 := hide own4
    replace o4 := hide o4
    go_wp2_with fail
    refine wp_region_inv (by kernel_rfl) (fun listed a w' => ∃ s0 s1 s2 s3 s4 s5 s6 s7 s8 s9 s10, a = (⟨#[.agg #[.int .i64 v.kind, .int .i64 v.half, .string v.text, .slice la v.list.length lc, .slice ka v.keys.length kc, .slice va v.vals.length vc], .string k, .agg #[.int .i64 u.kind, .int .i64 u.half, .string u.text, .slice la2 u.list.length lc2, .slice ka2 u.keys.length kc2, .slice va2 u.vals.length vc2], .pointer (some ⟨w.heap.size, 0, none⟩), undef, .pointer (some ⟨w.heap.size + 1, 0, none⟩), .pointer (some ⟨w.heap.size + 1 + 1, 0, none⟩), .int .i64 pp, .bool hh, .pointer (some ⟨W1.heap.size, 0, none⟩), .tuple #[.int .i64 pp, .bool hh], .agg #[.int .i64 v.kind, .int .i64 v.half, .string v.text, .slice la v.list.length lc, .slice ka v.keys.length kc, .slice va v.vals.length vc], .string k, .tuple #[.int .i64 pp, .bool hh], .int .i64 pp, .bool hh, .agg #[.int .i64 6, .int .i64 0, .string ⟨#[]⟩, .slice none 0 0, .slice none 0 0, .slice none 0 0], .pointer (some ⟨W1.heap.size, 4, none⟩), .slice none 0 0, .pointer (some ⟨w.heap.size, 4, none⟩), .slice ka v.keys.length kc, .int .i64 pp, .slice ka pp kc, r6, .string k, r8, .slice kA (pp + 1) kcp, .pointer (some ⟨W1.heap.size, 4, none⟩), s0, s1, s2, s3, s4, s5, s6, s7, s8, s9, s10, undef, undef, undef, undef, undef, undef, undef, undef, undef, undef, undef, undef, undef, undef, undef, undef, undef, undef, undef, undef], []⟩ : Act) ∧ RegK W4' W1.heap.size 5 26 6 pp vx [.int .i64 u.kind, .int .i64 u.half, .string u.text, .slice la2 u.list.length lc2, .slice ka2 u.keys.length kc2, .slice va2 u.vals.length vc2] (.pointer (some ⟨w.heap.size, 5, none⟩)) (.slice va v.vals.length vc) (.slice va pp vc) (.agg #[.int .i64 u.kind, .int .i64 u.half, .string u.text, .slice la2 u.list.length lc2, .slice ka2 u.keys.length kc2, .slice va2 u.vals.length vc2]) listed w' s0 s1 s2 s3 s4 s5 s6 s7 s8 s9 s10) ?_ ?_ ?_
    · exact ⟨_, _, _, _, _, _, _, _, _, _, _, rfl, RegK.start _ _ _ _ _ _ _ _ _ _ _ _ _ _ _ _ _ _ _ _ _ _ _⟩
    · rintro listed a w' i ⟨s0, s1, s2, s3, s4, s5, s6, s7, s8, s9, s10, rfl, H⟩ hi
      have hun := Up.no (Up.un hi)
      have hlt12 : i < 12 := by
        obtain ⟨-, o, ho, -⟩ := mem_ready.1 hi
        rcases Nat.lt_or_ge i 12 with h | h
        · exact h
        · rw [Array.getElem?_eq_none (by exact h)] at ho
          cases ho
      have hi12 : i = 0 ∨ i = 1 ∨ i = 2 ∨ i = 3 ∨ i = 4 ∨ i = 5 ∨ i = 6 ∨ i = 7 ∨ i = 8 ∨ i = 9 ∨ i = 10 ∨ i = 11 := by omega
      rcases hi12 with rfl | rfl | rfl | rfl | rfl | rfl | rfl | rfl | rfl | rfl | rfl | rfl
      · replace H := hide H
        replace hi := hide hi
        replace hun := hide hun
        refine wpOp_of_list rfl ?_
        go_wp2_with fail
        refine Then.normal ⟨_, _, _, _, _, _, _, _, _, _, _, rfl, H.out.s0⟩
      · have hno11 : ¬ Up listed 11 := fun h => hun (H.o11 h).2.1
        obtain rfl := H.f0 (Up.waits hi 0 (by kernel_rfl))
        have hlow := H.low hno11
        have kd := kg4.out.below hlow hg4
        have lg := kd.lt
        obtain ⟨y0, y1, y2, y3, y4, y5⟩ := blk_six kd
        clear kd
        clear hlow
        replace H := hide H
        replace hi := hide hi
        replace hun := hide hun
        refine wpOp_of_list rfl ?_
        go_wp2_with fail
        refine Then.normal ⟨_, _, _, _, _, _, _, _, _, _, _, rfl, H.out.s1⟩
      · replace H := hide H
        replace hi := hide hi
        replace hun := hide hun
        refine wpOp_of_list rfl ?_
        go_wp2_with fail
        refine Then.normal ⟨_, _, _, _, _, _, _, _, _, _, _, rfl, H.out.s2⟩
      · have hno11 : ¬ Up listed 11 := fun h => hun (H.o11 h).2.2.1
        obtain rfl := H.f2 (Up.waits hi 2 (by kernel_rfl))
        have hlow := H.low hno11
        have kd := kX4.out.below hlow hX4
        have lg := kd.lt
        obtain ⟨y0, y1, y2, y3, y4, y5⟩ := blk_six kd
        clear kd
        clear hlow
        replace H := hide H
        replace hi := hide hi
        replace hun := hide hun
        refine wpOp_of_list rfl ?_
        go_wp2_with fail
        refine Then.normal ⟨_, _, _, _, _, _, _, _, _, _, _, rfl, H.out.s3⟩
      · replace H := hide H
        replace hi := hide hi
        replace hun := hide hun
        refine wpOp_of_list rfl ?_
        go_wp2_with fail
        refine Then.normal ⟨_, _, _, _, _, _, _, _, _, _, _, rfl, H.out.s4⟩
      · obtain rfl := H.f3 (Up.waits hi 3 (by kernel_rfl))
        obtain rfl := H.f4 (Up.waits hi 4 (by kernel_rfl))
        replace H := hide H
        replace hi := hide hi
        replace hun := hide hun
        refine wpOp_of_list rfl ?_
        go_wp2_with fail
        refine Then.normal ⟨_, _, _, _, _, _, _, _, _, _, _, rfl, H.out.s5⟩
      · have hw1 := Up.waits hi 1 (by kernel_rfl)
        have hw5 := Up.waits hi 5 (by kernel_rfl)
        obtain rfl := H.f1 hw1
        obtain rfl := H.f5 hw5
        have hno11 : ¬ Up listed 11 := fun h => hun (H.o9 (H.o11 h).1).1
        have hlow := H.low hno11
        have hbs := hlow.size
        have hrd := hrd2.out w' hlow
        refine wpOp_of_list rfl ?_
        refine wpList_append_any _ rfl (.tmp 29) (.tmp 33) 23 rfl W4'.heap.size 26 i0 _ 6 104 Tryd.underlying23 hi0.out hz0.out hz1.out hz2.out rfl (Nat.zero_lt_succ _) (.slice none 0 0) 0 [] rfl ⟨rfl, Or.inl ⟨rfl, rfl⟩⟩ B _ _ _ _ rfl hrd hvx1.out (by unfold maxLen; omega) (by omega) hbs ?_
        intro v2 w2 own2 g2 l2
        rw [Nat.zero_add, List.nil_append] at own2
        refine Then.normal ⟨_, _, _, _, _, _, _, _, _, _, _, rfl, H.s6 hun g2 l2 own2⟩
      · have hno11 : ¬ Up listed 11 := fun h => hun (H.o11 h).2.2.2
        have hlow := H.low hno11
        have kd := kY4.out.below hlow hY4
        have lg := kd.lt
        obtain ⟨y0, y1, y2, y3, y4, y5⟩ := blk_six kd
        clear kd hlow
        replace H := hide H
        replace hi := hide hi
        replace hun := hide hun
        refine wpOp_of_list rfl ?_
        go_wp2_with fail
        refine Then.normal ⟨_, _, _, _, _, _, _, _, _, _, _, rfl, H.out.s7⟩
      · obtain rfl := H.f7 (Up.waits hi 7 (by kernel_rfl))
        have hno11 : ¬ Up listed 11 := fun h => hun (H.o9 (H.o11 h).1).2
        replace H := hide H
        replace hi := hide hi
        replace hun := hide hun
        refine wpOp_of_list rfl ?_
        go_wp2_with fail
        refine Then.normal ⟨_, _, _, _, _, _, _, _, _, _, _, rfl, H.out.s8 hun.out⟩
      · have hw6 := Up.waits hi 6 (by kernel_rfl)
        have hw8 := Up.waits hi 8 (by kernel_rfl)
        obtain ⟨b8, rfl, hb8, kb8, -⟩ := H.b hw8 hun
        have hbs := (H.low (fun h => hun (H.o11 h).1)).size
        have hoa := H.a hw6 hun
        refine wpOp_of_list rfl ?_
        refine wpList_append_any _ rfl (.tmp 34) (.tmp 36) 23 rfl W4'.heap.size 26 i0 _ 6 104 Tryd.underlying23 hi0.out hz0.out hz1.out hz2.out rfl (Nat.zero_lt_succ _) _ pp vx rfl hoa (b8 + 1) (some ⟨b8, 0, none⟩) 1 1 [.int .i64 u.kind, .int .i64 u.half, .string u.text, .slice la2 u.list.length lc2, .slice ka2 u.keys.length kc2, .slice va2 u.vals.length vc2] rfl (reads_blk6 kb8) (six_one _ _ _ _ _ _ _ _ _ _ _ _) (by unfold maxLen; omega) (by omega) hbs ?_
        intro v2 w2 own2 g2 l2
        refine Then.normal ⟨_, _, _, _, _, _, _, _, _, _, _, rfl, H.s9 hun hw6 hw8 g2 own2⟩
      · replace H := hide H
        replace hi := hide hi
        replace hun := hide hun
        refine wpOp_of_list rfl ?_
        go_wp2_with fail
        refine Then.normal ⟨_, _, _, _, _, _, _, _, _, _, _, rfl, H.out.s10⟩
      · have hw9 := Up.waits hi 9 (by kernel_rfl)
        obtain rfl := H.f10 (Up.waits hi 10 (by kernel_rfl))
        have hlow := H.low hun
        have kd := kg4.out.below hlow hg4
        obtain ⟨A9, c9, rfl, -, -⟩ := own_slice (H.c hw9 hun)
        have lg := kd.lt
        obtain ⟨y0, y1, y2, y3, y4, y5⟩ := blk_six kd
        have fz := kd.frozen 5
        clear kd hlow
        have hw1 := Up.waits hi 1 (by kernel_rfl)
        have hw3 := Up.waits hi 3 (by kernel_rfl)
        have hw7 := Up.waits hi 7 (by kernel_rfl)
        replace hw1 := hide hw1
        replace hw3 := hide hw3
        replace hw7 := hide hw7
        replace hw9 := hide hw9
        replace H := hide H
        replace hi := hide hi
        replace hun := hide hun
        refine wpOp_of_list rfl ?_
        go_wp2_with fail
        refine Then.normal ⟨_, _, _, _, _, _, _, _, _, _, _, rfl, H.out.s11 hun.out hw9.out hw1.out hw3.out hw7.out⟩
    · rintro listed a W5' ⟨t0, t1, t2, t3, t4, t5, t6, t7, t8, t9, t10, rfl, H⟩ hi
      have hall := Up.all H.size (by kernel_rfl) hi
      obtain ⟨Y, hY, oY, hYe⟩ := H.d (hall 11 (by decide))
      obtain rfl := H.f0 (hall 0 (by decide))
      obtain rfl := H.f1 (hall 1 (by decide))
      obtain rfl := H.f2 (hall 2 (by decide))
      obtain rfl := H.f3 (hall 3 (by decide))
      obtain rfl := H.f4 (hall 4 (by decide))
      obtain rfl := H.f5 (hall 5 (by decide))
      obtain rfl := H.f7 (hall 7 (by decide))
      obtain rfl := H.f10 (hall 10 (by decide))
      clear H hall hi
      obtain ⟨vA, vcp, rfl, hvc1, hvc2⟩ := own_slice oY
      have o5 : Only (· = W1.heap.size) W4' W5' := by
        rw [hYe]
        exact (Only.of_below (P := (· = W1.heap.size)) hY (fun k hk _ => hk)).setCell (p := ⟨W1.heap.size, 5, none⟩) (Or.inl rfl) _
      have kg5 : Blk W5' W1.heap.size 26 #[.int .i64 6, .int .i64 0, .string ⟨#[]⟩, .slice none 0 0, .slice kA (pp + 1) kcp, .slice vA (pp + 1) vcp] := by
        rw [hYe]
        simpa using (kg4.out.below hY hg4).set_ 5 (.slice vA (pp + 1) vcp)
      have ownv5 : W5'.ownsRow W3.heap.size 26 6 (.slice vA (pp + 1) vcp) (pp + 1) (vx ++ [.int .i64 u.kind, .int .i64 u.half, .string u.text, .slice la2 u.list.length lc2, .slice ka2 u.keys.length kc2, .slice va2 u.vals.length vc2]) := by
        rw [hYe]
        exact own_base s4 ((((Only.refl (· = W1.heap.size) Y).setCell (p := ⟨W1.heap.size, 5, none⟩) (Or.inl rfl) _)).own oY (fun b hb e => by have := oY.lt b hb; omega))
      have ownk5 := o5.own own4.out (fun b hb e => by have := own4.out.lt b hb; omega)
      clear hY oY hYe
      have s5 := o5.size
      have kX5 := o5.blk kX4.out (by have := c1.out.size; omega)
      have kZ5 := hide (o5.blk kZ4.out (by have := c1.out.size; omega))
      have bw5 := hide (bw4.out.trans (o5.below (B := w.heap.size) (by intro k hk; have := c1.out.size; omega) bw4.out.size))
      obtain ⟨jj, hjj⟩ : ∃ jj, jj = pp + (if hh = true then 1 else 0) := ⟨_, rfl⟩
      have hjl : jj ≤ v.keys.length := by
        rw [hjj]
        split
        · rename_i e
          rw [hhh.out] at e
          have := hit_lt e
          rw [← hpp.out] at this
          omega
        · omega
      have hjv : jj ≤ v.vals.length := by have := hl.out; omega
      obtain ⟨kA2, hkA2⟩ : ∃ A, A = if kc = jj then ka else ka.map (·.add (jj * 1)) := ⟨_, rfl⟩
      obtain ⟨vA2, hvA2⟩ : ∃ A, A = if vc = jj then va else va.map (·.add (jj * 6)) := ⟨_, rfl⟩
      have hsk := slice_str ka v.keys.length kc jj hjl
      have hsv := slice_val va v.vals.length vc jj hjv
      rw [← hkA2] at hsk
      rw [← hvA2] at hsv
      have hrk : Reads W5' B 1 kA2 (v.keys.length - jj) ((v.keys.map Value.string).drop (jj * 1)) := by
        rw [hkA2]
        exact Reads.cut (StrsAt.reads (hs.out.keep (fun p hp => bw5.out.cell (by omega)) (Nat.le_refl _))) hjl g2
      have hrv : Reads W5' B 6 vA2 (v.vals.length - jj) ((fl rs).drop (jj * 6)) := by
        rw [hvA2]
        exact Reads.cut (hrd0.out.keep (fun p hp => (World.cell?_of_block (o5.block _ (by have := c1.out.size; omega) (by have := c1.out.size; omega))).trans (World.cell?_of_block (o4.out.block _ (by have := c1.out.size; omega) (by have := c1.out.size; omega))))) hjv g3
      obtain ⟨ky, hky⟩ : ∃ ky, ky = (v.keys.map Value.string).drop (jj * 1) := ⟨_, rfl⟩
      obtain ⟨vy, hvy⟩ : ∃ vy, vy = (fl rs).drop (jj * 6) := ⟨_, rfl⟩
      have hky1 : ∀ z ∈ ky, z.oneCell' = true := fun z hz => by
        rw [hky] at hz
        obtain ⟨s, _, rfl⟩ := List.mem_map.1 (List.mem_of_mem_drop hz)
        rfl
      have hvy1 : ∀ z ∈ vy, z.oneCell' = true := fun z hz => hrs1.out z (List.mem_of_mem_drop (by rw [hvy] at hz; exact hz))
      rw [← hky] at hrk
      rw [← hvy] at hrv
      obtain ⟨kz, hkz⟩ : ∃ kz, kz = kx ++ [.string k] ++ ky := ⟨_, rfl⟩
      obtain ⟨vz, hvz⟩ : ∃ vz, vz = vx ++ [.int .i64 u.kind, .int .i64 u.half, .string u.text, .slice la2 u.list.length lc2, .slice ka2 u.keys.length kc2, .slice va2 u.vals.length vc2] ++ vy := ⟨_, rfl⟩
      replace hkz := hide hkz
      replace hvz := hide hvz
      obtain ⟨m1, hm1⟩ : ∃ m1, m1 = v.keys.length - jj := ⟨_, rfl⟩
      obtain ⟨d1, hd1⟩ : ∃ d1, d1 = kc - jj := ⟨_, rfl⟩
      obtain ⟨m2, hm2⟩ : ∃ m2, m2 = v.vals.length - jj := ⟨_, rfl⟩
      obtain ⟨d2, hd2⟩ : ∃ d2, d2 = vc - jj := ⟨_, rfl⟩
      have hgne : some W1.heap.size ≠ (Value.slice kA (pp + 1) kcp).ownBlock := fun e => by have := ownk5.lt _ e.symm; omega
      have hgnv : some W1.heap.size ≠ (Value.slice vA (pp + 1) vcp).ownBlock := fun e => by have := ownv5.lt _ e.symm; omega
      have h63 : pp + 1 + m1 ≤ maxLen := by unfold maxLen; omega
      have hby1 : (pp + 1 + m1) * 16 ≤ 140737488355328 := by omega
      have h63v : pp + 1 + m2 ≤ maxLen := by have := hl2.out; unfold maxLen; omega
      have hby2 : (pp + 1 + m2) * 104 ≤ 140737488355328 := by have := hl2.out; omega
      have hm12 : m1 = m2 := by have := hl.out; omega
      rw [← hm1] at hrk hsk
      rw [← hm2] at hrv hsv
      rw [← hd1] at hsk
      rw [← hd2] at hsv
      obtain ⟨z7, hz7⟩ : ∃ z : Int, z = (jj : Int) := ⟨_, rfl⟩
      rw [← hz7] at hsk hsv
      have lg5 := kg5.lt
      have lx5 := kX5.lt
      have hbs5 : W3.heap.size ≤ W5'.heap.size := by omega
      have hwr : hh = true → IntKind.i64.wrap ((pp : Int) + 1) = z7 := fun h => by rw [hz7, hjj, if_pos h, IntKind.wrap_i64]; omega
      have hno : hh = false → (pp : Int) = z7 := fun h => by rw [hz7, hjj, h]; rfl
      replace hm1 := hide hm1
      replace hm2 := hide hm2
      replace hd1 := hide hd1
      replace hd2 := hide hd2
      replace hz7 := hide hz7
      replace hm12 := hide hm12
      replace hkA2 := hide hkA2
      replace hvA2 := hide hvA2
      replace hky := hide hky
      replace hvy := hide hvy
      replace hky1 := hide hky1
      replace hvy1 := hide hvy1
      replace h63 := hide h63
      replace hby1 := hide hby1
      replace h63v := hide h63v
      replace hby2 := hide hby2
      replace hgne := hide hgne
      replace hgnv := hide hgnv
      replace ownk5 := hide ownk5
      replace ownv5 := hide ownv5
      replace o5 := hide o5
      replace hrk := hide hrk
      replace hrv := hide hrv
      replace kg5 := hide kg5
      replace kX5 := hide kX5
      replace hjl := hide hjl
      replace hjv := hide hjv
      replace hjj := hide hjj
      have hhh' := hide (hhh.out.symm)
      cases hh
      · have e := hno rfl
        clear hwr hno
        obtain rfl := e
        go_wp2_with fail
        refine wp_region_inv (by kernel_rfl) (fun listed a w' => ∃ s0 s1 s2 s3 s4 s5 s6 s7, a = (⟨#[.agg #[.int .i64 v.kind, .int .i64 v.half, .string v.text, .slice la v.list.length lc, .slice ka v.keys.length kc, .slice va v.vals.length vc], .string k, .agg #[.int .i64 u.kind, .int .i64 u.half, .string u.text, .slice la2 u.list.length lc2, .slice ka2 u.keys.length kc2, .slice va2 u.vals.length vc2], .pointer (some ⟨w.heap.size, 0, none⟩), undef, .pointer (some ⟨w.heap.size + 1, 0, none⟩), .pointer (some ⟨w.heap.size + 1 + 1, 0, none⟩), .int .i64 pp, .bool false, .pointer (some ⟨W1.heap.size, 0, none⟩), .tuple #[.int .i64 pp, .bool false], .agg #[.int .i64 v.kind, .int .i64 v.half, .string v.text, .slice la v.list.length lc, .slice ka v.keys.length kc, .slice va v.vals.length vc], .string k, .tuple #[.int .i64 pp, .bool false], .int .i64 pp, .bool false, .agg #[.int .i64 6, .int .i64 0, .string ⟨#[]⟩, .slice none 0 0, .slice none 0 0, .slice none 0 0], .pointer (some ⟨W1.heap.size, 4, none⟩), .slice none 0 0, .pointer (some ⟨w.heap.size, 4, none⟩), .slice ka v.keys.length kc, .int .i64 pp, .slice ka pp kc, r6, .string k, r8, .slice kA (pp + 1) kcp, .pointer (some ⟨W1.heap.size, 4, none⟩), .pointer (some ⟨W1.heap.size, 5, none⟩), .slice none 0 0, .pointer (some ⟨w.heap.size, 5, none⟩), .slice va v.vals.length vc, .int .i64 pp, .slice va pp vc, t6, .agg #[.int .i64 u.kind, .int .i64 u.half, .string u.text, .slice la2 u.list.length lc2, .slice ka2 u.keys.length kc2, .slice va2 u.vals.length vc2], t8, .slice vA (pp + 1) vcp, .pointer (some ⟨W1.heap.size, 5, none⟩), .bool false, undef, undef, s0, s1, s2, s3, s4, s5, s6, s7, undef, undef, undef, undef, undef, undef, undef, undef, undef], []⟩ : Act) ∧ RegL W5' W3.heap.size W1.heap.size 4 9 1 (pp + 1 + m1) kz (.slice kA (pp + 1) kcp) (.pointer (some ⟨w.heap.size, 4, none⟩)) (.slice ka v.keys.length kc) (.int .i64 pp) (.slice kA2 m1 d1) listed w' s0 s1 s2 s3 s4 s5 s6 s7) ?_ ?_ ?_
        · exact ⟨_, _, _, _, _, _, _, _, rfl, RegL.start _ _ _ _ _ _ _ _ _ _ _ _ _ _ _ _ _ _ _ _ _⟩
        · rintro listed a w' i ⟨s0, s1, s2, s3, s4, s5, s6, s7, rfl, H⟩ hi
          have hun := Up.no (Up.un hi)
          have hlt12 : i < 9 := by
            obtain ⟨-, o, ho, -⟩ := mem_ready.1 hi
            rcases Nat.lt_or_ge i 9 with h | h
            · exact h
            · rw [Array.getElem?_eq_none (by exact h)] at ho
              cases ho
          have hi12 : i = 0 ∨ i = 1 ∨ i = 2 ∨ i = 3 ∨ i = 4 ∨ i = 5 ∨ i = 6 ∨ i = 7 ∨ i = 8 := by omega
          rcases hi12 with rfl | rfl | rfl | rfl | rfl | rfl | rfl | rfl | rfl
          · replace H := hide H
            replace hi := hide hi
            replace hun := hide hun
            refine wpOp_of_list rfl ?_
            go_wp2_with fail
            refine Then.normal ⟨_, _, _, _, _, _, _, _, rfl, H.out.s0⟩
          · have hno6 : ¬ Up listed 6 := fun h => hun (H.o6 h).1
            obtain rfl := H.f0 (Up.waits hi 0 (by kernel_rfl))
            obtain rfl := H.low hno6
            have kd := blk_heap (w' := W5'.drew) kg5.out rfl
            have lg := kd.lt
            obtain ⟨y0, y1, y2, y3, y4, y5⟩ := blk_six kd
            clear kd
            replace H := hide H
            replace hi := hide hi
            replace hun := hide hun
            refine wpOp_of_list rfl ?_
            go_wp2_with fail
            refine Then.normal ⟨_, _, _, _, _, _, _, _, rfl, H.out.s1⟩
          · replace H := hide H
            replace hi := hide hi
            replace hun := hide hun
            refine wpOp_of_list rfl ?_
            go_wp2_with fail
            refine Then.normal ⟨_, _, _, _, _, _, _, _, rfl, H.out.s2⟩
          · have hno6 : ¬ Up listed 6 := fun h => hun (H.o5 (H.o6 h).2)
            obtain rfl := H.f2 (Up.waits hi 2 (by kernel_rfl))
            obtain rfl := H.low hno6
            have kd := blk_heap (w' := W5'.drew) kX5.out rfl
            have lg := kd.lt
            obtain ⟨y0, y1, y2, y3, y4, y5⟩ := blk_six kd
            clear kd
            replace H := hide H
            replace hi := hide hi
            replace hun := hide hun
            refine wpOp_of_list rfl ?_
            go_wp2_with fail
            refine Then.normal ⟨_, _, _, _, _, _, _, _, rfl, H.out.s3⟩
          · replace H := hide H
            replace hi := hide hi
            replace hun := hide hun
            refine wpOp_of_list rfl ?_
            go_wp2_with fail
            refine Then.normal ⟨_, _, _, _, _, _, _, _, rfl, H.out.s4⟩
          · have hw3 := Up.waits hi 3 (by kernel_rfl)
            obtain rfl := H.f3 hw3
            obtain rfl := H.f4 (Up.waits hi 4 (by kernel_rfl))
            replace hw3 := hide hw3
            replace H := hide H
            replace hi := hide hi
            replace hun := hide hun
            refine wpOp_of_list rfl ?_
            go_wp2_with fail
            refine Then.normal ⟨_, _, _, _, _, _, _, _, rfl, H.out.s5 hw3.out⟩
          · have hw1 := Up.waits hi 1 (by kernel_rfl)
            have hw5 := Up.waits hi 5 (by kernel_rfl)
            obtain rfl := H.f1 hw1
            obtain rfl := H.f5 hw5
            obtain rfl := H.low hun
            refine wpOp_of_list rfl ?_
            refine wpList_append_any _ rfl (.tmp 43) (.tmp 47) 24 rfl W3.heap.size 9 i9 _ 1 16 Tryd.underlying24 hi9.out hy0.out hy1.out hy2.out rfl (Nat.zero_lt_succ _) (.slice kA (pp + 1) kcp) (pp + 1) (kx ++ [.string k]) rfl (own_heap (w' := W5'.drew) ownk5.out rfl) B kA2 m1 d1 ky rfl (reads_heap (w' := W5'.drew) hrk.out rfl) hky1.out h63.out hby1.out hbs5 ?_
            intro v2 w2 own2 g2 l2
            rw [← hkz.out] at own2
            refine Then.normal ⟨_, _, _, _, _, _, _, _, rfl, H.s6 hun hw1 hw5 g2 own2⟩
          · replace H := hide H
            replace hi := hide hi
            replace hun := hide hun
            refine wpOp_of_list rfl ?_
            go_wp2_with fail
            refine Then.normal ⟨_, _, _, _, _, _, _, _, rfl, H.out.s7⟩
          · have hw6 := Up.waits hi 6 (by kernel_rfl)
            obtain rfl := H.f7 (Up.waits hi 7 (by kernel_rfl))
            obtain ⟨hga, hoa⟩ := H.a hw6 hun
            have kd := Blk.grown (blk_heap (w' := W5'.drew) kg5.out rfl) hga hgne.out
            obtain ⟨A9, c9, rfl, -, -⟩ := own_slice hoa
            have lg := kd.lt
            obtain ⟨y0, y1, y2, y3, y4, y5⟩ := blk_six kd
            have fz := kd.frozen 4
            clear kd hga hoa
            replace hw6 := hide hw6
            replace H := hide H
            replace hi := hide hi
            replace hun := hide hun
            refine wpOp_of_list rfl ?_
            go_wp2_with fail
            refine Then.normal ⟨_, _, _, _, _, _, _, _, rfl, H.out.s8 hun.out hw6.out⟩
        · rintro listed a W7 ⟨s0, s1, s2, s3, s4, s5, s6, s7, rfl, H⟩ hi
          have hall := Up.all H.size (by kernel_rfl) hi
          obtain ⟨w6, g6, own6, hW7⟩ := H.d (hall 8 (by decide))
          obtain rfl := H.f0 (hall 0 (by decide))
          obtain rfl := H.f1 (hall 1 (by decide))
          obtain rfl := H.f2 (hall 2 (by decide))
          obtain rfl := H.f3 (hall 3 (by decide))
          obtain rfl := H.f4 (hall 4 (by decide))
          obtain rfl := H.f5 (hall 5 (by decide))
          obtain rfl := H.f7 (hall 7 (by decide))
          clear H hall hi
          obtain ⟨A6, c6, rfl, -, -⟩ := own_slice own6
          have o7 : Only (· = W1.heap.size) w6 W7 := by rw [hW7]; exact (Only.refl (· = W1.heap.size) w6).setCell (p := ⟨W1.heap.size, 4, none⟩) (Or.inl rfl) _
          have hb6 := Blk.grown (blk_heap (w' := W5'.drew) kg5.out rfl) g6 hgne.out
          have kg7 : Blk W7 W1.heap.size 26 #[.int .i64 6, .int .i64 0, .string ⟨#[]⟩, .slice none 0 0, .slice A6 (pp + 1 + m1) c6, .slice vA (pp + 1) vcp] := by
            rw [hW7]
            simpa using hb6.set_ 4 (.slice A6 (pp + 1 + m1) c6)
          have own7 := o7.own own6 (fun b hb e => by have := own6.lt b hb; omega)
          have g6' := undrewG g6
          have ownv7 := o7.own (ownv5.out.kept g6' (rows_ne ownv5.out ownk5.out (by decide))) (fun b hb e => by have := ownv5.out.lt b hb; omega)
          have t6' := g6'.size
          have t7' := o7.size
          have hold : ∀ b, b < W3.heap.size → b ≠ W1.heap.size → W7.heap[b]? = W5'.heap[b]? := fun b hb hn => (o7.block b (by omega) hn).trans (g6'.block b (by omega) (fun e => by have := ownk5.out.lt b e.symm; omega))
          have kX7 : Blk W7 w.heap.size 26 _ := (hold _ (by omega) (by have := c1.out.size; omega)).trans kX5.out
          have kZ7 : Blk W7 (w.heap.size + 2) 26 _ := (hold _ (by omega) (by have := c1.out.size; omega)).trans kZ5.out
          have hrv7 : Reads W7 B 6 vA2 m2 vy := hrv.out.keep (fun p hp => World.cell?_of_block (hold _ (by omega) (by have := c1.out.size; omega)))
          have bw7 : Below w.heap.size w W7 := ⟨o7.os.trans (g6'.os.trans bw5.out.os), o7.tape.trans (g6'.tape.trans bw5.out.tape), o7.output.trans (g6'.output.trans bw5.out.output), by have := bw5.out.size; omega, fun b hb => (hold b (by omega) (by have := c1.out.size; omega)).trans (bw5.out.block b hb)⟩
          have lg7 := kg7.lt
          have lx7 := kX7.lt
          have hbs8 : W3.heap.size ≤ W7.heap.size := by omega
          clear g6 own6 hb6 hW7
          replace hbs8 := hide hbs8
          replace hold := hide hold
          replace own7 := hide own7
          replace ownv7 := hide ownv7
          replace kZ7 := hide kZ7
          replace kX7 := hide kX7
          replace kg7 := hide kg7
          replace hrv7 := hide hrv7
          replace bw7 := hide bw7
          replace g6' := hide g6'
          replace o7 := hide o7
          go_wp2_with fail
          refine wp_region_inv (by kernel_rfl) (fun listed a w' => ∃ s0 s1 s2 s3 s4 s5 s6 s7, a = (⟨#[.agg #[.int .i64 v.kind, .int .i64 v.half, .string v.text, .slice la v.list.length lc, .slice ka v.keys.length kc, .slice va v.vals.length vc], .string k, .agg #[.int .i64 u.kind, .int .i64 u.half, .string u.text, .slice la2 u.list.length lc2, .slice ka2 u.keys.length kc2, .slice va2 u.vals.length vc2], .pointer (some ⟨w.heap.size, 0, none⟩), undef, .pointer (some ⟨w.heap.size + 1, 0, none⟩), .pointer (some ⟨w.heap.size + 1 + 1, 0, none⟩), .int .i64 pp, .bool false, .pointer (some ⟨W1.heap.size, 0, none⟩), .tuple #[.int .i64 pp, .bool false], .agg #[.int .i64 v.kind, .int .i64 v.half, .string v.text, .slice la v.list.length lc, .slice ka v.keys.length kc, .slice va v.vals.length vc], .string k, .tuple #[.int .i64 pp, .bool false], .int .i64 pp, .bool false, .agg #[.int .i64 6, .int .i64 0, .string ⟨#[]⟩, .slice none 0 0, .slice none 0 0, .slice none 0 0], .pointer (some ⟨W1.heap.size, 4, none⟩), .slice none 0 0, .pointer (some ⟨w.heap.size, 4, none⟩), .slice ka v.keys.length kc, .int .i64 pp, .slice ka pp kc, r6, .string k, r8, .slice kA (pp + 1) kcp, .pointer (some ⟨W1.heap.size, 4, none⟩), .pointer (some ⟨W1.heap.size, 5, none⟩), .slice none 0 0, .pointer (some ⟨w.heap.size, 5, none⟩), .slice va v.vals.length vc, .int .i64 pp, .slice va pp vc, t6, .agg #[.int .i64 u.kind, .int .i64 u.half, .string u.text, .slice la2 u.list.length lc2, .slice ka2 u.keys.length kc2, .slice va2 u.vals.length vc2], t8, .slice vA (pp + 1) vcp, .pointer (some ⟨W1.heap.size, 5, none⟩), .bool false, undef, undef, .pointer (some ⟨W1.heap.size, 4, none⟩), .slice kA (pp + 1) kcp, .pointer (some ⟨w.heap.size, 4, none⟩), .slice ka v.keys.length kc, .int .i64 pp, .slice kA2 m1 d1, .slice A6 (pp + 1 + m1) c6, .pointer (some ⟨W1.heap.size, 4, none⟩), s0, s1, s2, s3, s4, s5, s6, s7, undef], []⟩ : Act) ∧ RegL W7 W3.heap.size W1.heap.size 5 26 6 (pp + 1 + m2) vz (.slice vA (pp + 1) vcp) (.pointer (some ⟨w.heap.size, 5, none⟩)) (.slice va v.vals.length vc) (.int .i64 pp) (.slice vA2 m2 d2) listed w' s0 s1 s2 s3 s4 s5 s6 s7) ?_ ?_ ?_
          · exact ⟨_, _, _, _, _, _, _, _, rfl, RegL.start _ _ _ _ _ _ _ _ _ _ _ _ _ _ _ _ _ _ _ _ _⟩
          · rintro listed a w' i ⟨s0, s1, s2, s3, s4, s5, s6, s7, rfl, H⟩ hi
            have hun := Up.no (Up.un hi)
            have hlt12 : i < 9 := by
              obtain ⟨-, o, ho, -⟩ := mem_ready.1 hi
              rcases Nat.lt_or_ge i 9 with h | h
              · exact h
              · rw [Array.getElem?_eq_none (by exact h)] at ho
                cases ho
            have hi12 : i = 0 ∨ i = 1 ∨ i = 2 ∨ i = 3 ∨ i = 4 ∨ i = 5 ∨ i = 6 ∨ i = 7 ∨ i = 8 := by omega
            rcases hi12 with rfl | rfl | rfl | rfl | rfl | rfl | rfl | rfl | rfl
            · replace H := hide H
              replace hi := hide hi
              replace hun := hide hun
              refine wpOp_of_list rfl ?_
              go_wp2_with fail
              refine Then.normal ⟨_, _, _, _, _, _, _, _, rfl, H.out.s0⟩
            · have hno6 : ¬ Up listed 6 := fun h => hun (H.o6 h).1
              obtain rfl := H.f0 (Up.waits hi 0 (by kernel_rfl))
              obtain rfl := H.low hno6
              have kd := blk_heap (w' := W7.drew) kg7.out rfl
              have lg := kd.lt
              obtain ⟨y0, y1, y2, y3, y4, y5⟩ := blk_six kd
              clear kd
              replace H := hide H
              replace hi := hide hi
              replace hun := hide hun
              refine wpOp_of_list rfl ?_
              go_wp2_with fail
              refine Then.normal ⟨_, _, _, _, _, _, _, _, rfl, H.out.s1⟩
            · replace H := hide H
              replace hi := hide hi
              replace hun := hide hun
              refine wpOp_of_list rfl ?_
              go_wp2_with fail
              refine Then.normal ⟨_, _, _, _, _, _, _, _, rfl, H.out.s2⟩
            · have hno6 : ¬ Up listed 6 := fun h => hun (H.o5 (H.o6 h).2)
              obtain rfl := H.f2 (Up.waits hi 2 (by kernel_rfl))
              obtain rfl := H.low hno6
              have kd := blk_heap (w' := W7.drew) kX7.out rfl
              have lg := kd.lt
              obtain ⟨y0, y1, y2, y3, y4, y5⟩ := blk_six kd
              clear kd
              replace H := hide H
              replace hi := hide hi
              replace hun := hide hun
              refine wpOp_of_list rfl ?_
              go_wp2_with fail
              refine Then.normal ⟨_, _, _, _, _, _, _, _, rfl, H.out.s3⟩
            · replace H := hide H
              replace hi := hide hi
              replace hun := hide hun
              refine wpOp_of_list rfl ?_
              go_wp2_with fail
              refine Then.normal ⟨_, _, _, _, _, _, _, _, rfl, H.out.s4⟩
            · have hw3 := Up.waits hi 3 (by kernel_rfl)
              obtain rfl := H.f3 hw3
              obtain rfl := H.f4 (Up.waits hi 4 (by kernel_rfl))
              replace hw3 := hide hw3
              replace H := hide H
              replace hi := hide hi
              replace hun := hide hun
              refine wpOp_of_list rfl ?_
              go_wp2_with fail
              refine Then.normal ⟨_, _, _, _, _, _, _, _, rfl, H.out.s5 hw3.out⟩
            · have hw1 := Up.waits hi 1 (by kernel_rfl)
              have hw5 := Up.waits hi 5 (by kernel_rfl)
              obtain rfl := H.f1 hw1
              obtain rfl := H.f5 hw5
              obtain rfl := H.low hun
              refine wpOp_of_list rfl ?_
              refine wpList_append_any _ rfl (.tmp 51) (.tmp 55) 23 rfl W3.heap.size 26 i0 _ 6 104 Tryd.underlying23 hi0.out hz0.out hz1.out hz2.out rfl (Nat.zero_lt_succ _) (.slice vA (pp + 1) vcp) (pp + 1) (vx ++ [.int .i64 u.kind, .int .i64 u.half, .string u.text, .slice la2 u.list.length lc2, .slice ka2 u.keys.length kc2, .slice va2 u.vals.length vc2]) rfl (own_heap (w' := W7.drew) ownv7.out rfl) B vA2 m2 d2 vy rfl (reads_heap (w' := W7.drew) hrv7.out rfl) hvy1.out h63v.out hby2.out hbs8.out ?_
              intro v2 w2 own2 g2 l2
              rw [← hvz.out] at own2
              refine Then.normal ⟨_, _, _, _, _, _, _, _, rfl, H.s6 hun hw1 hw5 g2 own2⟩
            · replace H := hide H
              replace hi := hide hi
              replace hun := hide hun
              refine wpOp_of_list rfl ?_
              go_wp2_with fail
              refine Then.normal ⟨_, _, _, _, _, _, _, _, rfl, H.out.s7⟩
            · have hw6 := Up.waits hi 6 (by kernel_rfl)
              obtain rfl := H.f7 (Up.waits hi 7 (by kernel_rfl))
              obtain ⟨hga, hoa⟩ := H.a hw6 hun
              have kd := Blk.grown (blk_heap (w' := W7.drew) kg7.out rfl) hga hgnv.out
              obtain ⟨A9, c9, rfl, -, -⟩ := own_slice hoa
              have lg := kd.lt
              obtain ⟨y0, y1, y2, y3, y4, y5⟩ := blk_six kd
              have fz := kd.frozen 5
              clear kd hga hoa
              replace hw6 := hide hw6
              replace H := hide H
              replace hi := hide hi
              replace hun := hide hun
              refine wpOp_of_list rfl ?_
              go_wp2_with fail
              refine Then.normal ⟨_, _, _, _, _, _, _, _, rfl, H.out.s8 hun.out hw6.out⟩
          · rintro listed a W9 ⟨s0, s1, s2, s3, s4, s5, s6, s7, rfl, H⟩ hi
            have hall := Up.all H.size (by kernel_rfl) hi
            obtain ⟨w8, g8, own8, hW9⟩ := H.d (hall 8 (by decide))
            obtain rfl := H.f0 (hall 0 (by decide))
            obtain rfl := H.f1 (hall 1 (by decide))
            obtain rfl := H.f2 (hall 2 (by decide))
            obtain rfl := H.f3 (hall 3 (by decide))
            obtain rfl := H.f4 (hall 4 (by decide))
            obtain rfl := H.f5 (hall 5 (by decide))
            obtain rfl := H.f7 (hall 7 (by decide))
            clear H hall hi
            obtain ⟨A8, c8, rfl, -, -⟩ := own_slice own8
            have o9 : Only (· = W1.heap.size) w8 W9 := by rw [hW9]; exact (Only.refl (· = W1.heap.size) w8).setCell (p := ⟨W1.heap.size, 5, none⟩) (Or.inl rfl) _
            have hb8 := Blk.grown (blk_heap (w' := W7.drew) kg7.out rfl) g8 hgnv.out
            have kg9 : Blk W9 W1.heap.size 26 #[.int .i64 6, .int .i64 0, .string ⟨#[]⟩, .slice none 0 0, .slice A6 (pp + 1 + m1) c6, .slice A8 (pp + 1 + m2) c8] := by
              rw [hW9]
              simpa using hb8.set_ 5 (.slice A8 (pp + 1 + m2) c8)
            have own9 := o9.own own8 (fun b hb e => by have := own8.lt b hb; omega)
            have g8' := undrewG g8
            have ownk9 := o9.own (own7.out.kept g8' (rows_ne own7.out ownv7.out (by decide))) (fun b hb e => by have := own7.out.lt b hb; omega)
            have t8' := g8'.size
            have t9' := o9.size
            have hold9 : ∀ b, b < W3.heap.size → b ≠ W1.heap.size → W9.heap[b]? = W7.heap[b]? := fun b hb hn => (o9.block b (by omega) hn).trans (g8'.block b (by omega) (fun e => by have := ownv7.out.lt b e.symm; omega))
            have kZ9 : Blk W9 (w.heap.size + 1 + 1) 26 _ := (hold9 (w.heap.size + 2) (by omega) (by have := c1.out.size; omega)).trans kZ7.out
            have bw9 : Below w.heap.size w W9 := ⟨o9.os.trans (g8'.os.trans bw7.out.os), o9.tape.trans (g8'.tape.trans bw7.out.tape), o9.output.trans (g8'.output.trans bw7.out.output), by have := bw7.out.size; omega, fun b hb => (hold9 b (by omega) (by have := c1.out.size; omega)).trans (bw7.out.block b hb)⟩
            obtain ⟨p0, p1, p2, p3, p4, p5⟩ := blk_six kg9
            have lg9 := kg9.lt
            clear g8 own8 hb8 hW9
            replace own9 := hide own9
            replace ownk9 := hide ownk9
            replace kZ9 := hide kZ9
            replace kg9 := hide kg9
            replace bw9 := hide bw9
            replace g8' := hide g8'
            replace o9 := hide o9
            replace hold9 := hide hold9
            go_wp2_with (refine wpList_store_blk rfl 26 (.tmp 6) (.tmp 58) rfl (w.heap.size + 1 + 1) _ rfl rfl 26 _ kZ9.out val_size rfl (val_one _ _ _ _ _ _ _ _ _ _ _ _) ?_; intro WA kA' oA sA; have kA2' := hide kA'; have oA2 := hide oA; have sA2 := hide sA; clear kA' oA sA)
            obtain ⟨r0, r1, r2, r3, r4, r5⟩ := blk_six kA2'.out
            refine bodyPost_ret (v := .agg #[.int .i64 6, .int .i64 0, .string ⟨#[]⟩, .slice none 0 0, .slice A6 (pp + 1 + m1) c6, .slice A8 (pp + 1 + m2) c8]) (by simp [results, Tryd.results59, go_sem, r0, r1, r2, r3, r4, r5]) rfl ⟨_, _, _, _, _, _, rfl, bw9.out.trans (oA2.out.below (by intro k hk; omega) bw9.out.size), ?_⟩
            have bwA := bw9.out.trans (oA2.out.below (B := w.heap.size) (by intro k hk; omega) bw9.out.size)
            obtain ⟨f1, f2⟩ := put_fst v u k hl.out jj (by rw [hjj.out, hpp.out, hhh'.out] <;> simp)
            rw [← hpp.out] at f1 f2
            have hlenL : pp + 1 + m1 = (put (prs v) k u).length := by
              have := congrArg List.length f1
              simp at this
              rw [this, hm1.out]
              omega
            obtain ⟨A6', c6', e6, h61, h62⟩ := own_slice ownk9.out
            injection e6 with e61 e62 e63
            subst e63
            obtain ⟨A8', c8', e8, h81, h82⟩ := own_slice own9.out
            injection e8 with e81 e82 e83
            subst e83
            rw [hT.out]
            rw [← hm12.out] at h81 ⊢
            have hown9 := own9.out
            rw [← hm12.out] at hown9
            refine with_end (S := W3.heap.size) (rs := rs.take pp ++ [(.int .i64 u.kind, .int .i64 u.half, .string u.text, .slice la2 u.list.length lc2, .slice ka2 u.keys.length kc2, .slice va2 u.vals.length vc2)] ++ rs.drop jj) hlenL ?_ h61 h62 ?_ ?_ h81 h82 ?_ ?_
            · rw [f1]
              have := oA2.out.own ownk9.out (fun b hb e => by have := ownk9.out.lt b hb; omega)
              rw [hkz.out, hkx.out, hky.out] at this
              simpa using this
            · rw [f2]
              have hk : ∀ x y, JP w P (n + 1) x y → JP WA (fun b => P b ∨ Mid w.heap.size WA.heap.size b) (n + 1) x y := fun x y h => JP.keep (fun p hp => bwA.cell (by have := hPB.out _ hp; omega)) (fun b h => Or.inl h) (n + 1) _ _ h
              refine ((SxR.take (hrs.out.mono hk) pp).append (SxR.one ?_)).append (SxR.drop (hrs.out.mono hk) jj)
              exact hk _ _ hy.out
            · have := oA2.out.own hown9 (fun b hb e => by have := hown9.lt b hb; omega)
              rw [hvz.out, hvx.out, hvy.out, fl_take, fl_drop] at this
              rw [fl_append, fl_append]
              exact this
            · intro p hp
              have : p.1 ∈ (put (prs v) k u).map (·.1) := List.mem_map.2 ⟨p, hp, rfl⟩
              rw [f1] at this
              simp only [List.mem_append, List.mem_singleton] at this
              rcases this with (h | h) | h
              · exact hs.out.1 _ (List.mem_of_mem_take h)
              · rw [h]; exact hk
              · exact hs.out.1 _ (List.mem_of_mem_drop h)
            · intro b hb hb2
              exact Or.inr ⟨by omega, hb2⟩
      · have e := hwr rfl
        clear hwr hno
        go_wp2_with fail
        refine wp_region_inv (by kernel_rfl) (fun listed a w' => ∃ s0 s1 s2 s3 s4 s5 s6 s7, a = (⟨#[.agg #[.int .i64 v.kind, .int .i64 v.half, .string v.text, .slice la v.list.length lc, .slice ka v.keys.length kc, .slice va v.vals.length vc], .string k, .agg #[.int .i64 u.kind, .int .i64 u.half, .string u.text, .slice la2 u.list.length lc2, .slice ka2 u.keys.length kc2, .slice va2 u.vals.length vc2], .pointer (some ⟨w.heap.size, 0, none⟩), undef, .pointer (some ⟨w.heap.size + 1, 0, none⟩), .pointer (some ⟨w.heap.size + 1 + 1, 0, none⟩), .int .i64 z7, .bool true, .pointer (some ⟨W1.heap.size, 0, none⟩), .tuple #[.int .i64 pp, .bool true], .agg #[.int .i64 v.kind, .int .i64 v.half, .string v.text, .slice la v.list.length lc, .slice ka v.keys.length kc, .slice va v.vals.length vc], .string k, .tuple #[.int .i64 pp, .bool true], .int .i64 pp, .bool true, .agg #[.int .i64 6, .int .i64 0, .string ⟨#[]⟩, .slice none 0 0, .slice none 0 0, .slice none 0 0], .pointer (some ⟨W1.heap.size, 4, none⟩), .slice none 0 0, .pointer (some ⟨w.heap.size, 4, none⟩), .slice ka v.keys.length kc, .int .i64 pp, .slice ka pp kc, r6, .string k, r8, .slice kA (pp + 1) kcp, .pointer (some ⟨W1.heap.size, 4, none⟩), .pointer (some ⟨W1.heap.size, 5, none⟩), .slice none 0 0, .pointer (some ⟨w.heap.size, 5, none⟩), .slice va v.vals.length vc, .int .i64 pp, .slice va pp vc, t6, .agg #[.int .i64 u.kind, .int .i64 u.half, .string u.text, .slice la2 u.list.length lc2, .slice ka2 u.keys.length kc2, .slice va2 u.vals.length vc2], t8, .slice vA (pp + 1) vcp, .pointer (some ⟨W1.heap.size, 5, none⟩), .bool true, .int .i64 pp, .int .i64 z7, s0, s1, s2, s3, s4, s5, s6, s7, undef, undef, undef, undef, undef, undef, undef, undef, undef], []⟩ : Act) ∧ RegL W5' W3.heap.size W1.heap.size 4 9 1 (pp + 1 + m1) kz (.slice kA (pp + 1) kcp) (.pointer (some ⟨w.heap.size, 4, none⟩)) (.slice ka v.keys.length kc) (.int .i64 z7) (.slice kA2 m1 d1) listed w' s0 s1 s2 s3 s4 s5 s6 s7) ?_ ?_ ?_
        · exact ⟨_, _, _, _, _, _, _, _, rfl, RegL.start _ _ _ _ _ _ _ _ _ _ _ _ _ _ _ _ _ _ _ _ _⟩
        · rintro listed a w' i ⟨s0, s1, s2, s3, s4, s5, s6, s7, rfl, H⟩ hi
          have hun := Up.no (Up.un hi)
          have hlt12 : i < 9 := by
            obtain ⟨-, o, ho, -⟩ := mem_ready.1 hi
            rcases Nat.lt_or_ge i 9 with h | h
            · exact h
            · rw [Array.getElem?_eq_none (by exact h)] at ho
              cases ho
          have hi12 : i = 0 ∨ i = 1 ∨ i = 2 ∨ i = 3 ∨ i = 4 ∨ i = 5 ∨ i = 6 ∨ i = 7 ∨ i = 8 := by omega
          rcases hi12 with rfl | rfl | rfl | rfl | rfl | rfl | rfl | rfl | rfl
          · replace H := hide H
            replace hi := hide hi
            replace hun := hide hun
            refine wpOp_of_list rfl ?_
            go_wp2_with fail
            refine Then.normal ⟨_, _, _, _, _, _, _, _, rfl, H.out.s0⟩
          · have hno6 : ¬ Up listed 6 := fun h => hun (H.o6 h).1
            obtain rfl := H.f0 (Up.waits hi 0 (by kernel_rfl))
            obtain rfl := H.low hno6
            have kd := blk_heap (w' := W5'.drew) kg5.out rfl
            have lg := kd.lt
            obtain ⟨y0, y1, y2, y3, y4, y5⟩ := blk_six kd
            clear kd
            replace H := hide H
            replace hi := hide hi
            replace hun := hide hun
            refine wpOp_of_list rfl ?_
            go_wp2_with fail
            refine Then.normal ⟨_, _, _, _, _, _, _, _, rfl, H.out.s1⟩
          · replace H := hide H
            replace hi := hide hi
            replace hun := hide hun
            refine wpOp_of_list rfl ?_
            go_wp2_with fail
            refine Then.normal ⟨_, _, _, _, _, _, _, _, rfl, H.out.s2⟩
          · have hno6 : ¬ Up listed 6 := fun h => hun (H.o5 (H.o6 h).2)
            obtain rfl := H.f2 (Up.waits hi 2 (by kernel_rfl))
            obtain rfl := H.low hno6
            have kd := blk_heap (w' := W5'.drew) kX5.out rfl
            have lg := kd.lt
            obtain ⟨y0, y1, y2, y3, y4, y5⟩ := blk_six kd
            clear kd
            replace H := hide H
            replace hi := hide hi
            replace hun := hide hun
            refine wpOp_of_list rfl ?_
            go_wp2_with fail
            refine Then.normal ⟨_, _, _, _, _, _, _, _, rfl, H.out.s3⟩
          · replace H := hide H
            replace hi := hide hi
            replace hun := hide hun
            refine wpOp_of_list rfl ?_
            go_wp2_with fail
            refine Then.normal ⟨_, _, _, _, _, _, _, _, rfl, H.out.s4⟩
          · have hw3 := Up.waits hi 3 (by kernel_rfl)
            obtain rfl := H.f3 hw3
            obtain rfl := H.f4 (Up.waits hi 4 (by kernel_rfl))
            replace hw3 := hide hw3
            replace H := hide H
            replace hi := hide hi
            replace hun := hide hun
            refine wpOp_of_list rfl ?_
            go_wp2_with fail
            refine Then.normal ⟨_, _, _, _, _, _, _, _, rfl, H.out.s5 hw3.out⟩
          · have hw1 := Up.waits hi 1 (by kernel_rfl)
            have hw5 := Up.waits hi 5 (by kernel_rfl)
            obtain rfl := H.f1 hw1
            obtain rfl := H.f5 hw5
            obtain rfl := H.low hun
            refine wpOp_of_list rfl ?_
            refine wpList_append_any _ rfl (.tmp 43) (.tmp 47) 24 rfl W3.heap.size 9 i9 _ 1 16 Tryd.underlying24 hi9.out hy0.out hy1.out hy2.out rfl (Nat.zero_lt_succ _) (.slice kA (pp + 1) kcp) (pp + 1) (kx ++ [.string k]) rfl (own_heap (w' := W5'.drew) ownk5.out rfl) B kA2 m1 d1 ky rfl (reads_heap (w' := W5'.drew) hrk.out rfl) hky1.out h63.out hby1.out hbs5 ?_
            intro v2 w2 own2 g2 l2
            rw [← hkz.out] at own2
            refine Then.normal ⟨_, _, _, _, _, _, _, _, rfl, H.s6 hun hw1 hw5 g2 own2⟩
          · replace H := hide H
            replace hi := hide hi
            replace hun := hide hun
            refine wpOp_of_list rfl ?_
            go_wp2_with fail
            refine Then.normal ⟨_, _, _, _, _, _, _, _, rfl, H.out.s7⟩
          · have hw6 := Up.waits hi 6 (by kernel_rfl)
            obtain rfl := H.f7 (Up.waits hi 7 (by kernel_rfl))
            obtain ⟨hga, hoa⟩ := H.a hw6 hun
            have kd := Blk.grown (blk_heap (w' := W5'.drew) kg5.out rfl) hga hgne.out
            obtain ⟨A9, c9, rfl, -, -⟩ := own_slice hoa
            have lg := kd.lt
            obtain ⟨y0, y1, y2, y3, y4, y5⟩ := blk_six kd
            have fz := kd.frozen 4
            clear kd hga hoa
            replace hw6 := hide hw6
            replace H := hide H
            replace hi := hide hi
            replace hun := hide hun
            refine wpOp_of_list rfl ?_
            go_wp2_with fail
            refine Then.normal ⟨_, _, _, _, _, _, _, _, rfl, H.out.s8 hun.out hw6.out⟩
        · rintro listed a W7 ⟨s0, s1, s2, s3, s4, s5, s6, s7, rfl, H⟩ hi
          have hall := Up.all H.size (by kernel_rfl) hi
          obtain ⟨w6, g6, own6, hW7⟩ := H.d (hall 8 (by decide))
          obtain rfl := H.f0 (hall 0 (by decide))
          obtain rfl := H.f1 (hall 1 (by decide))
          obtain rfl := H.f2 (hall 2 (by decide))
          obtain rfl := H.f3 (hall 3 (by decide))
          obtain rfl := H.f4 (hall 4 (by decide))
          obtain rfl := H.f5 (hall 5 (by decide))
          obtain rfl := H.f7 (hall 7 (by decide))
          clear H hall hi
          obtain ⟨A6, c6, rfl, -, -⟩ := own_slice own6
          have o7 : Only (· = W1.heap.size) w6 W7 := by rw [hW7]; exact (Only.refl (· = W1.heap.size) w6).setCell (p := ⟨W1.heap.size, 4, none⟩) (Or.inl rfl) _
          have hb6 := Blk.grown (blk_heap (w' := W5'.drew) kg5.out rfl) g6 hgne.out
          have kg7 : Blk W7 W1.heap.size 26 #[.int .i64 6, .int .i64 0, .string ⟨#[]⟩, .slice none 0 0, .slice A6 (pp + 1 + m1) c6, .slice vA (pp + 1) vcp] := by
            rw [hW7]
            simpa using hb6.set_ 4 (.slice A6 (pp + 1 + m1) c6)
          have own7 := o7.own own6 (fun b hb e => by have := own6.lt b hb; omega)
          have g6' := undrewG g6
          have ownv7 := o7.own (ownv5.out.kept g6' (rows_ne ownv5.out ownk5.out (by decide))) (fun b hb e => by have := ownv5.out.lt b hb; omega)
          have t6' := g6'.size
          have t7' := o7.size
          have hold : ∀ b, b < W3.heap.size → b ≠ W1.heap.size → W7.heap[b]? = W5'.heap[b]? := fun b hb hn => (o7.block b (by omega) hn).trans (g6'.block b (by omega) (fun e => by have := ownk5.out.lt b e.symm; omega))
          have kX7 : Blk W7 w.heap.size 26 _ := (hold _ (by omega) (by have := c1.out.size; omega)).trans kX5.out
          have kZ7 : Blk W7 (w.heap.size + 2) 26 _ := (hold _ (by omega) (by have := c1.out.size; omega)).trans kZ5.out
          have hrv7 : Reads W7 B 6 vA2 m2 vy := hrv.out.keep (fun p hp => World.cell?_of_block (hold _ (by omega) (by have := c1.out.size; omega)))
          have bw7 : Below w.heap.size w W7 := ⟨o7.os.trans (g6'.os.trans bw5.out.os), o7.tape.trans (g6'.tape.trans bw5.out.tape), o7.output.trans (g6'.output.trans bw5.out.output), by have := bw5.out.size; omega, fun b hb => (hold b (by omega) (by have := c1.out.size; omega)).trans (bw5.out.block b hb)⟩
          have lg7 := kg7.lt
          have lx7 := kX7.lt
          have hbs8 : W3.heap.size ≤ W7.heap.size := by omega
          clear g6 own6 hb6 hW7
          replace hbs8 := hide hbs8
          replace hold := hide hold
          replace own7 := hide own7
          replace ownv7 := hide ownv7
          replace kZ7 := hide kZ7
          replace kX7 := hide kX7
          replace kg7 := hide kg7
          replace hrv7 := hide hrv7
          replace bw7 := hide bw7
          replace g6' := hide g6'
          replace o7 := hide o7
          go_wp2_with fail
          refine wp_region_inv (by kernel_rfl) (fun listed a w' => ∃ s0 s1 s2 s3 s4 s5 s6 s7, a = (⟨#[.agg #[.int .i64 v.kind, .int .i64 v.half, .string v.text, .slice la v.list.length lc, .slice ka v.keys.length kc, .slice va v.vals.length vc], .string k, .agg #[.int .i64 u.kind, .int .i64 u.half, .string u.text, .slice la2 u.list.length lc2, .slice ka2 u.keys.length kc2, .slice va2 u.vals.length vc2], .pointer (some ⟨w.heap.size, 0, none⟩), undef, .pointer (some ⟨w.heap.size + 1, 0, none⟩), .pointer (some ⟨w.heap.size + 1 + 1, 0, none⟩), .int .i64 z7, .bool true, .pointer (some ⟨W1.heap.size, 0, none⟩), .tuple #[.int .i64 pp, .bool true], .agg #[.int .i64 v.kind, .int .i64 v.half, .string v.text, .slice la v.list.length lc, .slice ka v.keys.length kc, .slice va v.vals.length vc], .string k, .tuple #[.int .i64 pp, .bool true], .int .i64 pp, .bool true, .agg #[.int .i64 6, .int .i64 0, .string ⟨#[]⟩, .slice none 0 0, .slice none 0 0, .slice none 0 0], .pointer (some ⟨W1.heap.size, 4, none⟩), .slice none 0 0, .pointer (some ⟨w.heap.size, 4, none⟩), .slice ka v.keys.length kc, .int .i64 pp, .slice ka pp kc, r6, .string k, r8, .slice kA (pp + 1) kcp, .pointer (some ⟨W1.heap.size, 4, none⟩), .pointer (some ⟨W1.heap.size, 5, none⟩), .slice none 0 0, .pointer (some ⟨w.heap.size, 5, none⟩), .slice va v.vals.length vc, .int .i64 pp, .slice va pp vc, t6, .agg #[.int .i64 u.kind, .int .i64 u.half, .string u.text, .slice la2 u.list.length lc2, .slice ka2 u.keys.length kc2, .slice va2 u.vals.length vc2], t8, .slice vA (pp + 1) vcp, .pointer (some ⟨W1.heap.size, 5, none⟩), .bool true, .int .i64 pp, .int .i64 z7, .pointer (some ⟨W1.heap.size, 4, none⟩), .slice kA (pp + 1) kcp, .pointer (some ⟨w.heap.size, 4, none⟩), .slice ka v.keys.length kc, .int .i64 z7, .slice kA2 m1 d1, .slice A6 (pp + 1 + m1) c6, .pointer (some ⟨W1.heap.size, 4, none⟩), s0, s1, s2, s3, s4, s5, s6, s7, undef], []⟩ : Act) ∧ RegL W7 W3.heap.size W1.heap.size 5 26 6 (pp + 1 + m2) vz (.slice vA (pp + 1) vcp) (.pointer (some ⟨w.heap.size, 5, none⟩)) (.slice va v.vals.length vc) (.int .i64 z7) (.slice vA2 m2 d2) listed w' s0 s1 s2 s3 s4 s5 s6 s7) ?_ ?_ ?_
          · exact ⟨_, _, _, _, _, _, _, _, rfl, RegL.start _ _ _ _ _ _ _ _ _ _ _ _ _ _ _ _ _ _ _ _ _⟩
          · rintro listed a w' i ⟨s0, s1, s2, s3, s4, s5, s6, s7, rfl, H⟩ hi
            have hun := Up.no (Up.un hi)
            have hlt12 : i < 9 := by
              obtain ⟨-, o, ho, -⟩ := mem_ready.1 hi
              rcases Nat.lt_or_ge i 9 with h | h
              · exact h
              · rw [Array.getElem?_eq_none (by exact h)] at ho
                cases ho
            have hi12 : i = 0 ∨ i = 1 ∨ i = 2 ∨ i = 3 ∨ i = 4 ∨ i = 5 ∨ i = 6 ∨ i = 7 ∨ i = 8 := by omega
            rcases hi12 with rfl | rfl | rfl | rfl | rfl | rfl | rfl | rfl | rfl
            · replace H := hide H
              replace hi := hide hi
              replace hun := hide hun
              refine wpOp_of_list rfl ?_
              go_wp2_with fail
              refine Then.normal ⟨_, _, _, _, _, _, _, _, rfl, H.out.s0⟩
            · have hno6 : ¬ Up listed 6 := fun h => hun (H.o6 h).1
              obtain rfl := H.f0 (Up.waits hi 0 (by kernel_rfl))
              obtain rfl := H.low hno6
              have kd := blk_heap (w' := W7.drew) kg7.out rfl
              have lg := kd.lt
              obtain ⟨y0, y1, y2, y3, y4, y5⟩ := blk_six kd
              clear kd
              replace H := hide H
              replace hi := hide hi
              replace hun := hide hun
              refine wpOp_of_list rfl ?_
              go_wp2_with fail
              refine Then.normal ⟨_, _, _, _, _, _, _, _, rfl, H.out.s1⟩
            · replace H := hide H
              replace hi := hide hi
              replace hun := hide hun
              refine wpOp_of_list rfl ?_
              go_wp2_with fail
              refine Then.normal ⟨_, _, _, _, _, _, _, _, rfl, H.out.s2⟩
            · have hno6 : ¬ Up listed 6 := fun h => hun (H.o5 (H.o6 h).2)
              obtain rfl := H.f2 (Up.waits hi 2 (by kernel_rfl))
              obtain rfl := H.low hno6
              have kd := blk_heap (w' := W7.drew) kX7.out rfl
              have lg := kd.lt
              obtain ⟨y0, y1, y2, y3, y4, y5⟩ := blk_six kd
              clear kd
              replace H := hide H
              replace hi := hide hi
              replace hun := hide hun
              refine wpOp_of_list rfl ?_
              go_wp2_with fail
              refine Then.normal ⟨_, _, _, _, _, _, _, _, rfl, H.out.s3⟩
            · replace H := hide H
              replace hi := hide hi
              replace hun := hide hun
              refine wpOp_of_list rfl ?_
              go_wp2_with fail
              refine Then.normal ⟨_, _, _, _, _, _, _, _, rfl, H.out.s4⟩
            · have hw3 := Up.waits hi 3 (by kernel_rfl)
              obtain rfl := H.f3 hw3
              obtain rfl := H.f4 (Up.waits hi 4 (by kernel_rfl))
              replace hw3 := hide hw3
              replace H := hide H
              replace hi := hide hi
              replace hun := hide hun
              refine wpOp_of_list rfl ?_
              go_wp2_with fail
              refine Then.normal ⟨_, _, _, _, _, _, _, _, rfl, H.out.s5 hw3.out⟩
            · have hw1 := Up.waits hi 1 (by kernel_rfl)
              have hw5 := Up.waits hi 5 (by kernel_rfl)
              obtain rfl := H.f1 hw1
              obtain rfl := H.f5 hw5
              obtain rfl := H.low hun
              refine wpOp_of_list rfl ?_
              refine wpList_append_any _ rfl (.tmp 51) (.tmp 55) 23 rfl W3.heap.size 26 i0 _ 6 104 Tryd.underlying23 hi0.out hz0.out hz1.out hz2.out rfl (Nat.zero_lt_succ _) (.slice vA (pp + 1) vcp) (pp + 1) (vx ++ [.int .i64 u.kind, .int .i64 u.half, .string u.text, .slice la2 u.list.length lc2, .slice ka2 u.keys.length kc2, .slice va2 u.vals.length vc2]) rfl (own_heap (w' := W7.drew) ownv7.out rfl) B vA2 m2 d2 vy rfl (reads_heap (w' := W7.drew) hrv7.out rfl) hvy1.out h63v.out hby2.out hbs8.out ?_
              intro v2 w2 own2 g2 l2
              rw [← hvz.out] at own2
              refine Then.normal ⟨_, _, _, _, _, _, _, _, rfl, H.s6 hun hw1 hw5 g2 own2⟩
            · replace H := hide H
              replace hi := hide hi
              replace hun := hide hun
              refine wpOp_of_list rfl ?_
              go_wp2_with fail
              refine Then.normal ⟨_, _, _, _, _, _, _, _, rfl, H.out.s7⟩
            · have hw6 := Up.waits hi 6 (by kernel_rfl)
              obtain rfl := H.f7 (Up.waits hi 7 (by kernel_rfl))
              obtain ⟨hga, hoa⟩ := H.a hw6 hun
              have kd := Blk.grown (blk_heap (w' := W7.drew) kg7.out rfl) hga hgnv.out
              obtain ⟨A9, c9, rfl, -, -⟩ := own_slice hoa
              have lg := kd.lt
              obtain ⟨y0, y1, y2, y3, y4, y5⟩ := blk_six kd
              have fz := kd.frozen 5
              clear kd hga hoa
              replace hw6 := hide hw6
              replace H := hide H
              replace hi := hide hi
              replace hun := hide hun
              refine wpOp_of_list rfl ?_
              go_wp2_with fail
              refine Then.normal ⟨_, _, _, _, _, _, _, _, rfl, H.out.s8 hun.out hw6.out⟩
          · rintro listed a W9 ⟨s0, s1, s2, s3, s4, s5, s6, s7, rfl, H⟩ hi
            have hall := Up.all H.size (by kernel_rfl) hi
            obtain ⟨w8, g8, own8, hW9⟩ := H.d (hall 8 (by decide))
            obtain rfl := H.f0 (hall 0 (by decide))
            obtain rfl := H.f1 (hall 1 (by decide))
            obtain rfl := H.f2 (hall 2 (by decide))
            obtain rfl := H.f3 (hall 3 (by decide))
            obtain rfl := H.f4 (hall 4 (by decide))
            obtain rfl := H.f5 (hall 5 (by decide))
            obtain rfl := H.f7 (hall 7 (by decide))
            clear H hall hi
            obtain ⟨A8, c8, rfl, -, -⟩ := own_slice own8
            have o9 : Only (· = W1.heap.size) w8 W9 := by rw [hW9]; exact (Only.refl (· = W1.heap.size) w8).setCell (p := ⟨W1.heap.size, 5, none⟩) (Or.inl rfl) _
            have hb8 := Blk.grown (blk_heap (w' := W7.drew) kg7.out rfl) g8 hgnv.out
            have kg9 : Blk W9 W1.heap.size 26 #[.int .i64 6, .int .i64 0, .string ⟨#[]⟩, .slice none 0 0, .slice A6 (pp + 1 + m1) c6, .slice A8 (pp + 1 + m2) c8] := by
              rw [hW9]
              simpa using hb8.set_ 5 (.slice A8 (pp + 1 + m2) c8)
            have own9 := o9.own own8 (fun b hb e => by have := own8.lt b hb; omega)
            have g8' := undrewG g8
            have ownk9 := o9.own (own7.out.kept g8' (rows_ne own7.out ownv7.out (by decide))) (fun b hb e => by have := own7.out.lt b hb; omega)
            have t8' := g8'.size
            have t9' := o9.size
            have hold9 : ∀ b, b < W3.heap.size → b ≠ W1.heap.size → W9.heap[b]? = W7.heap[b]? := fun b hb hn => (o9.block b (by omega) hn).trans (g8'.block b (by omega) (fun e => by have := ownv7.out.lt b e.symm; omega))
            have kZ9 : Blk W9 (w.heap.size + 1 + 1) 26 _ := (hold9 (w.heap.size + 2) (by omega) (by have := c1.out.size; omega)).trans kZ7.out
            have bw9 : Below w.heap.size w W9 := ⟨o9.os.trans (g8'.os.trans bw7.out.os), o9.tape.trans (g8'.tape.trans bw7.out.tape), o9.output.trans (g8'.output.trans bw7.out.output), by have := bw7.out.size; omega, fun b hb => (hold9 b (by omega) (by have := c1.out.size; omega)).trans (bw7.out.block b hb)⟩
            obtain ⟨p0, p1, p2, p3, p4, p5⟩ := blk_six kg9
            have lg9 := kg9.lt
            clear g8 own8 hb8 hW9
            replace own9 := hide own9
            replace ownk9 := hide ownk9
            replace kZ9 := hide kZ9
            replace kg9 := hide kg9
            replace bw9 := hide bw9
            replace g8' := hide g8'
            replace o9 := hide o9
            replace hold9 := hide hold9
            go_wp2_with (refine wpList_store_blk rfl 26 (.tmp 6) (.tmp 58) rfl (w.heap.size + 1 + 1) _ rfl rfl 26 _ kZ9.out val_size rfl (val_one _ _ _ _ _ _ _ _ _ _ _ _) ?_; intro WA kA' oA sA; have kA2' := hide kA'; have oA2 := hide oA; have sA2 := hide sA; clear kA' oA sA)
            obtain ⟨r0, r1, r2, r3, r4, r5⟩ := blk_six kA2'.out
            refine bodyPost_ret (v := .agg #[.int .i64 6, .int .i64 0, .string ⟨#[]⟩, .slice none 0 0, .slice A6 (pp + 1 + m1) c6, .slice A8 (pp + 1 + m2) c8]) (by simp [results, Tryd.results59, go_sem, r0, r1, r2, r3, r4, r5]) rfl ⟨_, _, _, _, _, _, rfl, bw9.out.trans (oA2.out.below (by intro k hk; omega) bw9.out.size), ?_⟩
            have bwA := bw9.out.trans (oA2.out.below (B := w.heap.size) (by intro k hk; omega) bw9.out.size)
            obtain ⟨f1, f2⟩ := put_fst v u k hl.out jj (by rw [hjj.out, hpp.out, hhh'.out] <;> simp)
            rw [← hpp.out] at f1 f2
            have hlenL : pp + 1 + m1 = (put (prs v) k u).length := by
              have := congrArg List.length f1
              simp at this
              rw [this, hm1.out]
              omega
            obtain ⟨A6', c6', e6, h61, h62⟩ := own_slice ownk9.out
            injection e6 with e61 e62 e63
            subst e63
            obtain ⟨A8', c8', e8, h81, h82⟩ := own_slice own9.out
            injection e8 with e81 e82 e83
            subst e83
            rw [hT.out]
            rw [← hm12.out] at h81 ⊢
            have hown9 := own9.out
            rw [← hm12.out] at hown9
            refine with_end (S := W3.heap.size) (rs := rs.take pp ++ [(.int .i64 u.kind, .int .i64 u.half, .string u.text, .slice la2 u.list.length lc2, .slice ka2 u.keys.length kc2, .slice va2 u.vals.length vc2)] ++ rs.drop jj) hlenL ?_ h61 h62 ?_ ?_ h81 h82 ?_ ?_
            · rw [f1]
              have := oA2.out.own ownk9.out (fun b hb e => by have := ownk9.out.lt b hb; omega)
              rw [hkz.out, hkx.out, hky.out] at this
              simpa using this
            · rw [f2]
              have hk : ∀ x y, JP w P (n + 1) x y → JP WA (fun b => P b ∨ Mid w.heap.size WA.heap.size b) (n + 1) x y := fun x y h => JP.keep (fun p hp => bwA.cell (by have := hPB.out _ hp; omega)) (fun b h => Or.inl h) (n + 1) _ _ h
              refine ((SxR.take (hrs.out.mono hk) pp).append (SxR.one ?_)).append (SxR.drop (hrs.out.mono hk) jj)
              exact hk _ _ hy.out
            · have := oA2.out.own hown9 (fun b hb e => by have := hown9.lt b hb; omega)
              rw [hvz.out, hvx.out, hvy.out, fl_take, fl_drop] at this
              rw [fl_append, fl_append]
              exact this
            · intro p hp
              have : p.1 ∈ (put (prs v) k u).map (·.1) := List.mem_map.2 ⟨p, hp, rfl⟩
              rw [f1] at this
              simp only [List.mem_append, List.mem_singleton] at this
              rcases this with (h | h) | h
              · exact hs.out.1 _ (List.mem_of_mem_take h)
              · rw [h]; exact hk
              · exact hs.out.1 _ (List.mem_of_mem_drop h)
            · intro b hb hb2
              exact Or.inr ⟨by omega, hb2⟩
end Go.Proofs.YtmkdkcbkgngfdaaDoor
