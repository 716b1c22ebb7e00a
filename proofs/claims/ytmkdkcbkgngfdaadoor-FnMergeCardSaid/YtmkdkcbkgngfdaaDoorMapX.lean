/- mapFromGo, walked: the loop. -/
import Derived.Test.YtmkdkcbkgngfdaaDoorMapR
namespace Go.Proofs.YtmkdkcbkgngfdaaDoor
open Go.RowKit Go.Maps Go.Sort
set_option linter.unusedVariables false

theorem Tryd.infoStr : (Tryd.prog.info? 9).map (fun i => (i.zero, i.size, i.bytes)) = some (some (.string ⟨#[]⟩), 1, 16) := by kernel_rfl

theorem reads_new1 (w : World) (a0 : Value) (t : TypeId) : Reads (w.alloc (.cells #[a0] t)) (w.heap.size + 1) 1 (some ⟨w.heap.size, 0, none⟩) 1 [a0] := by
  refine ⟨rfl, fun _ => ⟨_, rfl, by simp, fun j u hu => ?_⟩⟩
  have hb := Blk.new w t #[a0]
  have : (⟨w.heap.size, 0, none⟩ : Addr).add j = ⟨w.heap.size, j, none⟩ := by unfold Addr.add; split <;> simp_all
  rw [this, hb.cell, ← hu]; simp

theorem str_one (s : ByteArray) : ∀ u ∈ ([.string s] : List Value), u.oneCell' = true := by
  intro u hu
  simp at hu
  subst hu
  rfl

theorem reads_blk1 {w : World} {g : Nat} {a0 : Value} {t : TypeId} (h : Blk w g t #[a0]) : Reads w (g + 1) 1 (some ⟨g, 0, none⟩) 1 [a0] := by
  refine ⟨rfl, fun _ => ⟨_, rfl, by simp, fun j u hu => ?_⟩⟩
  have : (⟨g, 0, none⟩ : Addr).add j = ⟨g, j, none⟩ := by unfold Addr.add; split <;> simp_all
  rw [this, h.cell, ← hu]; simp
theorem reads_blk6 {w : World} {g : Nat} {a0 a1 a2 a3 a4 a5 : Value} {t : TypeId} (h : Blk w g t #[a0, a1, a2, a3, a4, a5]) : Reads w (g + 1) 6 (some ⟨g, 0, none⟩) 1 [a0, a1, a2, a3, a4, a5] := by
  refine ⟨rfl, fun _ => ⟨_, rfl, by simp, fun j u hu => ?_⟩⟩
  have : (⟨g, 0, none⟩ : Addr).add j = ⟨g, j, none⟩ := by unfold Addr.add; split <;> simp_all
  rw [this, h.cell, ← hu]; simp
/-- A row that is not empty lies above its base. -/
theorem lt_of_own {w : World} {B n g : Nat} {e : TypeId} {s : Nat} {v : Value} {xs : List Value} (h : w.ownsRow B e s v (n + 1) xs) (hg : g < B) : B < w.heap.size := by
  obtain ⟨k, c, -, h1, h2⟩ := h.form (Nat.succ_pos _)
  omega
theorem lt_alloc_of_own {w : World} {o : Obj} {B n g : Nat} {e : TypeId} {s : Nat} {v : Value} {xs : List Value} (h : w.ownsRow B e s v (n + 1) xs) (hg : g < B) : B < (w.alloc o).heap.size := by
  have := lt_of_own h hg
  simp
  omega
/-- A block that a call's row is not. -/
theorem undrewG {a b : World} {row : Option Nat} (g : a.drew.grownBy b row) : a.grownBy b row := ⟨g.os, g.tape, g.output, g.size, g.block⟩

set_option maxHeartbeats 4000000 in
set_option maxRecDepth 100000 in
theorem mapFrom_step (n : Nat) (hF : FG n) : FM n := by
  intro w lo b ents ks vs hb hm hks hvals hkv hrise hsay hlen hksz
  obtain ⟨i0, hi0, hz0, hz1, hz2⟩ := info_parts Tryd.infoVal
  obtain ⟨i9, hi9, hy0, hy1, hy2⟩ := info_parts Tryd.infoStr
  obtain ⟨W, hW⟩ : ∃ W, W = (w.alloc (.cells #[.int .i64 0, .int .i64 0, .string ⟨#[]⟩, .slice none 0 0, .slice none 0 0, .slice none 0 0] 26)).alloc (.cells #[.int .i64 6, .int .i64 0, .string ⟨#[]⟩, .slice none 0 0, .slice none 0 0, .slice none 0 0] 26) := ⟨_, rfl⟩
  have bW : Below w.heap.size w W := by rw [hW]; exact Below.alloc (Below.alloc (Below.refl _ _) (Nat.le_refl _) _) (by simp) _
  have sW : W.heap.size = w.heap.size + 2 := by rw [hW]; simp
  have kb0 : Blk W w.heap.size 26 #[.int .i64 0, .int .i64 0, .string ⟨#[]⟩, .slice none 0 0, .slice none 0 0, .slice none 0 0] := by rw [hW]; exact (Blk.new w _ _).alloc _
  have kb1 : Blk W (w.heap.size + 1) 26 #[.int .i64 6, .int .i64 0, .string ⟨#[]⟩, .slice none 0 0, .slice none 0 0, .slice none 0 0] := by
    have k1 := Blk.new (w.alloc (.cells #[.int .i64 0, .int .i64 0, .string ⟨#[]⟩, .slice none 0 0, .slice none 0 0, .slice none 0 0] 26)) 26 #[.int .i64 6, .int .i64 0, .string ⟨#[]⟩, .slice none 0 0, .slice none 0 0, .slice none 0 0]
    have hsz : (w.alloc (.cells #[.int .i64 0, .int .i64 0, .string ⟨#[]⟩, .slice none 0 0, .slice none 0 0, .slice none 0 0] 26)).heap.size = w.heap.size + 1 := by simp
    rw [hsz] at k1
    rw [hW]; exact k1
  have hmW : MapIs W b ents := MapIs.only (P := fun _ => False) hm (Only.of_below bW (fun k hk _ => hk)) (fun h => h)
  have hel : ents.length = ks.length := by rw [← hks]; simp
  have hD : Maps.size (DataW.map (ents.map entL)) = ks.length := by rw [Maps.size_eq]; simp [hel]
  have hsrt := hide (sortedKeys_any b ents.length (DataW.map (ents.map entL)) Rv W hmW (by rw [hD]; unfold maxLen; omega) (by rw [hD]; omega))
  replace hmW := hide hmW
  replace hvals := hide hvals
  replace hsay := hide hsay
  replace hrise := hide hrise
  replace hks := hide hks
  replace hm := hide hm
  replace hksz := hide hksz
  replace bW := hide bW
  replace hi0 := hide hi0
  replace hz0 := hide hz0
  replace hz1 := hide hz1
  replace hz2 := hide hz2
  replace hi9 := hide hi9
  replace hy0 := hide hy0
  replace hy1 := hide hy1
  replace hy2 := hide hy2
  replace hkv := hide hkv
  replace hel := hide hel
  replace hD := hide hD
  replace sW := hide sW
  replace kb0 := hide kb0
  replace kb1 := hide kb1
  go_enter Tryd.func81, Tryd.ntmps81
  go_wp2_with fail
  rw [← hW]
  clear hW
  refine (mapsKeys_any (some b) W).mono ?_
  rintro e w' ⟨rfl, rfl⟩
  go_wp2_with fail
  refine hsrt.out.mono ?_
  rintro e W2 ⟨sv, ss, rfl, hperm, hrow, -, hb2⟩
  have hss : ss.mergeSort (fun x y => decide (x ≤ y)) = ks.map (fun k => k.data.toList) := by
    refine sorted_rise ?_ hrise.out.pair
    rw [strKeys_ents, hks.out] at hperm
    exact hperm
  have hsl : ss.length = ks.length := by
    rw [strKeys_ents, hks.out] at hperm
    rw [hperm.length_eq]; simp
  rw [hss, enc_keys, hsl] at hrow
  have hb2' : Below w.heap.size w W2 := bW.out.trans (((Below.refl _ W).alloc (Nat.le_refl _) _).trans (hb2.mono (by simp)) |>.mono bW.out.size)
  have kc0 : Blk W2 w.heap.size 26 #[.int .i64 0, .int .i64 0, .string ⟨#[]⟩, .slice none 0 0, .slice none 0 0, .slice none 0 0] := (kb0.out.alloc _).below hb2 (by have := sW.out; simp; omega)
  have kc1 : Blk W2 (w.heap.size + 1) 26 #[.int .i64 6, .int .i64 0, .string ⟨#[]⟩, .slice none 0 0, .slice none 0 0, .slice none 0 0] := (kb1.out.alloc _).below hb2 (by have := sW.out; simp; omega)
  have hs2 : w.heap.size + 1 < W2.heap.size := kc1.lt
  have hsvlt : ∀ k, sv.ownBlock = some k → w.heap.size + 2 < k + 1 ∧ k < W2.heap.size := fun k hk => by
    have := hrow.lt k hk
    have h3 := sW.out
    simp at this
    omega
  obtain ⟨sA, scap, rfl, hsc1, hsc2⟩ := own_slice hrow
  have hL0 : MFr n ks vs (w.heap.size + 1) W2 W2 0 (.slice none 0 0) (.slice none 0 0) [] := ⟨Only.refl _ _, kc1, World.ownsRow_nil _ _ _ _, World.ownsRow_nil _ _ _ _, fun i y hi => absurd hi (by omega)⟩
  replace hL0 := hide hL0
  replace hrow := hide hrow
  replace hb2' := hide hb2'
  replace kc0 := hide kc0
  replace kc1 := hide kc1
  replace hsvlt := hide hsvlt
  replace hsl := hide hsl
  clear hperm hss hb2
  go_wp2_with fail
  go_loopw [14] (fun s14 wr => ∃ (j : Nat) (kv vv : Value) (vcs : List Value), s14 = .int .i64 j ∧ j ≤ ks.length ∧ MFr n ks vs (w.heap.size + 1) W2 wr j kv vv vcs) (fun i _ => ks.length - (intOf i).toNat)
  case atStart => exact ⟨0, _, _, _, rfl, Nat.zero_le _, hL0.out⟩
  case round =>
    obtain ⟨j, kv, vv, vcs, rfl, hj, hl⟩ := hrel
    obtain ⟨p0, p1, p2, p3, p4, p5⟩ := blk_six hl.b1
    have hbw : Below w.heap.size w wr := hb2'.out.trans (hl.only.below (B := w.heap.size) (by intro k hk; omega) (by omega))
    have hswr := hl.only.size
    by_cases hjl : j < ks.length
    · obtain ⟨k, hkj⟩ : ∃ k, ks[j]? = some k := ⟨_, List.getElem?_eq_getElem hjl⟩
      obtain ⟨x, hxj⟩ : ∃ x, vs[j]? = some x := ⟨_, List.getElem?_eq_getElem (by have := hkv.out; omega)⟩
      obtain ⟨e, hej, hg⟩ := hvals.out j x hxj
      have hek : e.1 = k := by
        have h1 := hks.out
        have h2 : (ents.map (·.1))[j]? = some e.1 := by rw [List.getElem?_map, hej]; rfl
        rw [h1, hkj] at h2
        exact (Option.some.inj h2).symm
      have hmwr : MapIs wr b ents := MapIs.only (P := fun _ => False) hm.out (Only.of_below hbw (fun k hk _ => hk)) (fun h => h)
      have hksj := hksz.out k (List.mem_of_getElem? hkj)
      have hlk := lookup_ent hmwr (by rw [hks.out]; exact hrise.out) hej (by rw [hek]; exact hksj)
      rw [hek] at hlk
      have hgr := GAt.below hbw n hg
      have hsx := hsay.out x (List.mem_of_getElem? hxj)
      obtain ⟨sg, scap', hsA, _, _⟩ := hrow.out.form (by omega)
      have hsA2 : sA = some ⟨sg, 0, none⟩ := by injection hsA
      have hsg := hsvlt.out sg (by rw [hsA]; rfl)
      have hcell := hrow.out.cells (g := sg) (by rw [hsA]; rfl) j (.string k) (by rw [List.getElem?_map, hkj]; rfl)
      have hadd : (⟨sg, 0, none⟩ : Addr).add j = ⟨sg, j, none⟩ := by unfold Addr.add; split <;> simp_all
      rw [hadd] at hcell
      have hcell' := (World.cell?_of_block (a := ⟨sg, j, none⟩) (hl.only.block sg hsg.2 (by have := hsg.1; intro e; omega))).trans hcell
      rcases n with _ | m
      · exact hsx.elim
      have hf := hide (hF wr lo e.2 x hgr hsx)
      have hform := hgr.form
      subst hsA2
      obtain ⟨ev, hev⟩ : ∃ ev, ev = e.2 := ⟨_, rfl⟩
      rw [← hev] at hf hform hlk
      replace hl := hide hl
      replace hbw := hide hbw
      clear hg hgr hsx hmwr hcell hadd hsA hev hej
      replace hek := hide hek
      replace hkj' := hide hkj
      replace hxj' := hide hxj
      go_wp2_with fail
      refine hf.out.mono ?_
      rintro e' W1 ⟨r, rfl, b1, hr⟩
      have hr' := hide hr
      obtain ⟨la, lc, ka, kc, va, vc, rfl, -⟩ := hr
      have hs1 := b1.size
      have kk1 := hl.out.b1.below b1 (by omega)
      have hl1 := kk1.lt
      obtain ⟨p0, p1, p2, p3, p4, p5⟩ := blk_six kk1
      obtain ⟨V, hV⟩ : ∃ V, V = W1.alloc (.cells #[.int .i64 x.kind, .int .i64 x.half, .string x.text, .slice la x.list.length lc, .slice ka x.keys.length kc, .slice va x.vals.length vc] 26) := ⟨_, rfl⟩
      have kV1 : Blk V (w.heap.size + 1) 26 #[.int .i64 6, .int .i64 0, .string ⟨#[]⟩, .slice none 0 0, kv, vv] := by rw [hV]; exact kk1.alloc _
      have kVt : Blk V W1.heap.size 26 #[.int .i64 x.kind, .int .i64 x.half, .string x.text, .slice la x.list.length lc, .slice ka x.keys.length kc, .slice va x.vals.length vc] := by rw [hV]; exact Blk.new W1 _ _
      have sV : V.heap.size = W1.heap.size + 1 := by rw [hV]; simp
      have bV : Below W1.heap.size W1 V := by rw [hV]; exact Below.alloc (Below.refl _ _) (Nat.le_refl _) _
      have o1W := Only.own (P := fun _ => False) (Only.of_below b1 (fun k hk _ => hk)) hl.out.kown (fun _ _ h => h)
      have kownV : V.ownsRow W2.heap.size 9 1 kv j ((ks.take j).map Value.string) := by rw [hV]; exact o1W.alloc _
      have o2W := Only.own (P := fun _ => False) (Only.of_below b1 (fun k hk _ => hk)) hl.out.vown (fun _ _ h => h)
      have vownV : V.ownsRow W2.heap.size 26 6 vv j vcs := by rw [hV]; exact o2W.alloc _
      have kl := hl.out.kown.lt
      have vl := hl.out.vown.lt
      have gk1 : some (w.heap.size + 1) ≠ kv.ownBlock := fun e => by have := kl _ e.symm; omega
      have gv1 : some (w.heap.size + 1) ≠ vv.ownBlock := fun e => by have := vl _ e.symm; omega
      have gkt : some W1.heap.size ≠ kv.ownBlock := fun e => by have := kl _ e.symm; omega
      have gvt : some W1.heap.size ≠ vv.ownBlock := fun e => by have := vl _ e.symm; omega
      have hvk : vv.ownBlock = none ∨ vv.ownBlock ≠ kv.ownBlock := rows_ne hl.out.vown hl.out.kown (by decide)
      have hjl2 : j < vs.length := by have := hkv.out; omega
      have h63 : j + 1 ≤ maxLen := by unfold maxLen; omega
      have hby1 : (j + 1) * 16 ≤ 140737488355328 := by omega
      have hby2 : (j + 1) * 104 ≤ 140737488355328 := by omega
      have hgW2 : w.heap.size + 1 < W2.heap.size := hs2
      have X := hide (⟨gk1, gv1, gkt, fun b e => (kownV.lt b e).2, fun b e => (vownV.lt b e).2, hvk⟩ : Ctx8 V (w.heap.size + 1) W1.heap.size W2.heap.size kv vv)
      have hst := hide (⟨⟨rfl, rfl, rfl, Nat.le_refl _, fun _ _ => rfl⟩, kownV⟩ : Below V.heap.size V V.drew ∧ V.drew.ownsRow W2.heap.size 9 1 kv j ((ks.take j).map Value.string))
      have hea := hide (⟨kV1, kVt, vownV, Nat.le_refl _⟩ : Early V (w.heap.size + 1) W1.heap.size W2.heap.size j kv vv vcs (.int .i64 x.kind) (.int .i64 x.half) (.string x.text) (.slice la x.list.length lc) (.slice ka x.keys.length kc) (.slice va x.vals.length vc) V.drew)
      have hbase : W2.heap.size ≤ V.heap.size := by omega
      clear kl vl gk1 gv1 gkt gvt hvk kownV vownV kVt kV1 o1W o2W
      replace h63 := hide h63
      replace hby1 := hide hby1
      replace hby2 := hide hby2
      replace hbase := hide hbase
      replace bV := hide bV
      replace kk1 := hide kk1
      replace b1 := hide b1
      replace sV := hide sV
      go_upto_region 8 with fail
      rw [← hV]
      clear hV
      obtain ⟨ksT, hksT⟩ : ∃ ksT, ksT = (ks.take j).map Value.string := ⟨_, rfl⟩
      rw [← hksT] at hst
      replace hksT := hide hksT
      refine wp_region_inv (by kernel_rfl) (fun listed a w' => ∃ s28 s29 s30 s31 s32 s33 s34 s35 s36 s37 s38 s39, a = (⟨#[.map (some b), undef, .pointer (some ⟨w.heap.size, 0, none⟩), u3, .pointer (some ⟨w.heap.size + 1, 0, none⟩), undef, .string k, .pointer (some ⟨W1.heap.size, 0, none⟩), .bool true, .agg #[.int .i64 6, .int .i64 0, .string ⟨#[]⟩, .slice none 0 0, .slice none 0 0, .slice none 0 0], .map (some b), .func (.func 115) #[] #[.pointer (some ⟨W.heap.size, 0, none⟩)], .slice (some ⟨sg, 0, none⟩) ks.length scap, .int .i64 ks.length, .int .i64 j, .bool true, .pointer (some ⟨sg, j, none⟩), .string k, .tuple #[.agg #[.int .i64 x.kind, .int .i64 x.half, .string x.text, .slice la x.list.length lc, .slice ka x.keys.length kc, .slice va x.vals.length vc], .bool true], .map (some b), .string k, ev, .tuple #[.agg #[.int .i64 x.kind, .int .i64 x.half, .string x.text, .slice la x.list.length lc, .slice ka x.keys.length kc, .slice va x.vals.length vc], .bool true], .agg #[.int .i64 x.kind, .int .i64 x.half, .string x.text, .slice la x.list.length lc, .slice ka x.keys.length kc, .slice va x.vals.length vc], .bool true, .bool true, .bool false, u27, s28, s29, s30, s31, s32, s33, s34, s35, s36, s37, s38, s39, u40, undef], []⟩ : Act) ∧ Reg8 V (w.heap.size + 1) W1.heap.size W2.heap.size j kv vv k ksT vcs (.int .i64 x.kind) (.int .i64 x.half) (.string x.text) (.slice la x.list.length lc) (.slice ka x.keys.length kc) (.slice va x.vals.length vc) listed w' s28 s29 s30 s31 s32 s33 s34 s35 s36 s37 s38 s39) ?_ ?_ ?_
      · exact ⟨_, _, _, _, _, _, _, _, _, _, _, _, rfl, Reg8.start _ _ _ _ _ _ _ _ _ _ _ _ _ _ _ _ _ _ _ _ _ _ _ _ _ _ _ _ hst.out hea.out⟩
      · rintro listed a w' i ⟨s28, s29, s30, s31, s32, s33, s34, s35, s36, s37, s38, s39, rfl, H⟩ hi
        have hun := Up.no (Up.un hi)
        have hlt14 : i < 14 := by
          obtain ⟨-, o, ho, -⟩ := mem_ready.1 hi
          rcases Nat.lt_or_ge i 14 with h | h
          · exact h
          · rw [Array.getElem?_eq_none (by exact h)] at ho
            cases ho
        have hi14 : i = 0 ∨ i = 1 ∨ i = 2 ∨ i = 3 ∨ i = 4 ∨ i = 5 ∨ i = 6 ∨ i = 7 ∨ i = 8 ∨ i = 9 ∨ i = 10 ∨ i = 11 ∨ i = 12 ∨ i = 13 := by omega
        rcases hi14 with rfl | rfl | rfl | rfl | rfl | rfl | rfl | rfl | rfl | rfl | rfl | rfl | rfl | rfl
        · replace H := hide H
          replace hi := hide hi
          replace hun := hide hun
          refine wpOp_of_list rfl ?_
          go_wp2_with fail
          refine Then.normal ⟨_, _, _, _, _, _, _, _, _, _, _, _, rfl, H.out.s0⟩
        · have hno9 : ¬ Up listed 9 := fun h => hun (H.o4 (H.o9 h).1).1
          obtain rfl := H.f0 (Up.waits hi 0 (by kernel_rfl))
          obtain ⟨eg, et, -, -⟩ := H.e hno9
          have lg := eg.lt
          have lt := et.lt
          obtain ⟨y0, y1, y2, y3, y4, y5⟩ := blk_six eg
          obtain ⟨t0, t1, t2, t3, t4, t5⟩ := blk_six et
          clear eg et
          replace H := hide H
          replace hi := hide hi
          replace hun := hide hun
          refine wpOp_of_list rfl ?_
          go_wp2_with fail
          refine Then.normal ⟨_, _, _, _, _, _, _, _, _, _, _, _, rfl, H.out.s1⟩
        · replace H := hide H
          replace hi := hide hi
          replace hun := hide hun
          refine wpOp_of_list rfl ?_
          go_wp2_with fail
          refine Then.normal ⟨_, _, _, _, _, _, _, _, _, _, _, _, rfl, H.out.s2⟩
        · have hno9 : ¬ Up listed 9 := fun h => hun (H.o4 (H.o9 h).1).2
          obtain rfl := H.f2 (Up.waits hi 2 (by kernel_rfl))
          replace H := hide H
          replace hi := hide hi
          replace hun := hide hun
          replace hno9 := hide hno9
          refine wpOp_of_list rfl ?_
          go_wp2_with fail
          refine Then.normal ⟨_, _, _, _, _, _, _, _, _, _, _, _, rfl, H.out.s3 hno9.out⟩
        · have hw1 := Up.waits hi 1 (by kernel_rfl)
          have hw3 := Up.waits hi 3 (by kernel_rfl)
          obtain rfl := H.f1 hw1
          obtain ⟨b3, rfl, hb3, kb3⟩ := H.f3 hw3
          have hbs : W2.heap.size ≤ w'.heap.size := Nat.le_trans hbase.out (H.a hun).1.size
          refine wpOp_of_list rfl ?_
          refine wpList_append_any _ rfl (.tmp 29) (.tmp 31) 24 rfl W2.heap.size 9 i9 _ 1 16 Tryd.underlying24 hi9.out hy0.out hy1.out hy2.out rfl (Nat.zero_lt_succ 0) _ j ksT rfl (H.a hun).2 (b3 + 1) (some ⟨b3, 0, none⟩) 1 1 [.string k] rfl (reads_blk1 (kb3 hun)) (str_one k) h63.out hby1.out hbs ?_
          intro kv2 w2 own2 g2 l2
          refine Then.normal ⟨_, _, _, _, _, _, _, _, _, _, _, _, rfl, H.s4 X.out hun hw1 hw3 g2 l2 own2⟩
        · replace H := hide H
          replace hi := hide hi
          replace hun := hide hun
          refine wpOp_of_list rfl ?_
          go_wp2_with fail
          refine Then.normal ⟨_, _, _, _, _, _, _, _, _, _, _, _, rfl, H.out.s5⟩
        · have hno9 : ¬ Up listed 9 := fun h => hun (H.o9 h).2.1
          obtain rfl := H.f5 (Up.waits hi 5 (by kernel_rfl))
          obtain ⟨eg, et, -, -⟩ := H.e hno9
          have lg := eg.lt
          have lt := et.lt
          obtain ⟨y0, y1, y2, y3, y4, y5⟩ := blk_six eg
          obtain ⟨t0, t1, t2, t3, t4, t5⟩ := blk_six et
          clear eg et
          replace H := hide H
          replace hi := hide hi
          replace hun := hide hun
          refine wpOp_of_list rfl ?_
          go_wp2_with fail
          refine Then.normal ⟨_, _, _, _, _, _, _, _, _, _, _, _, rfl, H.out.s6⟩
        · have hno9 : ¬ Up listed 9 := fun h => hun (H.o8 (H.o9 h).2.2)
          obtain ⟨eg, et, -, -⟩ := H.e hno9
          have lg := eg.lt
          have lt := et.lt
          obtain ⟨y0, y1, y2, y3, y4, y5⟩ := blk_six eg
          obtain ⟨t0, t1, t2, t3, t4, t5⟩ := blk_six et
          clear eg et
          replace H := hide H
          replace hi := hide hi
          replace hun := hide hun
          refine wpOp_of_list rfl ?_
          go_wp2_with fail
          refine Then.normal ⟨_, _, _, _, _, _, _, _, _, _, _, _, rfl, H.out.s7⟩
        · have hno9 : ¬ Up listed 9 := fun h => hun (H.o9 h).2.2
          have hw7 := Up.waits hi 7 (by kernel_rfl)
          obtain rfl := H.f7 hw7
          replace H := hide H
          replace hi := hide hi
          replace hun := hide hun
          replace hno9 := hide hno9
          replace hw7 := hide hw7
          refine wpOp_of_list rfl ?_
          go_wp2_with fail
          refine Then.normal ⟨_, _, _, _, _, _, _, _, _, _, _, _, rfl, H.out.s8 hno9.out hw7.out⟩
        · have hw4 := Up.waits hi 4 (by kernel_rfl)
          have hw6 := Up.waits hi 6 (by kernel_rfl)
          have hw8 := Up.waits hi 8 (by kernel_rfl)
          obtain rfl := H.f6 hw6
          obtain ⟨b3, rfl, hb3, kb3⟩ := H.f8 hw8
          have hbs : W2.heap.size ≤ w'.heap.size := Nat.le_trans hbase.out (H.e hun).2.2.2
          refine wpOp_of_list rfl ?_
          refine wpList_append_any _ rfl (.tmp 34) (.tmp 36) 23 rfl W2.heap.size 26 i0 _ 6 104 Tryd.underlying23 hi0.out hz0.out hz1.out hz2.out rfl (Nat.zero_lt_succ 5) _ j vcs rfl (H.e hun).2.2.1 (b3 + 1) (some ⟨b3, 0, none⟩) 1 1 [.int .i64 x.kind, .int .i64 x.half, .string x.text, .slice la x.list.length lc, .slice ka x.keys.length kc, .slice va x.vals.length vc] rfl (reads_blk6 (kb3 hun)) (six_one _ _ _ _ _ _ _ _ _ _ _ _) h63.out hby2.out hbs ?_
          intro vv2 w2 own2 g2 l2
          refine Then.normal ⟨_, _, _, _, _, _, _, _, _, _, _, _, rfl, H.s9 X.out hun hw4 hw6 hw8 g2 l2 own2⟩
        · replace H := hide H
          replace hi := hide hi
          replace hun := hide hun
          refine wpOp_of_list rfl ?_
          go_wp2_with fail
          refine Then.normal ⟨_, _, _, _, _, _, _, _, _, _, _, _, rfl, H.out.s10⟩
        · have hw9 := Up.waits hi 9 (by kernel_rfl)
          obtain rfl := H.f10 (Up.waits hi 10 (by kernel_rfl))
          obtain ⟨Yd, ⟨Yc, ⟨Ya, Yb, -, -, -, o1, -⟩, -, -, o2⟩, kd, ht⟩ := H.c hw9
          obtain rfl := (ht.1 hun).symm
          obtain ⟨kg, kcap, rfl, -, -⟩ := o1.form (Nat.succ_pos _)
          have lg := kd.lt
          obtain ⟨y0, y1, y2, y3, y4, y5⟩ := blk_six kd
          have fz := kd.frozen 4
          clear kd ht o1 o2
          replace hw9 := hide hw9
          replace H := hide H
          replace hi := hide hi
          replace hun := hide hun
          refine wpOp_of_list rfl ?_
          go_wp2_with fail
          refine Then.normal ⟨_, _, _, _, _, _, _, _, _, _, _, _, rfl, H.out.s11 hun.out hw9.out⟩
        · replace H := hide H
          replace hi := hide hi
          replace hun := hide hun
          refine wpOp_of_list rfl ?_
          go_wp2_with fail
          refine Then.normal ⟨_, _, _, _, _, _, _, _, _, _, _, _, rfl, H.out.s12⟩
        · have hw11 := Up.waits hi 11 (by kernel_rfl)
          have hw9 := H.o11 hw11
          obtain rfl := H.f12 (Up.waits hi 12 (by kernel_rfl))
          obtain ⟨Yd, ⟨Yc, ⟨Ya, Yb, -, -, -, o1, -⟩, -, -, o2⟩, kd, ht⟩ := H.c hw9
          have kw : Blk w' (w.heap.size + 1) 26 (#[.int .i64 6, .int .i64 0, .string ⟨#[]⟩, .slice none 0 0, kv, vv].setIfInBounds 4 s32) := by rw [ht.2.1 hw11 hun]; exact kd.set_ 4 s32
          simp only [List.setIfInBounds_toArray, List.set_cons_succ, List.set_cons_zero] at kw
          obtain ⟨kg, kcap, rfl, -, -⟩ := o2.form (Nat.succ_pos _)
          have lg := kw.lt
          obtain ⟨y0, y1, y2, y3, y4, y5⟩ := blk_six kw
          have fz := kw.frozen 5
          clear kd ht o1 o2 kw
          replace hw9 := hide hw9
          replace hw11 := hide hw11
          replace H := hide H
          replace hi := hide hi
          replace hun := hide hun
          refine wpOp_of_list rfl ?_
          go_wp2_with fail
          refine Then.normal ⟨_, _, _, _, _, _, _, _, _, _, _, _, rfl, H.out.s13 hun.out hw9.out hw11.out⟩
      · rintro listed a w5 ⟨s28, s29, s30, s31, s32, s33, s34, s35, s36, s37, s38, s39, rfl, H⟩ hi
        have hall := Up.all H.size (by kernel_rfl) hi
        obtain ⟨Yd, ⟨Yc, ⟨Ya, Yb, h1, g1, l1, o1, h2⟩, g2, l2, o2⟩, kd, ht⟩ := H.c (hall 9 (by decide))
        rw [hksT.out] at o1
        have hnx := hide (MFr.next hl.out hs2 b1.out hr'.out (bV.out.trans (h1.mono bV.out.size)) g1 l1 o1 h2 g2 l2 o2 hkj'.out hxj'.out)
        rw [← ht.2.2 (hall 13 (by decide))] at hnx
        clear H hall hi h1 g1 l1 o1 h2 g2 l2 o2 kd ht
        go_wp2_with fail
        go_roundw
        case rel => exact ⟨j + 1, _, _, _, by go_num, by omega, hnx.out⟩
        case measure => simp [intOf]; omega
    · obtain rfl : j = ks.length := by omega
      have hlen := hkv.out
      have kown := hl.kown
      rw [List.take_length] at kown
      obtain ⟨kA, kcap, rfl, hk1, hk2⟩ := own_slice hl.kown
      obtain ⟨vA, vcap, rfl, hv1, hv2⟩ := own_slice hl.vown
      have hv : VecP (JP wr (Mid W2.heap.size wr.heap.size) n) wr (Mid W2.heap.size wr.heap.size) vA vs := by
        have h1 := hl.vals
        have h2 := hl.vown
        rw [hlen] at h1 h2
        exact h1.vec h2 rfl
      have hs : StrsP wr (Mid W2.heap.size wr.heap.size) kA ks := by
        refine ⟨hksz.out, fun h0 => ?_⟩
        obtain ⟨kg, kc', e, h1, h2⟩ := kown.form (by omega)
        have e1 : kA = some ⟨kg, 0, none⟩ := by injection e
        refine ⟨kg, 0, e1, ⟨h1, h2⟩, fun i s hs => ?_⟩
        have hc := kown.cells (g := kg) (by rw [e]; rfl) i (.string s) (by rw [List.getElem?_map, hs]; rfl)
        have hadd : (⟨kg, 0, none⟩ : Addr).add i = ⟨kg, i, none⟩ := by unfold Addr.add; split <;> simp_all
        rw [hadd] at hc
        rw [Nat.zero_add]
        exact hc
      have k0 : Blk wr w.heap.size 26 #[.int .i64 0, .int .i64 0, .string ⟨#[]⟩, .slice none 0 0, .slice none 0 0, .slice none 0 0] := hl.only.blk kc0.out (by omega)
      have hsz := hbw.size
      have hsW := hl.only.size
      replace hv := hide hv
      replace hs := hide hs
      replace k0 := hide k0
      replace hl := hide hl
      replace hbw := hide hbw
      replace hlen := hide hlen
      replace kown := hide kown
      go_wp2_with (refine wpList_store_blk rfl 26 (.tmp 2) (.tmp 41) rfl w.heap.size _ rfl rfl 26 _ k0.out val_size rfl (val_one _ _ _ _ _ _ _ _ _ _ _ _) ?_; intro W3 k3 o3 s3; have o3' := hide o3; have k3' := hide k3; have s3' := hide s3; clear o3 k3 s3)
      obtain ⟨q0, q1, q2, q3, q4, q5⟩ := blk_six k3'.out
      refine bodyPost_ret (v := .tuple #[.agg #[.int .i64 6, .int .i64 0, .string ⟨#[]⟩, .slice none 0 0, .slice kA ks.length kcap, .slice vA ks.length vcap], .bool true]) (by simp [results, Tryd.results81, go_sem, q0, q1, q2, q3, q4, q5]) rfl ⟨_, rfl, hbw.out.trans (o3'.out.below (by intro k hk; omega) hbw.out.size), ?_⟩
      have kc : ∀ p : Addr, Mid W2.heap.size wr.heap.size p.block → W3.cell? p = wr.cell? p := fun p hp => World.cell?_of_block (o3'.out.block _ hp.2 (by intro e; have := hp.1; omega))
      have kb : ∀ b, Mid W2.heap.size wr.heap.size b → Mid w.heap.size W3.heap.size b := fun b hb => ⟨by have := hb.1; omega, by have := hb.2; rw [s3'.out]; exact this⟩
      have hlen := hlen.out
      unfold maxLen at hk2 hv2
      refine ⟨none, 0, kA, kcap, vA, vcap, ?_, Nat.le_refl _, hk1, ?_, by omega, by omega, by omega, by show (⟨#[]⟩ : ByteArray).size ≤ 9223372036854775807; decide, by show (-9223372036854775808 : Int) ≤ 6 ∧ (6 : Int) ≤ 9223372036854775807; decide, by show (-9223372036854775808 : Int) ≤ 0 ∧ (0 : Int) ≤ 9223372036854775807; decide, fun h => absurd h (by show ¬ 0 < 0; omega), hs.out.keep kc kb, ?_⟩
      · exact congrArg (fun m => Value.agg #[.int .i64 6, .int .i64 0, .string ⟨#[]⟩, .slice none 0 0, .slice kA ks.length kcap, .slice vA m vcap]) hlen
      · show vs.length ≤ vcap
        omega
      · exact hv.out.keep kc kb (fun x v h => JP.keep kc kb n x v h)
end Go.Proofs.YtmkdkcbkgngfdaaDoor
