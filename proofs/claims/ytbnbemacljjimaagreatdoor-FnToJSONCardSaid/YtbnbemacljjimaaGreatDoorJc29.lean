/- Normal at objects (printed by mknqi.py). -/
import Derived.Test.YtbnbemacljjimaaGreatDoorJc28
namespace Go.Proofs.YtbnbemacljjimaaGreatDoor
open Go.RowKit Go.Lib
set_option linter.unusedVariables false

set_option maxHeartbeats 16000000 in
set_option maxRecDepth 100000 in
theorem nm_obj {ks ks' : List QV} {M : Nat} (hM : ks.length = 2 * M) (hops : ∀ q ∈ ks, ¬ q.op = opText ∧ ¬ q.op = opNone) (hl : ks.length = ks'.length) (hN4 : ks.length ≤ 1000000) (hS : ∀ (i : Nat) (k k' : QV), ks[i]? = some k → ks'[i]? = some k' → NmSays k k') : NmSays (ofQ opObj ks) (ofQ opObj ks') := by
  intro w x hx
  obtain ⟨la, lc, ka, kc, va, vc, A0, c0, rfl, -, hc1, hc2, hv⟩ := hx.ofp
  obtain ⟨i0, hi0, hz0, hz1, hz2⟩ := info_parts Tryz.infoQ
  clear hx
  have hfull := fun w' (hv' : VecQ w' (· < w.heap.size) A0 ks) (hw' : w.heap.size ≤ w'.heap.size) => full_any hM hN4 hops w' (· < w.heap.size) (fun b h => by have h' : b < w.heap.size := h; omega) A0 c0 hc1 hc2 hv'
  obtain ⟨N, hN⟩ : ∃ N, ks.length = N := ⟨_, rfl⟩
  rw [hN] at hN4 hc1 hl hM hfull ⊢
  replace hfull := hide hfull
  replace hops := hide hops
  replace hM := hide hM
  replace hv := hide hv
  replace hl := hide hl
  replace hN := hide hN
  replace hS := hide hS
  replace hi0 := hide hi0
  replace hz0 := hide hz0
  replace hz1 := hide hz1
  replace hz2 := hide hz2
  obtain ⟨W0, hW0, o0, k0, z0, s0⟩ := nm_open w #[.string opObj, .string ⟨#[]⟩, .int .i64 0, .int .i64 0, .string ⟨#[]⟩, .slice la 0 lc, .slice ka 0 kc, .slice va 0 vc, .slice A0 N c0, .slice none 0 0, .slice none 0 0, .slice none 0 0]
  have q0 := z0.out.cell 0
  simp at q0
  unfold opObj at q0
  unfold opObj zC at hW0
  replace s0 := hide s0
  unfold opObj
  go_enter Tryz.func13, Tryz.ntmps13
  go_upto_region 1 with fail
  rw [← hW0]
  clear hW0
  go_upto_region 11 with (first
    | (go_at_call 33; refine (of_any W0 opObj none 0 0).mono ?_; rintro e W1 ⟨rfl, b1⟩; have o1 := hide (only_below b1); clear b1)
    | (refine wpList_store_blk rfl _ _ _ rfl W1.heap.size (ofC opObj none 0 0).toArray rfl rfl 41 _ (Blk.new W1 _ _) q_size rfl (by simp [ofC, Value.oneCell']) ?_; intro W2 k2 o2 s2; replace k2 := hide k2; replace o2 := hide (only_new o2); replace s2 := hide s2))
  obtain ⟨G, hG⟩ : ∃ G, W1.heap.size = G := ⟨_, rfl⟩
  have hGw : w.heap.size + 1 < G := by have := s0.out; have := o1.out.size; omega
  rw [hG] at k2 ⊢
  have z2 := hide (o2.out.blk (o1.out.blk z0.out (fun h => h)) (fun h => h))
  have r2 := hide (o2.out.blk (o1.out.blk k0.out (fun h => h)) (fun h => h))
  have hGW2 : G < W2.heap.size := k2.out.lt
  have hww2 : Only (fun _ => False) w W2 := (o0.out.trans o1.out).trans o2.out
  have hwW2 := hww2.size
  have hv2 := hide (hv.out.only hww2 (fun _ _ _ h => h) (P' := (· < w.heap.size)) (fun b _ h => h))
  have q8 := z2.out.cell 8
  simp at q8
  replace hG := hide hG
  replace hww2 := hide hww2
  go_upto_region 12 with (go_at_call 34; refine (hfull.out W2 hv2.out hwW2).mono ?_; rintro e W3 ⟨A1, c1, rfl, hrw, b3⟩; have o3 := hide (only_below b3); replace hrw := hide hrw; clear b3)
  have z3 := hide (o3.out.blk z2.out (fun h => h))
  have r3 := hide (o3.out.blk r2.out (fun h => h))
  have k3 := hide (o3.out.blk k2.out (fun h => h))
  have hs3 := o3.out.size
  obtain ⟨Z, hZ⟩ : ∃ Z, W3.heap.size = Z := ⟨_, rfl⟩
  have hGZ : G < Z := by omega
  replace hZ := hide hZ
  obtain ⟨xs1, own1, row1⟩ := hrw.out
  rw [hN.out] at own1
  replace own1 := hide own1
  replace row1 := hide row1
  go_wp2_with fail
  go_loopw [5] (fun s5 wr => ∃ (j : Nat) (A : Option Addr) (c : Nat) (xs : List Value), s5 = .int .i64 (j : Int) ∧ j ≤ N ∧ Blk wr G 41 (ofC opObj A j c).toArray ∧ ApS wr (w.heap.size + 2) Z G j c A xs (ks'.take j) ∧ Only (fun k => k = G ∨ Z ≤ k) W3 wr) (fun i _ => N - (Lib.intOf i).toNat)
  case atStart => exact ⟨0, none, 0, [], rfl, Nat.zero_le _, k3.out, ⟨World.ownsRow_nil _ _ _ _, rfl⟩, Only.refl _ _⟩
  case round =>
    obtain ⟨j, A, c, xs, rfl, hj, kG, HA, ho⟩ := hrel
    have hcw := hide ((hww2.out.trans o3.out).no.trans ho)
    have hzr := hide (ho.blk z3.out (by omega))
    have hrr := hide (ho.blk r3.out (by omega))
    have hGwr := kG.lt
    have hBwr : w.heap.size ≤ wr.heap.size := hcw.out.size
    have hZwr : Z ≤ wr.heap.size := by have := ho.size; have := hZ.out; omega
    clear q0 q8
    by_cases hjN : j < N
    · obtain ⟨L, cL, hL1, hL2, hL3⟩ := own1.out.form (by omega)
      injection hL1 with hL1 _ hL4
      subst hL1
      subst hL4
      have hLZ : L < Z := by have := hZ.out; omega
      obtain ⟨qa, hqa⟩ : ∃ q, ks[j]? = some q := ⟨_, List.getElem?_eq_getElem (by rw [hN.out]; omega)⟩
      obtain ⟨qb, hqb⟩ : ∃ q, ks'[j]? = some q := ⟨_, List.getElem?_eq_getElem (by rw [← hl.out]; omega)⟩
      obtain ⟨y, hy, hcy'⟩ := row1.out.get j qa hqa
      have hys := hide hy.len
      have hcy : ∀ j' u, y[j']? = some u → W3.cell? ⟨L, j * 12 + j', none⟩ = some u := fun j' u hu => by
        have hj' := (List.getElem?_eq_some_iff.1 hu).1
        rw [hys.out] at hj'
        rw [own1.out.cellAt (j * 12 + j') (by omega)]
        exact hcy' j' u hu
      have hSi := hide (hS.out j qa qb hqa hqb)
      have htk : ks'.take (j + 1) = ks'.take j ++ [qb] := by rw [List.take_add_one, hqb]; rfl
      replace htk := hide htk
      replace hqa := hide hqa
      replace hqb := hide hqb
      replace hcy := hide hcy
      replace hy := hide hy
      replace kG := hide kG
      replace HA := hide HA
      replace ho := hide ho
      have hLW3 : L < W3.heap.size := by have := hZ.out; omega
      clear hcy'
      go_upto_region 15 with fail
      refine wp_region_inv (by kernel_rfl) (fun listed a w' => ∃ (s52 s53 s54 s55 s56 s57 s58 s59 s60 s61 : Value), a = ⟨#[.agg #[.string ⟨#[111, 98, 106, 101, 99, 116]⟩, .string ⟨#[]⟩, .int .i64 0, .int .i64 0, .string ⟨#[]⟩, .slice la 0 lc, .slice ka 0 kc, .slice va 0 vc, .slice A0 N c0, .slice none 0 0, .slice none 0 0, .slice none 0 0], .pointer (some ⟨w.heap.size, 0, none⟩), .pointer (some ⟨w.heap.size + 1, 0, none⟩), .pointer (some ⟨G, 0, none⟩), .slice (some ⟨L, 0, none⟩) N c1, .int .i64 ↑j, undef, undef, undef, undef, undef, undef, undef, .pointer (some ⟨w.heap.size, 0, none⟩), .string ⟨#[111, 98, 106, 101, 99, 116]⟩, .bool false, .bool false, undef, undef, undef, .bool false, .bool false, undef, .bool false, .bool false, undef, undef, undef, undef, undef, undef, undef, undef, undef, undef, undef, undef, undef, undef, undef, .bool true, .bool true, .agg (ofC opObj none 0 0).toArray, .pointer (some ⟨w.heap.size, 8, none⟩), .slice A0 N c0, .slice (some ⟨L, 0, none⟩) N c1, .int .i64 ↑j, .slice (some ⟨L, 0, none⟩) N c1, .int .i64 ↑N, .bool true, u50, u51, s52, s53, s54, s55, s56, s57, s58, s59, s60, s61, undef, undef, undef, undef, undef, undef, undef, undef, undef, undef, undef, undef, undef, undef, undef, undef, undef, undef, undef, undef, undef, undef, undef, undef, undef, undef, undef, undef, undef, undef, undef, undef, undef, undef, undef, undef, undef, undef, undef, undef, undef, undef, undef, undef, undef, undef, undef, undef, undef, undef, undef, undef, undef, undef, undef, undef, undef, undef, undef, undef, undef, undef, undef, undef, undef, undef, undef, undef, undef, undef, undef, undef, undef, undef, undef, undef, undef, undef, undef, undef, undef, undef, undef, undef, undef, undef, undef, undef, undef, undef, undef, undef, undef, undef, undef, undef, undef, undef, undef, undef, undef, undef, undef, undef, undef, undef, undef, undef, undef, undef, undef, undef], []⟩ ∧ listed.size = 11 ∧ Lv listed [s52, s53, s54, s55, s56, s57, .bool true, .bool true, .bool true, s61, .bool true] [.pointer (some ⟨G, 8, none⟩), .slice A j c, .slice (some ⟨L, 0, none⟩) N c1, .int .i64 ↑j, .pointer (some ⟨L, j * 12, none⟩), .agg y.toArray, .bool true, .bool true, .bool true, .pointer (some ⟨G, 8, none⟩), .bool true] ∧ ApW wr G (w.heap.size + 2) Z j 1 c A xs (ks'.take j) [qb] opObj 1 6 7 8 10 qb listed w' s58 s59 s60) ?start ?step ?stop
      case start => exact ⟨_, _, _, _, _, _, _, _, _, _, rfl, rfl, Lv.start, ApW.start kG.out HA.out⟩
      case step =>
        rintro listed a w' i ⟨s52, s53, s54, s55, s56, s57, s58, s59, s60, s61, rfl, hsz, HL, H⟩ hi
        have hun := Up.un hi
        have hltn : i < 11 := by
          obtain ⟨-, o, ho, -⟩ := mem_ready.1 hi
          rcases Nat.lt_or_ge i 11 with h | h
          · exact h
          · rw [Array.getElem?_eq_none (by exact h)] at ho
            cases ho
        have hsz2 : ∀ i, (listed.setIfInBounds i true).size = 11 := fun i => by rw [Array.size_setIfInBounds]; exact hsz
        replace hsz2 := hide hsz2
        have hin : i = 0 ∨ i = 1 ∨ i = 2 ∨ i = 3 ∨ i = 4 ∨ i = 5 ∨ i = 6 ∨ i = 7 ∨ i = 8 ∨ i = 9 ∨ i = 10 := by omega
        clear hltn
        rcases hin with rfl | rfl | rfl | rfl | rfl | rfl | rfl | rfl | rfl | rfl | rfl
        · replace H := hide H
          replace HL := hide HL
          replace hi := hide hi
          replace hun := hide hun
          replace hsz := hide hsz
          refine wpOp_of_list rfl ?_
          go_wp2_with fail
          exact Then.normal ⟨_, _, _, _, _, _, _, _, _, _, rfl, (by first | exact hsz2.out _ | exact hsz.out), HL.out.put 0 rfl, H.out.put 0 rfl rfl rfl rfl⟩
        · obtain rfl := HL.get 0 rfl rfl (Up.waits hi 0 (by kernel_rfl))
          have kq := H.kg (fun h => Up.no hun (H.el (H.e3 h)))
          have q8 := kq.cell 8
          simp [ofC] at q8
          replace kq := hide kq
          replace H := hide H
          replace HL := hide HL
          replace hi := hide hi
          replace hun := hide hun
          replace hsz := hide hsz
          refine wpOp_of_list rfl ?_
          go_wp2_with fail
          exact Then.normal ⟨_, _, _, _, _, _, _, _, _, _, rfl, (by first | exact hsz2.out _ | exact hsz.out), HL.out.put 1 rfl, H.out.put 1 rfl rfl rfl rfl⟩
        · replace H := hide H
          replace HL := hide HL
          replace hi := hide hi
          replace hun := hide hun
          replace hsz := hide hsz
          refine wpOp_of_list rfl ?_
          go_wp2_with fail
          exact Then.normal ⟨_, _, _, _, _, _, _, _, _, _, rfl, (by first | exact hsz2.out _ | exact hsz.out), HL.out.put 2 rfl, H.out.put 2 rfl rfl rfl rfl⟩
        · replace H := hide H
          replace HL := hide HL
          replace hi := hide hi
          replace hun := hide hun
          replace hsz := hide hsz
          refine wpOp_of_list rfl ?_
          go_wp2_with fail
          exact Then.normal ⟨_, _, _, _, _, _, _, _, _, _, rfl, (by first | exact hsz2.out _ | exact hsz.out), HL.out.put 3 rfl, H.out.put 3 rfl rfl rfl rfl⟩
        · obtain rfl := HL.get 2 rfl rfl (Up.waits hi 2 (by kernel_rfl))
          obtain rfl := HL.get 3 rfl rfl (Up.waits hi 3 (by kernel_rfl))
          replace H := hide H
          replace HL := hide HL
          replace hi := hide hi
          replace hun := hide hun
          replace hsz := hide hsz
          refine wpOp_of_list rfl ?_
          go_wp2_with fail
          exact Then.normal ⟨_, _, _, _, _, _, _, _, _, _, rfl, (by first | exact hsz2.out _ | exact hsz.out), HL.out.put 4 rfl, H.out.put 4 rfl rfl rfl rfl⟩
        · obtain rfl := HL.get 4 rfl rfl (Up.waits hi 4 (by kernel_rfl))
          have hcl : ∀ j' z, y[j']? = some z → w'.cell? ((⟨L, j * 12, none⟩ : Addr).add j') = some z := fun j' z hz => by rw [add_flat, only_cell (ho.out.trans H.onl) (⟨L, j * 12 + j', none⟩ : Addr) (fun h => by have h' : L = G ∨ Z ≤ L := h; omega) hLW3]; exact hcy.out j' z hz
          replace hcl := hide hcl
          replace H := hide H
          replace HL := hide HL
          replace hi := hide hi
          replace hun := hide hun
          replace hsz := hide hsz
          refine wpOp_of_list rfl ?_
          go_wp2_with (refine wpList_load_at rfl _ _ rfl ⟨L, j * 12, none⟩ rfl y _ hcl.out Tryz.underlying41 rfl (by rw [hys.out]; exact q_size) ?_)
          exact Then.normal ⟨_, _, _, _, _, _, _, _, _, _, rfl, (by first | exact hsz2.out _ | exact hsz.out), HL.out.put 5 rfl, H.out.put 5 rfl rfl rfl rfl⟩
        · obtain rfl := HL.get 5 rfl rfl (Up.waits hi 5 (by kernel_rfl))
          have hyx := hide (hy.out.only (ho.out.trans H.onl) (fun b h1 _ h2 => by have h1' : b < w.heap.size := h1; have h2' : b = G ∨ Z ≤ b := h2; omega) (P' := (· < w'.heap.size)) (fun b _ h => by have h1' : b < w.heap.size := h; have := H.onl.size; show b < w'.heap.size; omega))
          replace H := hide H
          replace HL := hide HL
          replace hi := hide hi
          replace hun := hide hun
          replace hsz := hide hsz
          refine wpOp_of_list rfl ?_
          go_wp2_with (go_at_call 13; refine (hSi.out w' y hyx.out).mono ?_; rintro e5 W5 ⟨z, rfl, hz, b5⟩)
          exact Then.normal ⟨_, _, _, _, _, _, _, _, _, _, rfl, (by first | exact hsz2.out _ | exact hsz.out), HL.out.put 6 rfl, H.out.cc hun.out rfl rfl rfl hGZ hZwr (by omega) (only_below b5) hz⟩
        · have u7 := hide (Up.waits hi 6 (by kernel_rfl))
          obtain ⟨z, rfl, hz⟩ := H.fc u7.out (Up.no hun)
          have hzs := hide hz.sz
          have hry := hide (QRow.one hz)
          replace hz := hide hz
          replace H := hide H
          replace HL := hide HL
          replace hi := hide hi
          replace hun := hide hun
          replace hsz := hide hsz
          refine wpOp_of_list rfl ?_
          go_wp2_with (refine wpList_bs1 rfl _ rfl z rfl hzs.out ?_; intro W6 k6 o6 s6)
          exact Then.normal ⟨_, _, _, _, _, _, _, _, _, _, rfl, (by first | exact hsz2.out _ | exact hsz.out), HL.out.put 7 rfl, H.out.cb hun.out u7.out rfl rfl hry.out o6 k6⟩
        · obtain rfl := HL.get 1 rfl rfl (Up.waits hi 1 (by kernel_rfl))
          have u8 := hide (Up.waits hi 7 (by kernel_rfl))
          have u1 := hide (Up.waits hi 1 (by kernel_rfl))
          have np := Up.no hun
          obtain ⟨K, rs, rfl, hrk, hrr'⟩ := H.fb u8.out np
          have hown := hide (H.f0 np).own
          have hyl := hide hrr'.length
          have hyo := hide hrr'.ones
          have hyc : ∀ j' u, rs[j']? = some u → w'.cell? ((⟨K, 0, none⟩ : Addr).add j') = some u := fun j' u hu => by rw [add_flat, Nat.zero_add, hrk.cell]; simpa using hu
          replace hyc := hide hyc
          have hZw : Z ≤ w'.heap.size := by have := H.onl.size; omega
          replace hrk := hide hrk
          replace hrr' := hide hrr'
          replace np := hide np
          replace H := hide H
          replace HL := hide HL
          replace hi := hide hi
          replace hun := hide hun
          replace hsz := hide hsz
          refine wpOp_of_list rfl ?_
          go_wp2_with (refine wpList_append_fresh rfl _ _ 37 rfl Z 41 i0 (.agg zC) 12 232 Tryz.underlying37 hi0.out hz0.out hz1.out hz2.out rfl (by decide) (.slice A j c) j xs rfl hown.out ⟨K, 0, none⟩ 1 1 rs rfl hyl.out (by decide) hyc.out hyo.out (by unfold maxLen; omega) (by omega) hZw ?_; intro v7 W7 own7 g7 f7; obtain ⟨A', c', rfl, -, -⟩ := own_sl own7)
          exact Then.normal ⟨_, _, _, _, _, _, _, _, _, _, rfl, (by first | exact hsz2.out _ | exact hsz.out), HL.out.put 8 rfl, H.out.cp hun.out u8.out u1.out rfl hGZ hZwr hrr'.out own7 g7 f7⟩
        · replace H := hide H
          replace HL := hide HL
          replace hi := hide hi
          replace hun := hide hun
          replace hsz := hide hsz
          refine wpOp_of_list rfl ?_
          go_wp2_with fail
          exact Then.normal ⟨_, _, _, _, _, _, _, _, _, _, rfl, (by first | exact hsz2.out _ | exact hsz.out), HL.out.put 9 rfl, H.out.put 9 rfl rfl rfl rfl⟩
        · obtain rfl := HL.get 9 rfl rfl (Up.waits hi 9 (by kernel_rfl))
          have u9 := hide (Up.waits hi 8 (by kernel_rfl))
          obtain ⟨A', c', xs', rfl, h1, -⟩ := H.fp u9.out
          have kq := H.kg (Up.no hun)
          have q8 := kq.cell 8
          have q9 := kq.frozen 8
          simp [ofC] at q8
          have kq2 := kq.set_ 8 (.slice A' (j + 1) c')
          have o8 : Only (· = G) w' (w'.setCell ⟨G, 8, none⟩ (.slice A' (j + 1) c')) := (Only.refl (· = G) w').setCell (p := ⟨G, 8, none⟩) (Or.inl rfl) _
          replace kq := hide kq
          replace kq2 := hide kq2
          replace o8 := hide o8
          replace h1 := hide h1
          replace H := hide H
          replace HL := hide HL
          replace hi := hide hi
          replace hun := hide hun
          replace hsz := hide hsz
          refine wpOp_of_list rfl ?_
          go_wp2_with fail
          exact Then.normal ⟨_, _, _, _, _, _, _, _, _, _, rfl, (by first | exact hsz2.out _ | exact hsz.out), HL.out.put 10 rfl, H.out.cs hun.out u9.out hGZ h1.out o8.out kq2.out⟩
      case stop =>
        rintro listed a w' ⟨s52, s53, s54, s55, s56, s57, s58, s59, s60, s61, rfl, hsz, HL, H⟩ hi
        have hall := Up.all hsz (by kernel_rfl) hi
        obtain ⟨A', c', xs', -, h1, h2⟩ := H.fp (hall 8 (by decide))
        have hk := hide (h2 (hall 10 (by decide)))
        have ho9 := hide H.onl
        clear H HL hall hi h2
        replace h1 := hide h1
        go_wp2_with fail
        go_roundw
        case rel => exact ⟨j + 1, A', c', xs', by go_num, by omega, hk.out, by rw [htk.out]; exact h1.out, ho.out.trans ho9.out⟩
        case measure => simp [Lib.intOf]; omega
    · have hjN' : j = N := by omega
      subst hjN'
      have hKj : ks'.take j = ks' := List.take_of_length_le (by rw [← hl.out]; exact Nat.le_refl _)
      rw [hKj] at HA
      have hrow := QRow.vec (P := (w.heap.size + 2 ≤ ·)) (A := A) (c := c) (base := Z) (xs := xs) (qs := ks') (HA.row.only (Only.refl (fun _ => False) wr) (fun _ _ _ h => h) (fun b _ h => h.1)) (by rw [← hl.out]; exact HA.own) (fun g h _ => by have := hs3; have := hZ.out; show w.heap.size + 2 ≤ g; omega)
      obtain ⟨A', c', e1, hm1, hm2⟩ := own_sl HA.own
      injection e1 with e1 _ e2
      subst e1
      subst e2
      replace hKj := hide hKj
      replace hrow := hide hrow
      replace kG := hide kG
      replace HA := hide HA
      replace ho := hide ho
      go_wp2_with (first
        | (refine wpList_load_row rfl _ _ rfl G rfl 41 (ofC opObj A j c).toArray (0, 0) _ kG.out Tryz.underlying41 rfl q_size ?_)
        | (refine wpList_store_blk rfl _ _ _ rfl (w.heap.size + 1) (ofC opObj A j c).toArray rfl rfl 41 _ hrr.out q_size rfl (by simp [ofC, Value.oneCell']) ?_; intro W5 k5 o5 s5; replace k5 := hide k5; replace o5 := hide o5; clear s5))
      (try simp only [Exit.inBlock, Exit.then])
      have hr5 := hrow.out.only o5.out (fun b h1 _ e => by have h1' : w.heap.size + 2 ≤ b := h1; have e' : b = w.heap.size + 1 := e; omega) (P' := (w.heap.size ≤ ·)) (fun b _ h => by have h1' : w.heap.size + 2 ≤ b := h; show w.heap.size ≤ b; omega)
      refine ret_q Tryz.results13 (w.heap.size + 1) _ rfl rfl k5.out rfl ⟨ofC opObj A j c, rfl, ?_, ?_⟩
      · exact QAt.of hl.out (by decide) hm1 (by unfold maxLen at hm2; omega) hr5
      · exact ((hcw.out.below (B := w.heap.size) (by intro k hk; omega) (Nat.le_refl _)).trans (o5.out.below (by intro k hk; omega) hBwr))
end Go.Proofs.YtbnbemacljjimaaGreatDoor

namespace Go.Proofs.YtbnbemacljjimaaGreatDoor
open Go.RowKit Go.Lib
set_option linter.unusedVariables false

set_option maxHeartbeats 16000000 in
set_option maxRecDepth 100000 in
theorem nm_com {a b : QV} {l l' : List QV} {m : Nat} (hch : ChSays (ofQ opCom [a, b]) l) (hm : l.length = m + 1) (hm1 : 1 ≤ m) (hm' : l'.length = m + 1) (hm4 : m ≤ 1000000) (hS : ∀ (i : Nat) (k k' : QV), l[i]? = some k → l'[i]? = some k' → NmSays k k') : NmSays (ofQ opCom [a, b]) (nqD l' 0) := by
  intro w x hx
  have hxx := hx
  obtain ⟨la, lc, ka, kc, va, vc, A0, c0, rfl, -, hc1, hc2, hv⟩ := hx.ofp
  clear hx hv
  obtain ⟨W0, hW0, o0, k0, z0, s0⟩ := nm_open w #[.string opCom, .string ⟨#[]⟩, .int .i64 0, .int .i64 0, .string ⟨#[]⟩, .slice la 0 lc, .slice ka 0 kc, .slice va 0 vc, .slice A0 2 c0, .slice none 0 0, .slice none 0 0, .slice none 0 0]
  have q0 := z0.out.cell 0
  simp at q0
  unfold opCom at q0
  have hcs : Calls Tryz.prog 35 #[.agg #[.string opCom, .string ⟨#[]⟩, .int .i64 0, .int .i64 0, .string ⟨#[]⟩, .slice la 0 lc, .slice ka 0 kc, .slice va 0 vc, .slice A0 2 c0, .slice none 0 0, .slice none 0 0, .slice none 0 0], .string opCom] W0 fun e w' => ∃ g c xs, e = .returned (.slice (some ⟨g, 0, none⟩) (m + 1) c) ∧ W0.heap.size ≤ g ∧ w'.ownsRow W0.heap.size 41 12 (.slice (some ⟨g, 0, none⟩) (m + 1) c) (m + 1) xs ∧ QRow w' (· < w.heap.size) xs l ∧ Below W0.heap.size W0 w' := by
    refine (hch W0 (· < w.heap.size) _ (fun b h => by have h' : b < w.heap.size := h; have := s0; omega) (hxx.only o0.out (fun _ _ _ h => h) (P' := (· < w.heap.size)) (fun b _ h => h))).mono ?_
    rintro e w' ⟨v, rfl, ⟨g, c, xs, rfl, h1, h2, h3⟩, h4⟩
    rw [hm] at h2 ⊢
    exact ⟨g, c, xs, rfl, h1, h2, h3, h4⟩
  replace hcs := hide hcs
  unfold opCom at hcs
  unfold opCom zC at hW0
  obtain ⟨um, hum⟩ : ∃ q, l[m]? = some q := ⟨_, List.getElem?_eq_getElem (by omega)⟩
  obtain ⟨um', hum'⟩ : ∃ q, l'[m]? = some q := ⟨_, List.getElem?_eq_getElem (by omega)⟩
  have hSm := hide (hS m um um' hum hum')
  replace hS := hide hS
  replace hm := hide hm
  replace hm' := hide hm'
  replace hum := hide hum
  replace hum' := hide hum'
  replace s0 := hide s0
  clear hch hxx
  unfold opCom
  go_enter Tryz.func13, Tryz.ntmps13
  go_upto_region 1 with fail
  rw [← hW0]
  clear hW0
  go_upto_region 20 with (first
    | (refine wpList_load_row rfl _ _ rfl w.heap.size rfl 41 _ (0, 0) _ z0.out Tryz.underlying41 rfl q_size ?_)
    | (go_at_call 35; refine hcs.out.mono ?_; rintro e W1 ⟨g, c1, xs1, rfl, hg, hown, hrow, b1⟩; have o1 := hide (only_below b1); replace hown := hide hown; replace hrow := hide hrow; replace hg := hide hg; clear b1))
  have z1 := hide (o1.out.blk z0.out (fun h => h))
  have r1 := hide (o1.out.blk k0.out (fun h => h))
  obtain ⟨ym, hym, hcm'⟩ := hrow.out.get m um hum.out
  have hgW1 : g < W1.heap.size := by
    obtain ⟨L, cL, hL1, -, hL3⟩ := hown.out.form (by omega)
    cases hL1
    exact hL3
  have hys := hide hym.len
  have hcm : ∀ j' u, ym[j']? = some u → W1.cell? ((⟨g, m * 12, none⟩ : Addr).add j') = some u := fun j' u hu => by
    have hj' := (List.getElem?_eq_some_iff.1 hu).1
    rw [hys.out] at hj'
    rw [add_flat, hown.out.cellAt (m * 12 + j') (by omega)]
    exact hcm' j' u hu
  replace hcm := hide hcm
  have hgs := hg.out
  have hs01 := o1.out.size
  have hyx := hide (hym.only (Only.refl (fun _ => False) W1) (fun _ _ _ h => h) (P' := (· < W1.heap.size)) (fun b _ h => by have h' : b < w.heap.size := h; have := s0.out; show b < W1.heap.size; omega))
  clear hcm' hym
  go_upto_region 21 with (first
    | (refine wpList_load_at rfl _ _ rfl ⟨g, m * 12, none⟩ rfl ym _ hcm.out Tryz.underlying41 rfl (by rw [hys.out]; exact q_size) ?_)
    | (go_at_call 13; refine (hSm.out W1 ym hyx.out).mono ?_; rintro e W2 ⟨y, rfl, hy, b2⟩; have o2 := hide (only_below b2); have hyz := hide hy.sz; have hya := hide hy.all; replace hy := hide hy; clear b2)
    | (refine wpList_store_blk rfl _ _ _ rfl W2.heap.size y.toArray rfl rfl 41 _ (Blk.new W2 _ _) (by rw [hyz.out]; exact q_size) (by rw [hyz.out]; rfl) hya.out ?_; intro W3 k3 o3 s3; replace k3 := hide k3; replace o3 := hide (only_new o3); clear s3))
  obtain ⟨G, hG⟩ : ∃ G, W2.heap.size = G := ⟨_, rfl⟩
  have hs12 := o2.out.size
  have hgG : g < G := by omega
  have hwG : w.heap.size + 2 ≤ W0.heap.size := by have := s0.out; omega
  rw [hG] at k3 ⊢
  have hGW3 : G < W3.heap.size := k3.out.lt
  have hy3 := hide (hy.out.only o3.out (fun _ _ _ h => h) (P' := Pf (w.heap.size + 2) G) (fun b hb h => ⟨by have h' : W1.heap.size ≤ b := h; omega, by omega⟩))
  have z3 := hide (o3.out.blk (o2.out.blk z1.out (fun h => h)) (fun h => h))
  have r3 := hide (o3.out.blk (o2.out.blk r1.out (fun h => h)) (fun h => h))
  have o13 := hide (o2.out.trans o3.out)
  have o03 := hide ((o0.out.trans o1.out).trans o13.out)
  have d0 := z3.out.cell 0
  simp at d0
  unfold opCom at d0
  replace hG := hide hG
  go_wp2_with fail
  go_loopw [8] (fun s8 wr => ∃ (j : Nat) (u : List Value), s8 = .int .i64 ((j : Int) - 1) ∧ j ≤ m ∧ Blk wr G 41 u.toArray ∧ QAt wr (Pf (w.heap.size + 2) G) u (nqD l' j) ∧ Only (· = G) W3 wr) (fun i _ => (Lib.intOf i + 1).toNat)
  case atStart => exact ⟨m, y, by go_num, Nat.le_refl _, k3.out, by rw [nqD_last l' m um' hum'.out (by rw [hm'.out])]; exact hy3.out, Only.refl _ _⟩
  case round =>
    obtain ⟨j, u, rfl, hj, kG, hu, ho⟩ := hrel
    have hcw := hide (o03.out.no.trans ho)
    have hzr := hide (ho.blk z3.out (by omega))
    have hrr := hide (ho.blk r3.out (by omega))
    have hus := hide hu.sz
    have hua := hide hu.all
    have hGwr := kG.lt
    have hBwr : w.heap.size ≤ wr.heap.size := hcw.out.size
    have hBwr2 : w.heap.size + 2 ≤ wr.heap.size := by omega
    clear q0 d0
    rcases Nat.eq_zero_or_pos j with rfl | hjp
    · replace ho := hide ho
      replace kG := hide kG
      replace hu := hide hu
      rw [show (((0 : Nat) : Int) - 1) = -1 from rfl]
      go_wp2_with (first
        | (refine wpList_load_row rfl _ _ rfl G rfl 41 u.toArray (0, 0) _ kG.out Tryz.underlying41 rfl (by rw [hus.out]; exact q_size) ?_)
        | (refine wpList_store_blk rfl _ _ _ rfl (w.heap.size + 1) _ rfl rfl 41 _ hrr.out (by rw [hus.out]; exact q_size) (by rw [hus.out]; rfl) hua.out ?_; intro W5 k5 o5 s5; replace k5 := hide k5; replace o5 := hide o5; clear s5))
      (try simp only [Exit.inBlock, Exit.then])
      refine ret_q Tryz.results13 (w.heap.size + 1) _ rfl rfl k5.out hus.out ⟨u, rfl, ?_, ?_⟩
      · refine hu.out.only o5.out (fun b' hb1 _ e => by have h1 : w.heap.size + 2 ≤ b' := hb1.1; have h2 : b' = w.heap.size + 1 := e; omega) (fun b' _ h => by have h1 : w.heap.size + 2 ≤ b' := h.1; show w.heap.size ≤ b'; omega)
      · exact ((hcw.out.below (B := w.heap.size) (by intro k hk; omega) (Nat.le_refl _)).trans (o5.out.below (by intro k hk; omega) hBwr))
    · obtain ⟨i, rfl⟩ : ∃ i, j = i + 1 := ⟨j - 1, by omega⟩
      have hji : ((i + 1 : Nat) : Int) - 1 = (i : Int) := by omega
      rw [hji]
      replace hji := hide hji
      obtain ⟨xi, hxi⟩ : ∃ q, l[i]? = some q := ⟨_, List.getElem?_eq_getElem (by rw [hm.out]; omega)⟩
      obtain ⟨xi', hxi'⟩ : ∃ q, l'[i]? = some q := ⟨_, List.getElem?_eq_getElem (by rw [hm'.out]; omega)⟩
      obtain ⟨ys, hyq, hcc'⟩ := hrow.out.get i xi hxi
      have hyl := hide hyq.len
      have hcc : ∀ j' u, ys[j']? = some u → W1.cell? ⟨g, i * 12 + j', none⟩ = some u := fun j' u hu => by
        have hj' := (List.getElem?_eq_some_iff.1 hu).1
        rw [hyl.out] at hj'
        rw [hown.out.cellAt (i * 12 + j') (by omega)]
        exact hcc' j' u hu
      have hSi := hide (hS.out i xi xi' hxi hxi')
      have hst := hide (nqD_step l' i xi' hxi' (by rw [hm'.out]; omega))
      have d0r := hzr.out.cell 0
      simp at d0r
      unfold opCom at d0r
      replace hcc := hide hcc
      replace hyq := hide hyq
      replace hxi := hide hxi
      replace hxi' := hide hxi'
      replace kG := hide kG
      replace hu := hide hu
      clear hcc'
      replace ho := hide ho
      go_upto_region 24 with fail
      refine wp_region_inv (by kernel_rfl) (fun listed a w' => ∃ (s84 s85 s86 s87 s88 s89 s90 s91 s92 s93 : Value), a = ⟨#[.agg #[.string ⟨#[44]⟩, .string ⟨#[]⟩, .int .i64 0, .int .i64 0, .string ⟨#[]⟩, .slice la 0 lc, .slice ka 0 kc, .slice va 0 vc, .slice A0 2 c0, .slice none 0 0, .slice none 0 0, .slice none 0 0], .pointer (some ⟨w.heap.size, 0, none⟩), .pointer (some ⟨w.heap.size + 1, 0, none⟩), undef, undef, undef, .slice (some ⟨g, 0, none⟩) (m + 1) c1, .pointer (some ⟨G, 0, none⟩), .int .i64 ↑i, undef, undef, undef, undef, .pointer (some ⟨w.heap.size, 0, none⟩), .string ⟨#[44]⟩, .bool false, .bool false, undef, undef, undef, .bool false, .bool false, undef, .bool false, .bool false, undef, undef, undef, undef, undef, undef, undef, undef, undef, undef, undef, undef, undef, undef, undef, .bool false, .bool false, undef, undef, undef, undef, undef, undef, undef, undef, undef, undef, undef, undef, undef, undef, undef, undef, undef, undef, undef, undef, undef, .bool true, .bool false, .bool true, .agg #[.string opCom, .string ⟨#[]⟩, .int .i64 0, .int .i64 0, .string ⟨#[]⟩, .slice la 0 lc, .slice ka 0 kc, .slice va 0 vc, .slice A0 2 c0, .slice none 0 0, .slice none 0 0, .slice none 0 0], .pointer (some ⟨w.heap.size, 0, none⟩), .string ⟨#[44]⟩, .slice (some ⟨g, 0, none⟩) (m + 1) c1, .slice (some ⟨g, 0, none⟩) (m + 1) c1, .slice (some ⟨g, 0, none⟩) (m + 1) c1, .int .i64 (↑m + 1), .int .i64 ↑m, .pointer (some ⟨g, m * 12, none⟩), .agg ym.toArray, .agg y.toArray, .slice (some ⟨g, 0, none⟩) (m + 1) c1, .int .i64 (↑m + 1), .int .i64 (↑m + 1 - 2), .int .i64 ↑i, .bool true, u82, u83, s84, s85, s86, s87, s88, s89, s90, s91, s92, s93, undef, undef, undef, undef, undef, undef, undef, undef, undef, undef, undef, undef, undef, undef, undef, undef, undef, undef, undef, undef, undef, undef, undef, undef, undef, undef, undef, undef, undef, undef, undef, undef, undef, undef, undef, undef, undef, undef, undef, undef, undef, undef, undef, undef, undef, undef, undef, undef, undef, undef, undef, undef, undef, undef, undef, undef, undef, undef, undef, undef, undef, undef, undef, undef, undef, undef, undef, undef, undef, undef, undef, undef, undef, undef, undef, undef, undef, undef, undef, undef], []⟩ ∧ listed.size = 11 ∧ Lv listed [s84, s85, s86, s87, s88, s89, .bool true, s91, .bool true, .bool true, .bool true] [.pointer (some ⟨w.heap.size, 0, none⟩), .string ⟨#[44]⟩, .slice (some ⟨g, 0, none⟩) (m + 1) c1, .int .i64 ↑i, .pointer (some ⟨g, i * 12, none⟩), .agg ys.toArray, .bool true, .agg u.toArray, .bool true, .bool true, .bool true] ∧ OfW wr G (w.heap.size + 2) u (nqD l' (i + 1)) xi' opCom 6 7 8 9 10 listed w' s90 s92 s93) ?start ?step ?stop
      case start => exact ⟨_, _, _, _, _, _, _, _, _, _, rfl, rfl, Lv.start, OfW.start kG.out hu.out⟩
      case step =>
        rintro listed a w' i ⟨s84, s85, s86, s87, s88, s89, s90, s91, s92, s93, rfl, hsz, HL, H⟩ hi
        have hun := Up.un hi
        have hltn : i < 11 := by
          obtain ⟨-, o, ho, -⟩ := mem_ready.1 hi
          rcases Nat.lt_or_ge i 11 with h | h
          · exact h
          · rw [Array.getElem?_eq_none (by exact h)] at ho
            cases ho
        have hsz2 : ∀ i, (listed.setIfInBounds i true).size = 11 := fun i => by rw [Array.size_setIfInBounds]; exact hsz
        replace hsz2 := hide hsz2
        have hin : i = 0 ∨ i = 1 ∨ i = 2 ∨ i = 3 ∨ i = 4 ∨ i = 5 ∨ i = 6 ∨ i = 7 ∨ i = 8 ∨ i = 9 ∨ i = 10 := by omega
        clear hltn
        rcases hin with rfl | rfl | rfl | rfl | rfl | rfl | rfl | rfl | rfl | rfl | rfl
        · replace H := hide H
          replace HL := hide HL
          replace hi := hide hi
          replace hun := hide hun
          replace hsz := hide hsz
          refine wpOp_of_list rfl ?_
          go_wp2_with fail
          exact Then.normal ⟨_, _, _, _, _, _, _, _, _, _, rfl, (by first | exact hsz2.out _ | exact hsz.out), HL.out.put 0 rfl, H.out.put 0 rfl rfl rfl rfl⟩
        · obtain rfl := HL.get 0 rfl rfl (Up.waits hi 0 (by kernel_rfl))
          have d0 := (only_cell H.onl (⟨w.heap.size, 0, none⟩ : Addr) (fun h => by have h' : w.heap.size = G := h; omega) (by show w.heap.size < wr.heap.size; omega)).trans d0r
          replace H := hide H
          replace HL := hide HL
          replace hi := hide hi
          replace hun := hide hun
          replace hsz := hide hsz
          refine wpOp_of_list rfl ?_
          go_wp2_with fail
          exact Then.normal ⟨_, _, _, _, _, _, _, _, _, _, rfl, (by first | exact hsz2.out _ | exact hsz.out), HL.out.put 1 rfl, H.out.put 1 rfl rfl rfl rfl⟩
        · replace H := hide H
          replace HL := hide HL
          replace hi := hide hi
          replace hun := hide hun
          replace hsz := hide hsz
          refine wpOp_of_list rfl ?_
          go_wp2_with fail
          exact Then.normal ⟨_, _, _, _, _, _, _, _, _, _, rfl, (by first | exact hsz2.out _ | exact hsz.out), HL.out.put 2 rfl, H.out.put 2 rfl rfl rfl rfl⟩
        · replace H := hide H
          replace HL := hide HL
          replace hi := hide hi
          replace hun := hide hun
          replace hsz := hide hsz
          refine wpOp_of_list rfl ?_
          go_wp2_with fail
          exact Then.normal ⟨_, _, _, _, _, _, _, _, _, _, rfl, (by first | exact hsz2.out _ | exact hsz.out), HL.out.put 3 rfl, H.out.put 3 rfl rfl rfl rfl⟩
        · obtain rfl := HL.get 2 rfl rfl (Up.waits hi 2 (by kernel_rfl))
          obtain rfl := HL.get 3 rfl rfl (Up.waits hi 3 (by kernel_rfl))
          replace H := hide H
          replace HL := hide HL
          replace hi := hide hi
          replace hun := hide hun
          replace hsz := hide hsz
          refine wpOp_of_list rfl ?_
          go_wp2_with fail
          exact Then.normal ⟨_, _, _, _, _, _, _, _, _, _, rfl, (by first | exact hsz2.out _ | exact hsz.out), HL.out.put 4 rfl, H.out.put 4 rfl rfl rfl rfl⟩
        · obtain rfl := HL.get 4 rfl rfl (Up.waits hi 4 (by kernel_rfl))
          have hcl : ∀ j' z, ys[j']? = some z → w'.cell? ((⟨g, i * 12, none⟩ : Addr).add j') = some z := fun j' z hz => by rw [add_flat, only_cell (o13.out.no.trans (ho.out.trans H.onl)) (⟨g, i * 12 + j', none⟩ : Addr) (fun h => by have h' : g = G := h; omega) hgW1]; exact hcc.out j' z hz
          replace hcl := hide hcl
          replace H := hide H
          replace HL := hide HL
          replace hi := hide hi
          replace hun := hide hun
          replace hsz := hide hsz
          refine wpOp_of_list rfl ?_
          go_wp2_with (refine wpList_load_at rfl _ _ rfl ⟨g, i * 12, none⟩ rfl ys _ hcl.out Tryz.underlying41 rfl (by rw [hyl.out]; exact q_size) ?_)
          exact Then.normal ⟨_, _, _, _, _, _, _, _, _, _, rfl, (by first | exact hsz2.out _ | exact hsz.out), HL.out.put 5 rfl, H.out.put 5 rfl rfl rfl rfl⟩
        · obtain rfl := HL.get 5 rfl rfl (Up.waits hi 5 (by kernel_rfl))
          have hyx := hide (hyq.out.only (o13.out.no.trans (ho.out.trans H.onl)) (fun b h1 _ h2 => by have h1' : b < w.heap.size := h1; have h2' : b = G := h2; omega) (P' := (· < w'.heap.size)) (fun b _ h => by have h1' : b < w.heap.size := h; have := H.onl.size; show b < w'.heap.size; omega))
          replace H := hide H
          replace HL := hide HL
          replace hi := hide hi
          replace hun := hide hun
          replace hsz := hide hsz
          refine wpOp_of_list rfl ?_
          go_wp2_with (go_at_call 13; refine (hSi.out w' ys hyx.out).mono ?_; rintro e5 W5 ⟨z, rfl, hz, b5⟩)
          exact Then.normal ⟨_, _, _, _, _, _, _, _, _, _, rfl, (by first | exact hsz2.out _ | exact hsz.out), HL.out.put 6 rfl, H.out.cc hun.out rfl rfl rfl hGwr hBwr2 (only_below b5) hz⟩
        · have kk := hide (H.kg (fun h => Up.no hun (H.ex (H.e2 (H.e3 h)))))
          replace H := hide H
          replace HL := hide HL
          replace hi := hide hi
          replace hun := hide hun
          replace hsz := hide hsz
          refine wpOp_of_list rfl ?_
          go_wp2_with (refine wpList_load_row rfl _ _ rfl G rfl 41 u.toArray (0, 0) _ kk.out Tryz.underlying41 rfl (by rw [hus.out]; exact q_size) ?_)
          exact Then.normal ⟨_, _, _, _, _, _, _, _, _, _, rfl, (by first | exact hsz2.out _ | exact hsz.out), HL.out.put 7 rfl, H.out.put 7 rfl rfl rfl rfl⟩
        · obtain rfl := HL.get 7 rfl rfl (Up.waits hi 7 (by kernel_rfl))
          have u5 := hide (Up.waits hi 6 (by kernel_rfl))
          have u6 := hide (Up.waits hi 7 (by kernel_rfl))
          obtain ⟨z, rfl, hz⟩ := H.fc u5.out
          have hzs := hide hz.sz
          replace hz := hide hz
          replace H := hide H
          replace HL := hide HL
          replace hi := hide hi
          replace hun := hide hun
          replace hsz := hide hsz
          refine wpOp_of_list rfl ?_
          go_wp2_with (refine wpList_bs2 rfl _ _ rfl z u rfl rfl hzs.out hus.out ?_; intro W6 k6 o6 s6)
          exact Then.normal ⟨_, _, _, _, _, _, _, _, _, _, rfl, (by first | exact hsz2.out _ | exact hsz.out), HL.out.put 8 rfl, H.out.cb hun.out u5.out u6.out rfl rfl hGwr hBwr2 hz.out o6 k6⟩
        · obtain rfl := HL.get 1 rfl rfl (Up.waits hi 1 (by kernel_rfl))
          have u7 := hide (Up.waits hi 8 (by kernel_rfl))
          obtain ⟨K, rfl, hK⟩ := H.fb u7.out
          replace hK := hide hK
          replace H := hide H
          replace HL := hide HL
          replace hi := hide hi
          replace hun := hide hun
          replace hsz := hide hsz
          refine wpOp_of_list rfl ?_
          go_wp2_with (go_at_call 33; refine (of_any w' opCom (some ⟨K, 0, none⟩) 2 2).mono ?_; rintro e7 W7 ⟨rfl, b7⟩)
          exact Then.normal ⟨_, _, _, _, _, _, _, _, _, _, rfl, (by first | exact hsz2.out _ | exact hsz.out), HL.out.put 9 rfl, H.out.co hun.out u7.out rfl hK.out (only_below b7)⟩
        · have u8 := hide (Up.waits hi 9 (by kernel_rfl))
          obtain ⟨K, rfl, hK⟩ := H.fo u8.out
          have kk := hide (H.kg (Up.no hun))
          replace hK := hide hK
          replace H := hide H
          replace HL := hide HL
          replace hi := hide hi
          replace hun := hide hun
          replace hsz := hide hsz
          refine wpOp_of_list rfl ?_
          go_wp2_with (refine wpList_store_blk rfl _ _ _ rfl G (ofC opCom (some ⟨K, 0, none⟩) 2 2).toArray rfl rfl 41 _ kk.out q_size (by rw [hus.out]; rfl) (by simp [ofC, Value.oneCell']) ?_; intro W8 k8 o8 s8)
          exact Then.normal ⟨_, _, _, _, _, _, _, _, _, _, rfl, (by first | exact hsz2.out _ | exact hsz.out), HL.out.put 10 rfl, H.out.cs hun.out u8.out hK.out o8 k8⟩
      case stop =>
        rintro listed a w' ⟨s84, s85, s86, s87, s88, s89, s90, s91, s92, s93, rfl, hsz, HL, H⟩ hi
        have hall := Up.all hsz (by kernel_rfl) hi
        obtain ⟨K, hk, hK⟩ := H.fs (hall 10 (by decide))
        have ho9 := hide H.onl
        clear H HL hall hi
        replace hk := hide hk
        replace hK := hide hK
        go_wp2_with fail
        go_roundw
        case rel => exact ⟨i, _, by go_num, by omega, hk.out, by rw [hst.out]; exact QAt.of rfl (by decide) (by decide) (by decide) hK.out, ho.out.trans ho9.out⟩
        case measure => simp [Lib.intOf]
end Go.Proofs.YtbnbemacljjimaaGreatDoor

namespace Go.Proofs.YtbnbemacljjimaaGreatDoor
open Go.RowKit Go.Lib
set_option linter.unusedVariables false

theorem rq_op (C : QV → List QV → QV) (n : Nat) (v : JV) : (jq C n v).op = opVal ∨ (jq C n v).op = opNeg ∨ (jq C n v).op = opList ∨ (jq C n v).op = opObj := by
  rcases n with _ | n
  · exact Or.inl rfl
  · rw [jq]
    split
    · exact Or.inr (Or.inl rfl)
    · split
      · refine Or.inr (Or.inr (Or.inl ?_))
        cases v.list.map (jq C n) <;> rfl
      · split
        · exact Or.inr (Or.inr (Or.inr rfl))
        · exact Or.inl rfl
theorem rq_nocom (C : QV → List QV → QV) (n : Nat) (v : JV) : ¬ (jq C n v).op = opCom := by
  rcases rq_op C n v with h | h | h | h <;> (rw [h]; decide)
theorem rq_notext (C : QV → List QV → QV) (n : Nat) (v : JV) : ¬ (jq C n v).op = opText ∧ ¬ (jq C n v).op = opNone := by
  rcases rq_op C n v with h | h | h | h <;> (rw [h]; decide)

theorem dflt_neg : Dflt opNeg := by constructor <;> (rw [show opNeg.toList = [110, 101, 103] from Lib.toList_data _]; rfl)
theorem dflt_list : Dflt opList := by constructor <;> (rw [show opList.toList = [108, 105, 115, 116] from Lib.toList_data _]; rfl)

theorem good_pos {n : Nat} {v : JV} (h : Good (n + 1) v) (h3 : v.kind = 3) (h4 : v.half < 0) : Good 1 (.mk 3 (-v.half) ⟨#[]⟩ [] [] []) := by
  have hb := h.2.2.2.2.2.2.1
  have hm := h.2.2.2.2.2.2.2.1
  refine ⟨by show (0 : Int) ≤ 3 ∧ (3 : Int) ≤ 6; decide, Or.inl rfl, Or.inr (Lib.toList_data _), Or.inr rfl, Or.inr rfl, rfl, ?_, ?_, rfl, Nat.zero_le _, Nat.zero_le _, by intro x hx; exact absurd hx List.not_mem_nil, by intro x hx; exact absurd hx List.not_mem_nil, by intro i a b hi; simp [JV.keys] at hi, by intro x hx; exact absurd hx List.not_mem_nil⟩
  · show -18014398509481984 ≤ -v.half ∧ -v.half ≤ 18014398509481984
    omega
  · show (-v.half).tmod 2 = 0 ∨ -9007199254740992 < -v.half ∧ -v.half < 9007199254740992
    rcases hm with hm | hm
    · left
      rw [Int.neg_tmod, hm]
      rfl
    · right
      omega
theorem good_txt {s : ByteArray} (h : Lib.validD s.data.toList = true) : Good 1 (txtJ s) := by
  refine ⟨by show (0 : Int) ≤ 4 ∧ (4 : Int) ≤ 6; decide, Or.inr rfl, Or.inl rfl, Or.inr rfl, Or.inr rfl, rfl, by show (-18014398509481984 : Int) ≤ 0 ∧ (0 : Int) ≤ 18014398509481984; decide, Or.inl rfl, h, Nat.zero_le _, Nat.zero_le _, by intro x hx; exact absurd hx List.not_mem_nil, by intro x hx; exact absurd hx List.not_mem_nil, by intro i a b hi; simp [txtJ, JV.keys] at hi, by intro x hx; exact absurd hx List.not_mem_nil⟩

theorem ch_left : ∀ (xs : List QV) (q : QV) (l : List QV), ChSays q l → 0 < l.length → l.length + xs.length ≤ 1000000 → (∀ x ∈ xs, ¬ x.op = opCom) → ChSays (rqC q xs) (l ++ xs)
  | [], q, l, h, _, _, _ => by rw [List.append_nil]; exact h
  | x :: xs, q, l, h, h0, hl, hx => by
    have h2 := chain_two h (chain_one (hx x List.mem_cons_self)) (by simp at hl ⊢; omega) h0 (by simp)
    have := ch_left xs (ofQ opCom [q, x]) (l ++ [x]) h2 (by simp) (by simp at hl ⊢; omega) (fun y hy => hx y (List.mem_cons_of_mem _ hy))
    rw [List.append_assoc] at this
    exact this
theorem rqC_com : ∀ (xs : List QV) (a b : QV), ∃ c d, rqC (ofQ opCom [a, b]) xs = ofQ opCom [c, d]
  | [], a, b => ⟨a, b, rfl⟩
  | x :: xs, a, b => rqC_com xs (ofQ opCom [a, b]) x

theorem nm_parts {x x' : QV} {xs xs' : List QV} (hl : xs.length = xs'.length) (hl4 : xs.length ≤ 400) (hc : ∀ y ∈ x :: xs, ¬ y.op = opCom) (hS : ∀ (i : Nat) (k k' : QV), (x :: xs)[i]? = some k → (x' :: xs')[i]? = some k' → NmSays k k') : NmSays (rqC x xs) (nqC x' xs') := by
  rcases xs with _ | ⟨y, ys⟩
  · have : xs' = [] := List.eq_nil_of_length_eq_zero hl.symm
    subst this
    exact hS 0 x x' rfl rfl
  · have hch := ch_left (y :: ys) x [x] (chain_one (hc x List.mem_cons_self)) (by simp) (by simp at hl4 ⊢; omega) (fun z hz => hc z (List.mem_cons_of_mem _ hz))
    obtain ⟨a, b, hab⟩ := rqC_com ys x y
    have e1 : rqC x (y :: ys) = ofQ opCom [a, b] := hab
    rw [e1] at hch ⊢
    exact nm_com (l := [x] ++ (y :: ys)) (l' := x' :: xs') (m := ys.length + 1) hch (by simp) (by omega) (by simp at hl ⊢; omega) (by simp at hl4; omega) hS

theorem kv_at : ∀ (ks : List ByteArray) (qs qs' : List QV) (i : Nat) (k k' : QV), (kvQ ks qs)[i]? = some k → (kvQ ks qs')[i]? = some k' → (∃ s ∈ ks, k = valQ (txtJ s) ∧ k' = valQ (txtJ s)) ∨ (∃ j : Nat, qs[j]? = some k ∧ qs'[j]? = some k')
  | [], qs, qs', i, k, k', h, _ => by simp [kvQ] at h
  | s :: ks, [], qs', i, k, k', h, _ => by simp [kvQ] at h
  | s :: ks, q :: qs, [], i, k, k', _, h => by simp [kvQ] at h
  | s :: ks, q :: qs, q' :: qs', 0, k, k', h, h' => by
    simp [kvQ] at h h'
    exact Or.inl ⟨s, List.mem_cons_self, h.symm, h'.symm⟩
  | s :: ks, q :: qs, q' :: qs', 1, k, k', h, h' => by
    simp [kvQ] at h h'
    exact Or.inr ⟨0, by simp [h], by simp [h']⟩
  | s :: ks, q :: qs, q' :: qs', i + 2, k, k', h, h' => by
    simp [kvQ] at h h'
    rcases kv_at ks qs qs' i k k' h h' with ⟨t, ht, e1, e2⟩ | ⟨j, h1, h2⟩
    · exact Or.inl ⟨t, List.mem_cons_of_mem _ ht, e1, e2⟩
    · exact Or.inr ⟨j + 1, by simpa using h1, by simpa using h2⟩
theorem kv_mem {P : QV → Prop} : ∀ (ks : List ByteArray) (qs : List QV), (∀ s, P (valQ (txtJ s))) → (∀ q ∈ qs, P q) → ∀ q ∈ kvQ ks qs, P q
  | [], _, _, _, q, hq => by simp [kvQ] at hq
  | _ :: _, [], _, _, q, hq => by simp [kvQ] at hq
  | s :: ks, x :: qs, h1, h2, q, hq => by
    simp only [kvQ, List.mem_cons] at hq
    rcases hq with rfl | rfl | hq
    · exact h1 s
    · exact h2 _ List.mem_cons_self
    · exact kv_mem ks qs h1 (fun q hq => h2 q (List.mem_cons_of_mem _ hq)) q hq

theorem one_at {P : QV → QV → Prop} {a b : QV} (h : P a b) : ∀ (i : Nat) (k k' : QV), [a][i]? = some k → [b][i]? = some k' → P k k'
  | 0, k, k', h1, h2 => by
    simp at h1 h2
    rw [← h1, ← h2]
    exact h
  | i + 1, k, k', h1, h2 => by simp at h1

theorem nm_all : ∀ (n : Nat) (v : JV), Good n v → NmSays (rq n v) (nq n v)
  | 0, v, h => h.elim
  | n + 1, v, h => by
    have hgl := h.2.2.2.2.2.2.2.2.2.2.2.1
    have hgk := h.2.2.2.2.2.2.2.2.2.2.2.2.1
    have hgv := h.2.2.2.2.2.2.2.2.2.2.2.2.2.2
    have hl4 := h.2.2.2.2.2.2.2.2.2.1
    have hv4 := h.2.2.2.2.2.2.2.2.2.2.1
    have hkv := h.2.2.2.2.2.1
    by_cases hk : v.kind = 3 ∧ v.half < 0
    · have e1 : rq (n + 1) v = ofQ opNeg [valQ (.mk 3 (-v.half) ⟨#[]⟩ [] [] [])] := by show (if _ then _ else _) = _; rw [if_pos hk]
      have e2 : nq (n + 1) v = ofQ opNeg [valQ (.mk 3 (-v.half) ⟨#[]⟩ [] [] [])] := by show (if _ then _ else _) = _; rw [if_pos hk]
      rw [e1, e2]
      refine nm_def dflt_neg rfl (by simp) (one_at (nm_val ⟨0, nv_all 1 _ (good_pos h hk.1 hk.2), ?_⟩))
      show (if _ then _ else if _ then _ else if _ then _ else _) = _
      rw [if_neg (by intro hh; have h2 : -v.half < 0 := hh.2; omega), if_neg (by show ¬ (3 : Int) = 5; decide), if_neg (by show ¬ (3 : Int) = 6; decide)]
    · by_cases h5 : v.kind = 5
      · have e1 : ∀ C, jq C (n + 1) v = listQ C (v.list.map (jq C n)) := fun C => by rw [jq, if_neg hk, if_pos h5]
        rw [rq, nq, e1, e1]
        have hall : ∀ (i : Nat) (k k' : QV), (v.list.map (rq n))[i]? = some k → (v.list.map (nq n))[i]? = some k' → NmSays k k' := fun i k k' hk1 hk2 => by
          rw [List.getElem?_map] at hk1 hk2
          obtain ⟨x, hx, rfl⟩ := Option.map_eq_some_iff.1 hk1
          rw [hx] at hk2
          cases hk2
          exact nm_all n x (hgl x (List.mem_of_getElem? hx))
        have hnc : ∀ y ∈ v.list.map (rq n), ¬ y.op = opCom := fun y hy => by
          obtain ⟨x, -, rfl⟩ := List.mem_map.1 hy
          exact rq_nocom rqC n x
        have hln : (v.list.map (rq n)).length = (v.list.map (nq n)).length := by rw [List.length_map, List.length_map]
        have hll : (v.list.map (rq n)).length ≤ 400 := by rw [List.length_map]; exact hl4
        have gen : ∀ l l' : List QV, l.length = l'.length → l.length ≤ 400 → (∀ y ∈ l, ¬ y.op = opCom) → (∀ (i : Nat) (k k' : QV), l[i]? = some k → l'[i]? = some k' → NmSays k k') → NmSays (listQ rqC l) (listQ nqC l') := by
          intro l l' h1 h2 h3 h4
          rcases l with _ | ⟨x, xs⟩
          · have : l' = [] := List.eq_nil_of_length_eq_zero h1.symm
            subst this
            exact nm_def dflt_list rfl (by decide) (fun i k k' hk _ => by simp at hk)
          · rcases l' with _ | ⟨x', xs'⟩
            · simp at h1
            · exact nm_def dflt_list rfl (by simp) (one_at (nm_parts (by simpa using h1) (by simp at h2; omega) h3 h4))
        exact gen _ _ hln hll hnc hall
      · by_cases h6 : v.kind = 6
        · have e1 : ∀ C, jq C (n + 1) v = ofQ opObj (kvQ v.keys (v.vals.map (jq C n))) := fun C => by rw [jq, if_neg hk, if_neg h5, if_pos h6]
          rw [rq, nq, e1, e1]
          have hl1 := kvQ_len v.keys (v.vals.map (jq rqC n)) (by rw [List.length_map]; exact hkv)
          have hl2 := kvQ_len v.keys (v.vals.map (jq nqC n)) (by rw [List.length_map]; exact hkv)
          refine nm_obj (M := v.keys.length) hl1 ?_ (by rw [hl1, hl2]) (by rw [hl1, hkv]; omega) (fun i k k' hk1 hk2 => ?_)
          · refine kv_mem _ _ (fun s => by constructor <;> (show ¬ opVal = _; decide)) (fun q hq => ?_)
            obtain ⟨x, -, rfl⟩ := List.mem_map.1 hq
            exact rq_notext rqC n x
          · rcases kv_at _ _ _ i k k' hk1 hk2 with ⟨s, hs, rfl, rfl⟩ | ⟨j, h1, h2⟩
            · exact nm_val ⟨0, nv_all 1 _ (good_txt (hgk s hs)), rfl⟩
            · rw [List.getElem?_map] at h1 h2
              obtain ⟨x, hx, rfl⟩ := Option.map_eq_some_iff.1 h1
              rw [hx] at h2
              cases h2
              exact nm_all n x (hgv x (List.mem_of_getElem? hx))
        · have e1 : ∀ C, jq C (n + 1) v = valQ v := fun C => by rw [jq, if_neg hk, if_neg h5, if_neg h6]
          rw [rq, nq, e1, e1]
          exact nm_val ⟨n, nv_all (n + 1) v h, e1 nqC⟩
end Go.Proofs.YtbnbemacljjimaaGreatDoor
