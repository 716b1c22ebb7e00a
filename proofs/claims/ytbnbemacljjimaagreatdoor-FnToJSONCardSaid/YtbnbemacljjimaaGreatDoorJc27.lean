/- A map as a query (printed by mknqe.py). -/
import Derived.Test.YtbnbemacljjimaaGreatDoorJc26
namespace Go.Proofs.YtbnbemacljjimaaGreatDoor
open Go.RowKit Go.Lib
set_option linter.unusedVariables false

theorem kvQ_len : ∀ (ks : List ByteArray) (qs : List QV), ks.length = qs.length → (kvQ ks qs).length = 2 * ks.length
  | [], [], _ => rfl
  | k :: ks, q :: qs, h => by
    show (kvQ ks qs).length + 1 + 1 = _
    rw [kvQ_len ks qs (by simpa using h), List.length_cons]
    omega
  | [], q :: qs, h => by simp at h
  | k :: ks, [], h => by simp at h
theorem kvQ_take : ∀ (ks : List ByteArray) (qs : List QV) (j : Nat) (k : ByteArray) (q : QV), ks[j]? = some k → qs[j]? = some q → (kvQ ks qs).take (2 * (j + 1)) = (kvQ ks qs).take (2 * j) ++ [valQ (txtJ k), q]
  | [], _, _, _, _, h, _ => by simp at h
  | _ :: _, [], _, _, _, _, h => by simp at h
  | a :: ks, b :: qs, 0, k, q, h, g => by
    simp at h g
    subst h
    subst g
    rfl
  | a :: ks, b :: qs, j + 1, k, q, h, g => by
    have ih := kvQ_take ks qs j k q (by simpa using h) (by simpa using g)
    show (valQ (txtJ a) :: b :: kvQ ks qs).take (2 * (j + 1) + 1 + 1) = (valQ (txtJ a) :: b :: kvQ ks qs).take (2 * j + 1 + 1) ++ _
    rw [List.take_succ_cons, List.take_succ_cons, List.take_succ_cons, List.take_succ_cons, ih]
    rfl

set_option maxHeartbeats 16000000 in
set_option maxRecDepth 100000 in
theorem nv_map {n N : Nat} {v : JV} (hS : ∀ x ∈ v.vals, NvSays n x) (h3 : v.kind = 6) (hN : v.keys.length = N) (hN2 : v.vals.length = N) (hN4 : N ≤ 400) : NvSays (n + 1) v := by
  intro w B x hB hx
  have hnq : nq (n + 1) v = ofQ opObj (kvQ v.keys (v.vals.map (nq n))) := by
    show (if v.kind = 3 ∧ v.half < 0 then _ else if v.kind = 5 then _ else if v.kind = 6 then _ else valQ v) = _
    rw [if_neg (by omega), if_neg (by omega), if_pos h3]
  rw [hnq]
  obtain ⟨KV, hKV⟩ : ∃ KV, kvQ v.keys (v.vals.map (nq n)) = KV := ⟨_, rfl⟩
  have hKVl : KV.length = 2 * N := by rw [← hKV, kvQ_len _ _ (by rw [List.length_map, hN, hN2]), hN]
  have hKVt : ∀ (j : Nat) (k : ByteArray) (q : JV), v.keys[j]? = some k → v.vals[j]? = some q → KV.take (2 * (j + 1)) = KV.take (2 * j) ++ [valQ (txtJ k), nq n q] := fun j k q h1 h2 => by
    rw [← hKV]
    exact kvQ_take _ _ j k _ h1 (by rw [List.getElem?_map, h2]; rfl)
  rw [hKV]
  obtain ⟨la, lc, ka, kc, va, vc, rfl, -, q1, q2, -, q3, q4, -, -, -, -, hks, hvs⟩ := hx
  clear hnq hKV
  rw [h3, hN, hN2]
  rw [hN] at q1
  rw [hN2] at q2
  have hkz0 : ∀ k ∈ v.keys, k.size ≤ 9223372036854775807 := hks.1
  have hkr : 0 < N → ∃ b o, ka = some ⟨b, o, none⟩ ∧ b < B ∧ ∀ i s, v.keys[i]? = some s → w.cell? ⟨b, o + i, none⟩ = some (.string s) := fun h => hks.2 (by rw [hN]; exact h)
  have hvr : 0 < N → ∃ b o, va = some ⟨b, o, none⟩ ∧ b < B ∧ ∀ (i : Nat) (u : JV), v.vals[i]? = some u → ∃ (ys : List Value), ys.length = 6 ∧ JAt w B n (.agg ys.toArray) u ∧ ∀ j z, ys[j]? = some z → w.cell? ⟨b, o + i * 6 + j, none⟩ = some z := fun h => by
    obtain ⟨um, hum⟩ : ∃ u, v.vals[0]? = some u := ⟨_, List.getElem?_eq_getElem (by omega)⟩
    obtain ⟨b, o, ym, hla, hbB, -⟩ := hvs.row6 hum
    refine ⟨b, o, hla, hbB, fun i u hi => ?_⟩
    obtain ⟨b', o', ys, e, -, h2, h3, h4⟩ := hvs.row6 hi
    rw [hla] at e
    cases e
    exact ⟨ys, h2, h3, h4⟩
  clear hks hvs
  obtain ⟨i0, hi0, hz0, hz1, hz2⟩ := info_parts Tryz.infoQ
  obtain ⟨hf, hhf⟩ : ∃ hf, v.half = hf := ⟨_, rfl⟩
  rw [hhf]
  replace hhf := hide hhf
  replace hkz0 := hide hkz0
  replace hN := hide hN
  replace hN2 := hide hN2
  replace hkr := hide hkr
  replace hvr := hide hvr
  replace hKVl := hide hKVl
  replace hKVt := hide hKVt
  replace hS := hide hS
  replace hi0 := hide hi0
  replace hz0 := hide hz0
  replace hz1 := hide hz1
  replace hz2 := hide hz2
  obtain ⟨W0, hW0⟩ : ∃ W0, W0 = (w.alloc (.cells #[.int .i64 6, .int .i64 hf, .string v.text, .slice la v.list.length lc, .slice ka N kc, .slice va N vc] 26)).alloc (.cells zC 41) := ⟨_, rfl⟩
  have o0 : Only (fun _ => False) w W0 := by rw [hW0]; exact ((Only.refl _ w).alloc _).alloc _
  have k0 : Blk W0 (w.heap.size + 1) 41 zC := by rw [hW0]; exact Blk.new2 w _ _ _
  have z0 : Blk W0 w.heap.size 26 #[.int .i64 6, .int .i64 hf, .string v.text, .slice la v.list.length lc, .slice ka N kc, .slice va N vc] := by rw [hW0]; exact (Blk.new w _ _).alloc _
  have s0 : W0.heap.size = w.heap.size + 2 := by rw [hW0]; simp
  obtain ⟨c0, c1, c2, c3, c4, c5⟩ := blk_six z0
  replace z0 := hide z0
  replace o0 := hide o0
  replace k0 := hide k0
  replace s0 := hide s0
  unfold zC at hW0
  have hBW0 : B ≤ W0.heap.size := by have := s0.out; omega
  go_enter Tryz.func30, Tryz.ntmps30
  go_upto_region 1 with fail
  rw [← hW0]
  clear hW0
  go_upto_region 13 with fail
  go_upto_region 14 with (first
    | (go_at_call 33; refine (of_any W0 opObj none 0 0).mono ?_; rintro e W1 ⟨rfl, b1⟩; have o1 := hide (only_below b1); clear b1)
    | (refine wpList_store_blk rfl _ _ _ rfl W1.heap.size (ofC opObj none 0 0).toArray rfl rfl 41 _ (Blk.new W1 _ _) q_size rfl (by simp [ofC, Value.oneCell']) ?_; intro W2 k2 o2 s2; replace k2 := hide k2; replace o2 := hide (only_new o2); replace s2 := hide s2))
  obtain ⟨G, hG⟩ : ∃ G, W1.heap.size = G := ⟨_, rfl⟩
  have hGw : w.heap.size + 1 < G := by have := s0.out; have := o1.out.size; omega
  rw [hG] at k2 ⊢
  have z2 := hide (o2.out.blk (o1.out.blk z0.out (fun h => h)) (fun h => h))
  have r2 := hide (o2.out.blk (o1.out.blk k0.out (fun h => h)) (fun h => h))
  have hGW2 : G < W2.heap.size := k2.out.lt
  obtain ⟨Z, hZ⟩ : ∃ Z, W2.heap.size = Z := ⟨_, rfl⟩
  have hGZ : G < Z := by omega
  go_wp2_with fail
  go_loopw [6] (fun s6 wr => ∃ (j : Nat) (A : Option Addr) (c : Nat) (xs : List Value), s6 = .int .i64 (j : Int) ∧ j ≤ N ∧ Blk wr G 41 (ofC opObj A (2 * j) c).toArray ∧ ApS wr (w.heap.size + 2) Z G (2 * j) c A xs (KV.take (2 * j)) ∧ Only (fun k => k = G ∨ Z ≤ k) W2 wr) (fun i _ => N - (Lib.intOf i).toNat)
  case atStart => exact ⟨0, none, 0, [], rfl, Nat.zero_le _, k2.out, ⟨World.ownsRow_nil _ _ _ _, rfl⟩, Only.refl _ _⟩
  case round =>
    obtain ⟨j, A, c, xs, rfl, hj, kG, HA, ho⟩ := hrel
    have hcw := hide (((o0.out.trans o1.out).trans o2.out).no.trans ho)
    have hzr := hide (ho.blk z2.out (by omega))
    have hrr := hide (ho.blk r2.out (by omega))
    have hGwr := kG.lt
    have hBwr : w.heap.size ≤ wr.heap.size := hcw.out.size
    have hZwr : Z ≤ wr.heap.size := by have := ho.size; omega
    have d4r := hzr.out.cell 4
    have d5r := hzr.out.cell 5
    simp at d4r d5r
    by_cases hjN : j < N
    · obtain ⟨bk, ok, rfl, hbk, hkc⟩ := hkr.out (by omega)
      obtain ⟨bv, ov, rfl, hbv, hvc⟩ := hvr.out (by omega)
      obtain ⟨kj, hkj⟩ : ∃ u, v.keys[j]? = some u := ⟨_, List.getElem?_eq_getElem (by rw [hN.out]; omega)⟩
      obtain ⟨vj, hvj⟩ : ∃ u, v.vals[j]? = some u := ⟨_, List.getElem?_eq_getElem (by rw [hN2.out]; omega)⟩
      obtain ⟨ys, hy6', hji', hcc⟩ := hvc j vj hvj
      have hkjc := hkc j kj hkj
      have hkz := hide (hkz0.out kj (List.mem_of_getElem? hkj))
      have hSi := hide (hS.out vj (List.mem_of_getElem? hvj))
      have hbkw : bk < w.heap.size := by omega
      have hbvw : bv < w.heap.size := by omega
      replace hkj := hide hkj
      replace hvj := hide hvj
      replace hji' := hide hji'
      replace hcc := hide hcc
      replace hy6' := hide hy6'
      replace kG := hide kG
      replace HA := hide HA
      replace ho := hide ho
      clear hkc hvc c0 c1 c2 c3 c4 c5
      go_upto_region 17 with fail
      refine wp_region_inv (by kernel_rfl) (fun listed a w' => ∃ (s79 s80 s81 s82 s83 s84 s85 s86 s87 s88 s89 s90 s91 s92 s93 s94 s95 s96 : Value), a = ⟨#[.agg #[.int .i64 6, .int .i64 hf, .string v.text, .slice la v.list.length lc, .slice (some ⟨bk, ok, none⟩) N kc, .slice (some ⟨bv, ov, none⟩) N vc], .pointer (some ⟨w.heap.size, 0, none⟩), .pointer (some ⟨w.heap.size + 1, 0, none⟩), undef, undef, .pointer (some ⟨G, 0, none⟩), .int .i64 ↑j, .bool false, .pointer (some ⟨w.heap.size, 0, none⟩), .int .i64 6, .bool false, .bool false, undef, undef, undef, .bool false, undef, undef, undef, undef, undef, undef, undef, .bool false, .pointer (some ⟨w.heap.size, 0, none⟩), .int .i64 6, .bool false, .bool false, undef, undef, undef, undef, .bool false, undef, .bool false, .pointer (some ⟨w.heap.size, 0, none⟩), .int .i64 6, .bool false, undef, undef, undef, undef, undef, undef, undef, undef, undef, undef, undef, undef, undef, undef, undef, undef, undef, undef, undef, undef, undef, undef, undef, undef, undef, undef, undef, undef, undef, .bool true, .pointer (some ⟨w.heap.size, 0, none⟩), .int .i64 6, .bool true, .agg (ofC opObj none 0 0).toArray, .int .i64 ↑j, .pointer (some ⟨w.heap.size, 4, none⟩), .slice (some ⟨bk, ok, none⟩) N kc, .int .i64 ↑N, .bool true, u77, u78, s79, s80, s81, s82, s83, s84, s85, s86, s87, s88, s89, s90, s91, s92, s93, s94, s95, s96, undef, undef, undef], []⟩ ∧ listed.size = 19 ∧ Lv listed [s79, s80, s81, s82, s83, s84, s85, s86, s87, s88, s89, s90, s91, s92, .bool true, .bool true, .bool true, s96, .bool true] [.pointer (some ⟨G, 8, none⟩), .slice A (2 * j) c, .pointer (some ⟨w.heap.size, 4, none⟩), .slice (some ⟨bk, ok, none⟩) N kc, .int .i64 ↑j, .pointer (some ⟨bk, ok + j, none⟩), .string kj, .agg #[.int .i64 4, .int .i64 0, .string kj, .slice none 0 0, .slice none 0 0, .slice none 0 0], .agg #[.string opVal, .string ⟨#[]⟩, .int .i64 4, .int .i64 0, .string kj, .slice none 0 0, .slice none 0 0, .slice none 0 0, .slice none 0 0, .slice none 0 0, .slice none 0 0, .slice none 0 0], .pointer (some ⟨w.heap.size, 5, none⟩), .slice (some ⟨bv, ov, none⟩) N vc, .int .i64 ↑j, .pointer (some ⟨bv, ov + j * 6, none⟩), .agg ys.toArray, .bool true, .bool true, .bool true, .pointer (some ⟨G, 8, none⟩), .bool true] ∧ (Up listed 15 → Up listed 8) ∧ (Up listed 8 → Up listed 7) ∧ ApW wr G (w.heap.size + 2) Z (2 * j) 2 c A xs (KV.take (2 * j)) [valQ (txtJ kj), nq n vj] opObj 1 14 15 16 18 (nq n vj) listed w' s93 s94 s95) ?start ?step ?stop
      case start => exact ⟨_, _, _, _, _, _, _, _, _, _, _, _, _, _, _, _, _, _, rfl, rfl, Lv.start, fun h => (Up.start h).elim, fun h => (Up.start h).elim, ApW.start kG.out HA.out⟩
      case step =>
        rintro listed a w' i ⟨s79, s80, s81, s82, s83, s84, s85, s86, s87, s88, s89, s90, s91, s92, s93, s94, s95, s96, rfl, hsz, HL, E0, E1, H⟩ hi
        have hun := Up.un hi
        have hltn : i < 19 := by
          obtain ⟨-, o, ho, -⟩ := mem_ready.1 hi
          rcases Nat.lt_or_ge i 19 with h | h
          · exact h
          · rw [Array.getElem?_eq_none (by exact h)] at ho
            cases ho
        have hsz2 : ∀ i, (listed.setIfInBounds i true).size = 19 := fun i => by rw [Array.size_setIfInBounds]; exact hsz
        replace hsz2 := hide hsz2
        have hin : i = 0 ∨ i = 1 ∨ i = 2 ∨ i = 3 ∨ i = 4 ∨ i = 5 ∨ i = 6 ∨ i = 7 ∨ i = 8 ∨ i = 9 ∨ i = 10 ∨ i = 11 ∨ i = 12 ∨ i = 13 ∨ i = 14 ∨ i = 15 ∨ i = 16 ∨ i = 17 ∨ i = 18 := by omega
        clear hltn
        rcases hin with rfl | rfl | rfl | rfl | rfl | rfl | rfl | rfl | rfl | rfl | rfl | rfl | rfl | rfl | rfl | rfl | rfl | rfl | rfl
        · replace H := hide H
          replace HL := hide HL
          replace hi := hide hi
          replace hun := hide hun
          replace hsz := hide hsz
          replace E0 := hide E0
          replace E1 := hide E1
          refine wpOp_of_list rfl ?_
          go_wp2_with fail
          exact Then.normal ⟨_, _, _, _, _, _, _, _, _, _, _, _, _, _, _, _, _, _, rfl, (by first | exact hsz2.out _ | exact hsz.out), HL.out.put 0 rfl, fun h => Up.more (E0.out (Up.set_ne (by decide) h)), fun h => Up.more (E1.out (Up.set_ne (by decide) h)), H.out.put 0 rfl rfl rfl rfl⟩
        · obtain rfl := HL.get 0 rfl rfl (Up.waits hi 0 (by kernel_rfl))
          have kq := H.kg (fun h => Up.no hun (H.el (H.e3 h)))
          have q8 := kq.cell 8
          simp [ofC] at q8
          replace kq := hide kq
          replace H := hide H
          replace HL := hide HL
          replace hi := hide hi
          replace hun := hide hun
          replace hsz := hide hsz
          replace E0 := hide E0
          replace E1 := hide E1
          refine wpOp_of_list rfl ?_
          go_wp2_with fail
          exact Then.normal ⟨_, _, _, _, _, _, _, _, _, _, _, _, _, _, _, _, _, _, rfl, (by first | exact hsz2.out _ | exact hsz.out), HL.out.put 1 rfl, fun h => Up.more (E0.out (Up.set_ne (by decide) h)), fun h => Up.more (E1.out (Up.set_ne (by decide) h)), H.out.put 1 rfl rfl rfl rfl⟩
        · replace H := hide H
          replace HL := hide HL
          replace hi := hide hi
          replace hun := hide hun
          replace hsz := hide hsz
          replace E0 := hide E0
          replace E1 := hide E1
          refine wpOp_of_list rfl ?_
          go_wp2_with fail
          exact Then.normal ⟨_, _, _, _, _, _, _, _, _, _, _, _, _, _, _, _, _, _, rfl, (by first | exact hsz2.out _ | exact hsz.out), HL.out.put 2 rfl, fun h => Up.more (E0.out (Up.set_ne (by decide) h)), fun h => Up.more (E1.out (Up.set_ne (by decide) h)), H.out.put 2 rfl rfl rfl rfl⟩
        · obtain rfl := HL.get 2 rfl rfl (Up.waits hi 2 (by kernel_rfl))
          have d4 := (only_cell H.onl (⟨w.heap.size, 4, none⟩ : Addr) (fun h => by have h' : w.heap.size = G ∨ Z ≤ w.heap.size := h; omega) (by show w.heap.size < wr.heap.size; omega)).trans d4r
          replace H := hide H
          replace HL := hide HL
          replace hi := hide hi
          replace hun := hide hun
          replace hsz := hide hsz
          replace E0 := hide E0
          replace E1 := hide E1
          refine wpOp_of_list rfl ?_
          go_wp2_with fail
          exact Then.normal ⟨_, _, _, _, _, _, _, _, _, _, _, _, _, _, _, _, _, _, rfl, (by first | exact hsz2.out _ | exact hsz.out), HL.out.put 3 rfl, fun h => Up.more (E0.out (Up.set_ne (by decide) h)), fun h => Up.more (E1.out (Up.set_ne (by decide) h)), H.out.put 3 rfl rfl rfl rfl⟩
        · replace H := hide H
          replace HL := hide HL
          replace hi := hide hi
          replace hun := hide hun
          replace hsz := hide hsz
          replace E0 := hide E0
          replace E1 := hide E1
          refine wpOp_of_list rfl ?_
          go_wp2_with fail
          exact Then.normal ⟨_, _, _, _, _, _, _, _, _, _, _, _, _, _, _, _, _, _, rfl, (by first | exact hsz2.out _ | exact hsz.out), HL.out.put 4 rfl, fun h => Up.more (E0.out (Up.set_ne (by decide) h)), fun h => Up.more (E1.out (Up.set_ne (by decide) h)), H.out.put 4 rfl rfl rfl rfl⟩
        · obtain rfl := HL.get 3 rfl rfl (Up.waits hi 3 (by kernel_rfl))
          obtain rfl := HL.get 4 rfl rfl (Up.waits hi 4 (by kernel_rfl))
          replace H := hide H
          replace HL := hide HL
          replace hi := hide hi
          replace hun := hide hun
          replace hsz := hide hsz
          replace E0 := hide E0
          replace E1 := hide E1
          refine wpOp_of_list rfl ?_
          go_wp2_with fail
          exact Then.normal ⟨_, _, _, _, _, _, _, _, _, _, _, _, _, _, _, _, _, _, rfl, (by first | exact hsz2.out _ | exact hsz.out), HL.out.put 5 rfl, fun h => Up.more (E0.out (Up.set_ne (by decide) h)), fun h => Up.more (E1.out (Up.set_ne (by decide) h)), H.out.put 5 rfl rfl rfl rfl⟩
        · obtain rfl := HL.get 5 rfl rfl (Up.waits hi 5 (by kernel_rfl))
          have dk := (only_cell (hcw.out.trans H.onl) (⟨bk, ok + j, none⟩ : Addr) (fun h => by have h' : bk = G ∨ Z ≤ bk := h; omega) hbkw).trans hkjc
          replace H := hide H
          replace HL := hide HL
          replace hi := hide hi
          replace hun := hide hun
          replace hsz := hide hsz
          replace E0 := hide E0
          replace E1 := hide E1
          refine wpOp_of_list rfl ?_
          go_wp2_with fail
          exact Then.normal ⟨_, _, _, _, _, _, _, _, _, _, _, _, _, _, _, _, _, _, rfl, (by first | exact hsz2.out _ | exact hsz.out), HL.out.put 6 rfl, fun h => Up.more (E0.out (Up.set_ne (by decide) h)), fun h => Up.more (E1.out (Up.set_ne (by decide) h)), H.out.put 6 rfl rfl rfl rfl⟩
        · obtain rfl := HL.get 6 rfl rfl (Up.waits hi 6 (by kernel_rfl))
          have np : ¬ Up listed 16 := fun h => Up.no hun (E1 (E0 (H.e2 h)))
          replace np := hide np
          replace H := hide H
          replace HL := hide HL
          replace hi := hide hi
          replace hun := hide hun
          replace hsz := hide hsz
          replace E0 := hide E0
          replace E1 := hide E1
          refine wpOp_of_list rfl ?_
          go_wp2_with (go_at_call 32; refine (specStr_any w' kj).mono ?_; rintro e5 W5 ⟨rfl, b5⟩)
          exact Then.normal ⟨_, _, _, _, _, _, _, _, _, _, _, _, _, _, _, _, _, _, rfl, (by first | exact hsz2.out _ | exact hsz.out), HL.out.put 7 rfl, fun h => Up.more (E0.out (Up.set_ne (by decide) h)), fun h => Up.more (E1.out (Up.set_ne (by decide) h)), (H.out.mov np.out (only_below b5)).put 7 rfl rfl rfl rfl⟩
        · obtain rfl := HL.get 7 rfl rfl (Up.waits hi 7 (by kernel_rfl))
          have np : ¬ Up listed 16 := fun h => Up.no hun (E0 (H.e2 h))
          replace np := hide np
          replace H := hide H
          replace HL := hide HL
          replace hi := hide hi
          replace hun := hide hun
          replace hsz := hide hsz
          replace E0 := hide E0
          replace E1 := hide E1
          refine wpOp_of_list rfl ?_
          go_wp2_with (go_at_call 31; refine (val_any w' 4 0 kj none none none 0 0 0 0 0 0).mono ?_; rintro e5 W5 ⟨rfl, b5⟩)
          exact Then.normal ⟨_, _, _, _, _, _, _, _, _, _, _, _, _, _, _, _, _, _, rfl, (by first | exact hsz2.out _ | exact hsz.out), HL.out.put 8 rfl, fun h => Up.more (E0.out (Up.set_ne (by decide) h)), fun _ => Up.more (Up.waits hi.out 7 (by kernel_rfl)), (H.out.mov np.out (only_below b5)).put 8 rfl rfl rfl rfl⟩
        · replace H := hide H
          replace HL := hide HL
          replace hi := hide hi
          replace hun := hide hun
          replace hsz := hide hsz
          replace E0 := hide E0
          replace E1 := hide E1
          refine wpOp_of_list rfl ?_
          go_wp2_with fail
          exact Then.normal ⟨_, _, _, _, _, _, _, _, _, _, _, _, _, _, _, _, _, _, rfl, (by first | exact hsz2.out _ | exact hsz.out), HL.out.put 9 rfl, fun h => Up.more (E0.out (Up.set_ne (by decide) h)), fun h => Up.more (E1.out (Up.set_ne (by decide) h)), H.out.put 9 rfl rfl rfl rfl⟩
        · obtain rfl := HL.get 9 rfl rfl (Up.waits hi 9 (by kernel_rfl))
          have d5 := (only_cell H.onl (⟨w.heap.size, 5, none⟩ : Addr) (fun h => by have h' : w.heap.size = G ∨ Z ≤ w.heap.size := h; omega) (by show w.heap.size < wr.heap.size; omega)).trans d5r
          replace H := hide H
          replace HL := hide HL
          replace hi := hide hi
          replace hun := hide hun
          replace hsz := hide hsz
          replace E0 := hide E0
          replace E1 := hide E1
          refine wpOp_of_list rfl ?_
          go_wp2_with fail
          exact Then.normal ⟨_, _, _, _, _, _, _, _, _, _, _, _, _, _, _, _, _, _, rfl, (by first | exact hsz2.out _ | exact hsz.out), HL.out.put 10 rfl, fun h => Up.more (E0.out (Up.set_ne (by decide) h)), fun h => Up.more (E1.out (Up.set_ne (by decide) h)), H.out.put 10 rfl rfl rfl rfl⟩
        · replace H := hide H
          replace HL := hide HL
          replace hi := hide hi
          replace hun := hide hun
          replace hsz := hide hsz
          replace E0 := hide E0
          replace E1 := hide E1
          refine wpOp_of_list rfl ?_
          go_wp2_with fail
          exact Then.normal ⟨_, _, _, _, _, _, _, _, _, _, _, _, _, _, _, _, _, _, rfl, (by first | exact hsz2.out _ | exact hsz.out), HL.out.put 11 rfl, fun h => Up.more (E0.out (Up.set_ne (by decide) h)), fun h => Up.more (E1.out (Up.set_ne (by decide) h)), H.out.put 11 rfl rfl rfl rfl⟩
        · obtain rfl := HL.get 10 rfl rfl (Up.waits hi 10 (by kernel_rfl))
          obtain rfl := HL.get 11 rfl rfl (Up.waits hi 11 (by kernel_rfl))
          replace H := hide H
          replace HL := hide HL
          replace hi := hide hi
          replace hun := hide hun
          replace hsz := hide hsz
          replace E0 := hide E0
          replace E1 := hide E1
          refine wpOp_of_list rfl ?_
          go_wp2_with fail
          exact Then.normal ⟨_, _, _, _, _, _, _, _, _, _, _, _, _, _, _, _, _, _, rfl, (by first | exact hsz2.out _ | exact hsz.out), HL.out.put 12 rfl, fun h => Up.more (E0.out (Up.set_ne (by decide) h)), fun h => Up.more (E1.out (Up.set_ne (by decide) h)), H.out.put 12 rfl rfl rfl rfl⟩
        · obtain rfl := HL.get 12 rfl rfl (Up.waits hi 12 (by kernel_rfl))
          have hcl : ∀ j' z, ys[j']? = some z → w'.cell? ((⟨bv, ov + j * 6, none⟩ : Addr).add j') = some z := fun j' z hz => by rw [add_flat, only_cell (hcw.out.trans H.onl) (⟨bv, ov + j * 6 + j', none⟩ : Addr) (fun h => by have h' : bv = G ∨ Z ≤ bv := h; omega) hbvw]; exact hcc.out j' z hz
          replace hcl := hide hcl
          replace H := hide H
          replace HL := hide HL
          replace hi := hide hi
          replace hun := hide hun
          replace hsz := hide hsz
          replace E0 := hide E0
          replace E1 := hide E1
          refine wpOp_of_list rfl ?_
          go_wp2_with (refine wpList_load_at rfl _ _ rfl ⟨bv, ov + j * 6, none⟩ rfl ys _ hcl.out Tryz.underlying26 rfl (by rw [hy6'.out]; exact val_size) ?_)
          exact Then.normal ⟨_, _, _, _, _, _, _, _, _, _, _, _, _, _, _, _, _, _, rfl, (by first | exact hsz2.out _ | exact hsz.out), HL.out.put 13 rfl, fun h => Up.more (E0.out (Up.set_ne (by decide) h)), fun h => Up.more (E1.out (Up.set_ne (by decide) h)), H.out.put 13 rfl rfl rfl rfl⟩
        · obtain rfl := HL.get 13 rfl rfl (Up.waits hi 13 (by kernel_rfl))
          have hjx := hide (JAt.keep (B := B) (w' := w') (fun p hp => only_cell (hcw.out.trans H.onl) p (fun h => by have h' : p.block = G ∨ Z ≤ p.block := h; omega) (by omega)) (Nat.le_refl _) n _ _ hji'.out)
          have hBw' : B ≤ w'.heap.size := by have := H.onl.size; omega
          replace H := hide H
          replace HL := hide HL
          replace hi := hide hi
          replace hun := hide hun
          replace hsz := hide hsz
          replace E0 := hide E0
          replace E1 := hide E1
          refine wpOp_of_list rfl ?_
          go_wp2_with (go_at_call 30; refine (hSi.out w' B _ hBw' hjx.out).mono ?_; rintro e5 W5 ⟨z, rfl, hz, b5⟩)
          exact Then.normal ⟨_, _, _, _, _, _, _, _, _, _, _, _, _, _, _, _, _, _, rfl, (by first | exact hsz2.out _ | exact hsz.out), HL.out.put 14 rfl, fun h => Up.more (E0.out (Up.set_ne (by decide) h)), fun h => Up.more (E1.out (Up.set_ne (by decide) h)), H.out.cc hun.out rfl rfl rfl hGZ hZwr (by omega) (only_below b5) hz⟩
        · obtain rfl := HL.get 8 rfl rfl (Up.waits hi 8 (by kernel_rfl))
          have u14 := hide (Up.waits hi 14 (by kernel_rfl))
          obtain ⟨z, rfl, hz⟩ := H.fc u14.out (Up.no hun)
          have hzs := hide hz.sz
          have hrk : QAt w' (Pa (w.heap.size + 2) G (.slice A (2 * j) c)) [.string opVal, .string ⟨#[]⟩, .int .i64 4, .int .i64 0, .string kj, .slice none 0 0, .slice none 0 0, .slice none 0 0, .slice none 0 0, .slice none 0 0, .slice none 0 0, .slice none 0 0] (valQ (txtJ kj)) := QAt.ofVal (v := txtJ kj) rfl rfl rfl (show kj.size ≤ 9223372036854775807 from hkz.out) (show (-9223372036854775808 : Int) ≤ 4 ∧ (4 : Int) ≤ 9223372036854775807 by decide) (show (-9223372036854775808 : Int) ≤ 0 ∧ (0 : Int) ≤ 9223372036854775807 by decide)
          have hry := hide ((QRow.one hrk).append (QRow.one hz))
          replace hz := hide hz
          replace hrk := hide hrk
          replace H := hide H
          replace HL := hide HL
          replace hi := hide hi
          replace hun := hide hun
          replace hsz := hide hsz
          replace E0 := hide E0
          replace E1 := hide E1
          refine wpOp_of_list rfl ?_
          go_wp2_with (refine wpList_bs2 rfl _ _ rfl [.string opVal, .string ⟨#[]⟩, .int .i64 4, .int .i64 0, .string kj, .slice none 0 0, .slice none 0 0, .slice none 0 0, .slice none 0 0, .slice none 0 0, .slice none 0 0, .slice none 0 0] z rfl rfl rfl hzs.out ?_; intro W6 k6 o6 s6)
          exact Then.normal ⟨_, _, _, _, _, _, _, _, _, _, _, _, _, _, _, _, _, _, rfl, (by first | exact hsz2.out _ | exact hsz.out), HL.out.put 15 rfl, fun _ => Up.more (Up.waits hi.out 8 (by kernel_rfl)), fun h => Up.more (E1.out (Up.set_ne (by decide) h)), H.out.cb hun.out u14.out rfl rfl hry.out o6 k6⟩
        · obtain rfl := HL.get 1 rfl rfl (Up.waits hi 1 (by kernel_rfl))
          have u15 := hide (Up.waits hi 15 (by kernel_rfl))
          have u1 := hide (Up.waits hi 1 (by kernel_rfl))
          have np := Up.no hun
          obtain ⟨K, rs, rfl, hrk, hrr'⟩ := H.fb u15.out np
          have hown := hide (H.f0 np).own
          have hyl := hide hrr'.length
          have hyo := hide hrr'.ones
          have hyc : ∀ j' u, rs[j']? = some u → w'.cell? ((⟨K, 0, none⟩ : Addr).add j') = some u := fun j' u hu => by rw [add_flat, Nat.zero_add, hrk.cell]; simpa using hu
          replace hyc := hide hyc
          have hZw : Z ≤ w'.heap.size := by have := H.onl.size; omega
          replace hrk := hide hrk
          replace hrr' := hide hrr'
          replace np := hide np
          replace H := hide H
          replace HL := hide HL
          replace hi := hide hi
          replace hun := hide hun
          replace hsz := hide hsz
          replace E0 := hide E0
          replace E1 := hide E1
          refine wpOp_of_list rfl ?_
          go_wp2_with (refine wpList_append_fresh rfl _ _ 37 rfl Z 41 i0 (.agg zC) 12 232 Tryz.underlying37 hi0.out hz0.out hz1.out hz2.out rfl (by decide) (.slice A (2 * j) c) (2 * j) xs rfl hown.out ⟨K, 0, none⟩ 2 2 rs rfl hyl.out (by decide) hyc.out hyo.out (by unfold maxLen; omega) (by omega) hZw ?_; intro v7 W7 own7 g7 f7; obtain ⟨A', c', rfl, -, -⟩ := own_sl own7)
          exact Then.normal ⟨_, _, _, _, _, _, _, _, _, _, _, _, _, _, _, _, _, _, rfl, (by first | exact hsz2.out _ | exact hsz.out), HL.out.put 16 rfl, fun h => Up.more (E0.out (Up.set_ne (by decide) h)), fun h => Up.more (E1.out (Up.set_ne (by decide) h)), H.out.cp hun.out u15.out u1.out rfl hGZ hZwr hrr'.out own7 g7 f7⟩
        · replace H := hide H
          replace HL := hide HL
          replace hi := hide hi
          replace hun := hide hun
          replace hsz := hide hsz
          replace E0 := hide E0
          replace E1 := hide E1
          refine wpOp_of_list rfl ?_
          go_wp2_with fail
          exact Then.normal ⟨_, _, _, _, _, _, _, _, _, _, _, _, _, _, _, _, _, _, rfl, (by first | exact hsz2.out _ | exact hsz.out), HL.out.put 17 rfl, fun h => Up.more (E0.out (Up.set_ne (by decide) h)), fun h => Up.more (E1.out (Up.set_ne (by decide) h)), H.out.put 17 rfl rfl rfl rfl⟩
        · obtain rfl := HL.get 17 rfl rfl (Up.waits hi 17 (by kernel_rfl))
          have u16 := hide (Up.waits hi 16 (by kernel_rfl))
          obtain ⟨A', c', xs', rfl, h1, -⟩ := H.fp u16.out
          have kq := H.kg (Up.no hun)
          have q8 := kq.cell 8
          have q9 := kq.frozen 8
          simp [ofC] at q8
          have kq2 := kq.set_ 8 (.slice A' (2 * j + 2) c')
          have o8 : Only (· = G) w' (w'.setCell ⟨G, 8, none⟩ (.slice A' (2 * j + 2) c')) := (Only.refl (· = G) w').setCell (p := ⟨G, 8, none⟩) (Or.inl rfl) _
          replace kq := hide kq
          replace kq2 := hide kq2
          replace o8 := hide o8
          replace h1 := hide h1
          replace H := hide H
          replace HL := hide HL
          replace hi := hide hi
          replace hun := hide hun
          replace hsz := hide hsz
          replace E0 := hide E0
          replace E1 := hide E1
          refine wpOp_of_list rfl ?_
          go_wp2_with fail
          exact Then.normal ⟨_, _, _, _, _, _, _, _, _, _, _, _, _, _, _, _, _, _, rfl, (by first | exact hsz2.out _ | exact hsz.out), HL.out.put 18 rfl, fun h => Up.more (E0.out (Up.set_ne (by decide) h)), fun h => Up.more (E1.out (Up.set_ne (by decide) h)), H.out.cs hun.out u16.out hGZ h1.out o8.out kq2.out⟩
      case stop =>
        rintro listed a w' ⟨s79, s80, s81, s82, s83, s84, s85, s86, s87, s88, s89, s90, s91, s92, s93, s94, s95, s96, rfl, hsz, HL, E0, E1, H⟩ hi
        have hall := Up.all hsz (by kernel_rfl) hi
        obtain ⟨A', c', xs', -, h1, h2⟩ := H.fp (hall 16 (by decide))
        have hk := hide (h2 (hall 18 (by decide)))
        have ho9 := hide H.onl
        clear H HL hall hi h2 E0 E1
        replace h1 := hide h1
        go_wp2_with fail
        go_roundw
        case rel => exact ⟨j + 1, A', c', xs', by go_num, by omega, hk.out, by rw [hKVt.out j kj vj hkj.out hvj.out]; exact h1.out, ho.out.trans ho9.out⟩
        case measure => simp [Lib.intOf]; omega
    · replace kG := hide kG
      replace ho := hide ho
      have hrow := hide (QRow.vec (P := (w.heap.size + 2 ≤ ·)) (A := A) (c := c) (base := Z) (xs := xs) (qs := KV.take (2 * j)) (HA.row.only (Only.refl (fun _ => False) wr) (fun _ _ _ h => h) (fun b _ h => h.1)) (by rw [List.length_take, hKVl.out, Nat.min_eq_left (by omega)]; exact HA.own) (fun g h _ => by show w.heap.size + 2 ≤ g; have := hGZ; omega))
      have hown := hide HA.own
      replace HA := hide HA
      go_wp2_with (first
        | (refine wpList_load_row rfl _ _ rfl G rfl 41 (ofC opObj A (2 * j) c).toArray (0, 0) _ kG.out Tryz.underlying41 rfl q_size ?_)
        | (refine wpList_store_blk rfl _ _ _ rfl (w.heap.size + 1) (ofC opObj A (2 * j) c).toArray rfl rfl 41 _ hrr.out q_size rfl (by simp [ofC, Value.oneCell']) ?_; intro W5 k5 o5 s5; replace k5 := hide k5; replace o5 := hide o5; clear s5))
      (try simp only [Exit.inBlock, Exit.then])
      have hjN' : j = N := by omega
      have hKj : KV.take (2 * j) = KV := List.take_of_length_le (by rw [hKVl.out]; omega)
      obtain ⟨A', c', e1, hc1, hc2⟩ := own_sl hown.out
      injection e1 with e1 _ e2
      subst e1
      subst e2
      have hr5 := hrow.out.only o5.out (fun b h1 _ e => by have h1' : w.heap.size + 2 ≤ b := h1; have e' : b = w.heap.size + 1 := e; omega) (P' := (w.heap.size ≤ ·)) (fun b _ h => by have h1' : w.heap.size + 2 ≤ b := h; show w.heap.size ≤ b; omega)
      rw [hKj] at hr5
      refine ret_q Tryz.results30 (w.heap.size + 1) _ rfl rfl k5.out rfl ⟨ofC opObj A (2 * j) c, rfl, ?_, ?_⟩
      · exact QAt.of (by rw [hKVl.out, hjN']) (by decide) hc1 (by unfold maxLen at hc2; omega) hr5
      · exact ((hcw.out.below (B := w.heap.size) (by intro k hk; omega) (Nat.le_refl _)).trans (o5.out.below (by intro k hk; omega) hBwr))
end Go.Proofs.YtbnbemacljjimaaGreatDoor
