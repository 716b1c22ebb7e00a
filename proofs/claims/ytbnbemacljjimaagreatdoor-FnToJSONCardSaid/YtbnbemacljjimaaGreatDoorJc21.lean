/- The reader's objects: the walk (printed by mkrdq.py). -/
import Derived.Test.YtbnbemacljjimaaGreatDoorJc20
namespace Go.Proofs.YtbnbemacljjimaaGreatDoor
open Go.RowKit Go.Lib
set_option linter.unusedVariables false

set_option maxHeartbeats 2000000 in
set_option maxRecDepth 100000 in
theorem object_empty {r : Nat} {s : ByteArray} {rest : List UInt8} (hs : s.size ≤ 1000000) (hf : Fol rest) : FnSays 194 r s (125 :: rest) rest (ofQ opObj []) := by
  intro w hR
  have hrw := hR.lt
  obtain ⟨W0, hW0⟩ : ∃ W0, W0 = w.alloc (.cells zC 41) := ⟨_, rfl⟩
  have o0 : Only (· = r) w W0 := by rw [hW0]; exact (Only.refl _ w).alloc _
  have k0 : Blk W0 w.heap.size 41 zC := by rw [hW0]; exact Blk.new w _ _
  have s0 : W0.heap.size = w.heap.size + 1 := by rw [hW0]; simp
  have hR0 : Ready W0 r s (125 :: rest) := by rw [hW0]; exact hR.only ((Only.refl (fun _ => False) w).alloc _) (fun h => h)
  replace o0 := hide o0
  replace s0 := hide s0
  replace hR0 := hide hR0
  replace k0 := hide k0
  clear hR
  unfold zC at hW0
  go_enter Tryz.func194, Tryz.ntmps194
  go_wp2_with fail
  rw [← hW0]
  clear hW0
  refine (of_any W0 opObj none 0 0).mono ?_
  rintro e W1 ⟨rfl, b1⟩
  have k1 := hide (k0.out.below b1 k0.out.lt)
  have l1 := b1.size
  have o1 : Only (fun _ => False) W0 W1 := Only.of_below b1 (fun k hk _ => hk)
  have hR1 := hide (hR0.out.only o1 (fun h => h))
  replace o1 := hide o1
  clear b1
  have hrG : ¬ W1.heap.size = r := by have := s0.out; omega
  go_wp2_with (first
    | (refine wpList_store_blk rfl _ _ _ rfl W1.heap.size (ofC opObj none 0 0).toArray rfl rfl 41 _ (Blk.new W1 _ _) q_size rfl (by simp [ofC, Value.oneCell']) ?_; intro W3 k3 o3 s3; replace k3 := hide k3; replace o3 := hide (only_new o3); clear s3; have k13 := hide (o3.out.blk k1.out (fun h => h)); have hw := hide (is_this W3 r s 125 rest (hR1.out.only o3.out (fun h => h)) (by unfold opc; simp) hs hf.ok))
    | (go_at_call 54; refine hw.out.mono ?_; rintro e W4 ⟨rfl, hR4, o4⟩; have k4 := hide (o4.blk k3.out hrG); have kR4 := hide (o4.blk k13.out (by omega)); replace hR4 := hide hR4; replace o4 := hide o4)
    | (refine wpList_load_row rfl _ _ rfl W1.heap.size rfl 41 (ofC opObj none 0 0).toArray (0, 0) _ k4.out Tryz.underlying41 rfl q_size ?_)
    | (refine wpList_store_blk rfl _ _ _ rfl w.heap.size (ofC opObj none 0 0).toArray rfl rfl 41 _ kR4.out q_size rfl (by simp [ofC, Value.oneCell']) ?_; intro W5 k5 o5 s5; replace k5 := hide k5; replace o5 := hide o5; clear s5))
  (try simp only [Exit.inBlock, Exit.then])
  refine ret_q Tryz.results194 w.heap.size (ofC opObj none 0 0).toArray rfl rfl k5.out rfl ⟨_, rfl, ?_, ?_, ?_⟩
  · exact QAt.of rfl (by decide) (by decide) (by decide) (fun h => absurd h (by decide))
  · exact hR4.out.only o5.out (by omega)
  · exact (((o0.out.trans o1.out.no).trans o3.out.no).trans o4.out).back o5.out (fun b h => Or.inr (by omega))

theorem kvM_take {es : List Mem} {j : Nat} {e : Mem} (h : es[j]? = some e) : kvM (es.take (j + 1)) = kvM (es.take j) ++ [valQ (txtJ (mkB e.1)), e.2.2] := by
  rw [List.take_add_one, h]
  exact kvM_snoc _ _
theorem drop_at {es : List Mem} {j : Nat} {e : Mem} (h : es[j]? = some e) : es.drop j = e :: es.drop (j + 1) := by
  have hj := (List.getElem?_eq_some_iff.1 h)
  rw [List.drop_eq_getElem_cons hj.1, hj.2]
theorem mtx_ok (e : Mem) (m : List UInt8) : OkTok (mtx e ++ m) := Or.inr ⟨34, _, rfl, Or.inl rfl⟩

set_option maxHeartbeats 16000000 in
set_option maxRecDepth 100000 in
theorem object_all {r : Nat} {s : ByteArray} {e0 : Mem} {es0 : List Mem} {rest : List UInt8} (hs : s.size ≤ 1000000) (hf : Fol rest) (hE : ∀ e ∈ e0 :: es0, MemSays r s e.2.1 e.2.2) (hlen : es0.length ≤ 100000) :
    FnSays 194 r s (mtx e0 ++ tailM es0 rest) rest (ofQ opObj (kvM (e0 :: es0))) := by
  obtain ⟨es, hes⟩ : ∃ es, e0 :: es0 = es := ⟨_, rfl⟩
  have hes0 : es[0]? = some e0 := by rw [← hes]; rfl
  have hes1 : es.drop 1 = es0 := by rw [← hes]; rfl
  have hesl : 0 < es.length ∧ es.length ≤ 100001 := by rw [← hes, List.length_cons]; omega
  rw [hes] at hE ⊢
  rw [← hes1]
  clear hes hes1
  intro w hR
  have hrw := hR.lt
  obtain ⟨W0, hW0⟩ : ∃ W0, W0 = w.alloc (.cells zC 41) := ⟨_, rfl⟩
  have o0 : Only (· = r) w W0 := by rw [hW0]; exact (Only.refl _ w).alloc _
  have k0 : Blk W0 w.heap.size 41 zC := by rw [hW0]; exact Blk.new w _ _
  have s0 : W0.heap.size = w.heap.size + 1 := by rw [hW0]; simp
  have hR0 : Ready W0 r s (mtx e0 ++ tailM (es.drop 1) rest) := by rw [hW0]; exact hR.only ((Only.refl (fun _ => False) w).alloc _) (fun h => h)
  obtain ⟨i0, hi0, hz0, hz1, hz2⟩ := info_parts Tryz.infoQ
  replace hi0 := hide hi0
  replace hz0 := hide hz0
  replace hz1 := hide hz1
  replace hz2 := hide hz2
  replace o0 := hide o0
  replace s0 := hide s0
  replace hR0 := hide hR0
  replace k0 := hide k0
  replace hE := hide hE
  replace hf := hide hf
  replace hes0 := hide hes0
  clear hR
  unfold zC at hW0
  go_enter Tryz.func194, Tryz.ntmps194
  go_wp2_with fail
  rw [← hW0]
  clear hW0
  refine (of_any W0 opObj none 0 0).mono ?_
  rintro e W1 ⟨rfl, b1⟩
  have k1 := hide (k0.out.below b1 k0.out.lt)
  have l1 := b1.size
  have o1 : Only (fun _ => False) W0 W1 := Only.of_below b1 (fun k hk _ => hk)
  have hR1 := hide (hR0.out.only o1 (fun h => h))
  replace o1 := hide o1
  clear b1
  go_upto_region 2 with (refine wpList_store_blk rfl _ _ _ rfl W1.heap.size (ofC opObj none 0 0).toArray rfl rfl 41 _ (Blk.new W1 _ _) q_size rfl (by simp [ofC, Value.oneCell']) ?_; intro W3 k3 o3 s3; replace k3 := hide k3; replace o3 := hide (only_new o3); clear s3; have k13 := hide (o3.out.blk k1.out (fun h => h)))
  have hR3 := hide (hR1.out.only o3.out (fun h => h))
  have hRG : w.heap.size < W1.heap.size := by have := s0.out; omega
  obtain ⟨G, hG⟩ : ∃ G, W1.heap.size = G := ⟨_, rfl⟩
  rw [hG] at k3 hRG ⊢
  go_wp2_with (go_at_call 54; refine (is_not W3 r s _ _ hR3.out (Or.inl (Or.inr (Or.inl rfl)))).mono ?_; rintro e w2 ⟨rfl, rfl⟩)
  go_loopw [4] (fun s4 wr => ∃ (j : Nat) (b : Bool) (A : Option Addr) (c : Nat) (xs : List Value), s4 = .bool b ∧ j ≤ es.length ∧ (b = true → ∃ e, es[j]? = some e ∧ Ready wr r s (mtx e ++ tailM (es.drop (j + 1)) rest)) ∧ (b = false → j = es.length ∧ Ready wr r s (125 :: rest)) ∧ ObS wr wr r w.heap.size G (2 * j) c A xs (kvM (es.take j)) ∧ Only (· = r) w wr) (fun _ wr => s.size - posOf wr r)
  case atStart =>
    refine ⟨0, true, none, 0, [], rfl, Nat.zero_le _, fun _ => ⟨e0, hes0.out, hR3.out⟩, fun h => (by cases h), ⟨Only.refl _ _, k13.out, k3.out, World.ownsRow_nil _ _ _ _, rfl⟩, (o0.out.trans o1.out.no).trans o3.out.no⟩
  case round =>
    clear hR3 k13 k3 o3 hR1 o1 k1 hR0 k0 o0 s0 hG
    obtain ⟨j, b, A, c, xs, rfl, hj, hT, hF, H, ho⟩ := hrel
    have hrr : r < w.heap.size := hrw
    cases b with
    | true =>
      obtain ⟨e, he, hRd⟩ := hT rfl
      clear hT hF
      have hjl := (List.getElem?_eq_some_iff.1 he).1
      have hM := hE.out e (List.mem_of_getElem? he)
      obtain ⟨hok1, hmem⟩ := hM _ (tailM_fol rest (es.drop (j + 1)))
      have hkv := hide (kvM_take he)
      have hpos := hRd.pos
      obtain ⟨tl, htl⟩ : ∃ tl, tailM (es.drop (j + 1)) rest = tl := ⟨_, rfl⟩
      have htf : Fol tl := by rw [← htl]; exact tailM_fol rest _
      rw [htl] at hRd hmem hok1 hpos
      have hkey : FnSays 191 r s (mtx e ++ tl) (58 :: (e.2.1 ++ tl)) (valQ (txtJ (mkB e.1))) := by
        have := key_str (r := r) (L := e.1) (rest := 58 :: (e.2.1 ++ tl)) hs (Or.inr ⟨58, _, rfl, by simp⟩)
        have e1 : mtx e ++ tl = 34 :: (qL e.1 ++ 34 :: (58 :: (e.2.1 ++ tl))) := by unfold mtx; simp
        rw [e1]
        exact this
      have hk2 := (nx_str (m := qL e.1 ++ 34 :: (58 :: e.2.1) ++ tl)).1
      obtain ⟨-, -, c2, -, c4⟩ := hRd.cells
      have hkd : nxK (mtx e ++ tl) = kStr := rfl
      rw [hkd] at c2
      unfold kStr at c2
      have hlR := H.kR.lt
      have hlQ := H.kQ.lt
      replace hkd := hide hkd
      replace hkey := hide hkey
      replace hmem := hide hmem
      replace hok1 := hide hok1
      replace htl := hide htl
      replace htf := hide htf
      replace hpos := hide hpos
      replace hk2 := hide hk2
      replace he := hide he
      replace H := hide H
      replace ho := hide ho
      replace hRd := hide hRd
      clear hM
      go_wp2_with fail
      refine (hkey.out wr hRd.out).mono ?_
      rintro e2 W4 ⟨u, rfl, hu, hR4, o4⟩
      have H4 := H.out.move hrr hRG o4 (fun k h => h)
      have l4 := o4.size
      have hus := hide hu.sz
      have hua := hide hu.all
      have hown4 : ∀ k, (Value.slice A (2 * j) c).ownBlock = some k → k < wr.heap.size := fun k hk => (own_ge H.out.own hk).2
      have hru4 : QRow W4 (Pw w.heap.size G (.slice A (2 * j) c)) u [valQ (txtJ (mkB e.1))] := QRow.one (hu.only (Only.refl (fun _ => False) W4) (fun _ _ _ h => h) (fun b _ (h : wr.heap.size ≤ b) => ⟨by omega, by omega, fun hb => by have := hown4 b hb; omega⟩))
      replace hu := hide hu
      replace hR4 := hide hR4
      replace o4 := hide o4
      replace H4 := hide H4
      replace hru4 := hide hru4
      go_upto_region 10 with (refine wpList_store_blk rfl _ _ _ rfl W4.heap.size u.toArray rfl rfl 41 _ (Blk.new W4 _ _) (by rw [hus.out]; exact q_size) (by rw [hus.out]; rfl) hua.out ?_; intro W5 k5 o5 s5; replace k5 := hide k5; replace o5 := hide (only_new o5); clear s5)
      have H5 := H4.out.move hrr hRG o5.out (fun k h => h.elim)
      have hR5 := hR4.out.only o5.out (fun h => h)
      have hru5 := hru4.out.only o5.out (fun _ _ _ h => h) (P' := Pw w.heap.size G (.slice A (2 * j) c)) (fun b _ h => h)
      have l5 := o5.out.size
      obtain ⟨K, hK⟩ : ∃ K, W4.heap.size = K := ⟨_, rfl⟩
      rw [hK] at k5 ⊢
      have hKr : ¬ K = r := by omega
      have hKW : K < W5.heap.size := k5.out.lt
      replace hK := hide hK
      replace H5 := hide H5
      replace hR5 := hide hR5
      replace hru5 := hide hru5
      go_wp2_with fail
      refine (is_this W5 r s 58 _ hR5.out (by unfold opc; simp) hs hok1.out).mono ?_
      rintro e3 W6 ⟨rfl, hR6, o6⟩
      have H6 := H5.out.move hrr hRG o6 (fun k h => h)
      have k6 := hide (o6.blk k5.out hKr)
      have hru6 := hide (hru5.out.only o6 (fun b hb _ h => by have := hb.1; omega) (P' := Pw w.heap.size G (.slice A (2 * j) c)) (fun b _ h => h))
      have l6 := o6.size
      replace H6 := hide H6
      replace hR6 := hide hR6
      replace o6 := hide o6
      go_upto_region 11 with fail
      have hob : ObS W6 W6.drew r w.heap.size G (2 * j) c A xs (kvM (es.take j)) := (ObS.mk (Only.refl _ W6) H6.out.kR H6.out.kQ H6.out.own H6.out.row).move hrr hRG ((Only.refl (fun _ => False) W6).drew) (fun k h => h.elim)
      have hrud := hru6.out.only ((Only.refl (fun _ => False) W6).drew) (fun _ _ _ h => h) (P' := Pw w.heap.size G (.slice A (2 * j) c)) (fun b _ h => h)
      have hjb : j ≤ 100001 := by omega
      have hGK : G < K := by have := hK.out; omega
      replace hob := hide hob
      replace hrud := hide hrud
      refine wp_region_inv (by kernel_rfl) (fun listed a w' => ∃ s39 s40 s41 s42 s43 s44 s45 s46, a = ⟨#[.pointer (some ⟨r, 0, none⟩), undef, .pointer (some ⟨w.heap.size, 0, none⟩), .pointer (some ⟨G, 0, none⟩), .bool true, .pointer (some ⟨K, 0, none⟩), .agg (ofC opObj none 0 0).toArray, .pointer (some ⟨r, 0, none⟩), .bool false, undef, .bool true, .bool true, .pointer (some ⟨r, 0, none⟩), .pointer (some ⟨r, 0, none⟩), .pointer (some ⟨r, 4, none⟩), .bool false, .bool true, .bool true, u18, u19, .pointer (some ⟨r, 0, none⟩), .pointer (some ⟨r, 0, none⟩), .pointer (some ⟨r, 2, none⟩), .pointer (some ⟨r, 2, none⟩), .string ⟨#[115, 116, 114]⟩, .bool false, u26, u27, u28, u29, u30, u31, u32, u33, u34, .pointer (some ⟨r, 0, none⟩), .agg u.toArray, .pointer (some ⟨r, 0, none⟩), .bool true, s39, s40, s41, s42, s43, s44, s45, s46, u47, u48, u49, u50, u51, u52, u53, undef, undef, undef], []⟩ ∧ listed.size = 9 ∧ (Up listed 0 → s39 = .pointer (some ⟨G, 8, none⟩)) ∧ (Up listed 1 → s40 = .slice A (2 * j) c) ∧ (Up listed 2 → s41 = .agg u.toArray) ∧ (Up listed 3 → s42 = .pointer (some ⟨r, 0, none⟩)) ∧ (Up listed 7 → s46 = .pointer (some ⟨G, 8, none⟩)) ∧ PhO W6 r w.heap.size G K (2 * j) c A xs (kvM (es.take j)) s u (valQ (txtJ (mkB e.1))) e.2.2 (e.2.1 ++ tl) tl listed w' s43 s44 s45) ?start ?step ?stop
      case start => exact ⟨_, _, _, _, _, _, _, _, rfl, rfl, fun h => (Up.start h).elim, fun h => (Up.start h).elim, fun h => (Up.start h).elim, fun h => (Up.start h).elim, fun h => (Up.start h).elim, .p0 (fun h => (Up.start h).elim) (fun h => (Up.start h).elim) (fun h => (Up.start h).elim) (fun h => (Up.start h).elim) hob.out k6.out hrud.out hR6.out⟩
      case step =>
        rintro listed a w' i ⟨s39, s40, s41, s42, s43, s44, s45, s46, rfl, hsz, f0, f1, f2, f3, f7, HP⟩ hi
        have hun := Up.un hi
        have hlt9 : i < 9 := by
          obtain ⟨-, o, ho, -⟩ := mem_ready.1 hi
          rcases Nat.lt_or_ge i 9 with h | h
          · exact h
          · rw [Array.getElem?_eq_none (by exact h)] at ho
            cases ho
        have hsz2 : ∀ i, (listed.setIfInBounds i true).size = 9 := fun i => by rw [Array.size_setIfInBounds]; exact hsz
        replace hsz2 := hide hsz2
        have hi9 : i = 0 ∨ i = 1 ∨ i = 2 ∨ i = 3 ∨ i = 4 ∨ i = 5 ∨ i = 6 ∨ i = 7 ∨ i = 8 := by omega
        rcases hi9 with rfl | rfl | rfl | rfl | rfl | rfl | rfl | rfl | rfl
        · replace HP := hide HP
          replace f0 := hide f0
          replace f1 := hide f1
          replace f2 := hide f2
          replace f3 := hide f3
          replace f7 := hide f7
          replace hi := hide hi
          replace hun := hide hun
          replace hsz := hide hsz
          refine wpOp_of_list rfl ?_
          go_wp2_with fail
          exact Then.normal ⟨_, _, _, _, _, _, _, _, rfl, (by first | exact hsz.out | exact hsz2.out _), fun _ => rfl, (fun h => by first | rfl | exact f1.out (Up.set_ne (by decide) h)), (fun h => by first | rfl | exact f2.out (Up.set_ne (by decide) h)), (fun h => by first | rfl | exact f3.out (Up.set_ne (by decide) h)), (fun h => by first | rfl | exact f7.out (Up.set_ne (by decide) h)), HP.out.put 0 (by decide) (by decide) (by decide) (by decide)⟩
        · obtain rfl := f0 (Up.waits hi 0 (by kernel_rfl))
          have q8 := (HP.kQ (Up.no hun)).cell 8
          simp [ofC] at q8
          replace HP := hide HP
          replace f0 := hide f0
          replace f1 := hide f1
          replace f2 := hide f2
          replace f3 := hide f3
          replace f7 := hide f7
          replace hi := hide hi
          replace hun := hide hun
          replace hsz := hide hsz
          refine wpOp_of_list rfl ?_
          go_wp2_with fail
          exact Then.normal ⟨_, _, _, _, _, _, _, _, rfl, (by first | exact hsz.out | exact hsz2.out _), (fun h => by first | rfl | exact f0.out (Up.set_ne (by decide) h)), fun _ => rfl, (fun h => by first | rfl | exact f2.out (Up.set_ne (by decide) h)), (fun h => by first | rfl | exact f3.out (Up.set_ne (by decide) h)), (fun h => by first | rfl | exact f7.out (Up.set_ne (by decide) h)), HP.out.put 1 (by decide) (by decide) (by decide) (by decide)⟩
        · have kk := hide (HP.kK (Up.no hun))
          replace HP := hide HP
          replace f0 := hide f0
          replace f1 := hide f1
          replace f2 := hide f2
          replace f3 := hide f3
          replace f7 := hide f7
          replace hi := hide hi
          replace hun := hide hun
          replace hsz := hide hsz
          refine wpOp_of_list rfl ?_
          go_wp2_with (refine wpList_load_row rfl _ _ rfl K rfl 41 u.toArray (0, 0) _ kk.out Tryz.underlying41 rfl (by rw [hus.out]; exact q_size) ?_)
          exact Then.normal ⟨_, _, _, _, _, _, _, _, rfl, (by first | exact hsz.out | exact hsz2.out _), (fun h => by first | rfl | exact f0.out (Up.set_ne (by decide) h)), (fun h => by first | rfl | exact f1.out (Up.set_ne (by decide) h)), fun _ => rfl, (fun h => by first | rfl | exact f3.out (Up.set_ne (by decide) h)), (fun h => by first | rfl | exact f7.out (Up.set_ne (by decide) h)), HP.out.put 2 (by decide) (by decide) (by decide) (by decide)⟩
        · replace HP := hide HP
          replace f0 := hide f0
          replace f1 := hide f1
          replace f2 := hide f2
          replace f3 := hide f3
          replace f7 := hide f7
          replace hi := hide hi
          replace hun := hide hun
          replace hsz := hide hsz
          refine wpOp_of_list rfl ?_
          go_wp2_with fail
          exact Then.normal ⟨_, _, _, _, _, _, _, _, rfl, (by first | exact hsz.out | exact hsz2.out _), (fun h => by first | rfl | exact f0.out (Up.set_ne (by decide) h)), (fun h => by first | rfl | exact f1.out (Up.set_ne (by decide) h)), (fun h => by first | rfl | exact f2.out (Up.set_ne (by decide) h)), fun _ => rfl, (fun h => by first | rfl | exact f7.out (Up.set_ne (by decide) h)), HP.out.put 3 (by decide) (by decide) (by decide) (by decide)⟩
        · obtain rfl := f3 (Up.waits hi 3 (by kernel_rfl))
          have hno := Up.no hun
          cases HP with
          | p1 u4 n5 n6 n8 h k ru z e' hz rd => exact absurd u4 hno
          | p2 u2 u4 u5 n6 n8 h ys g e' kg ry rd => exact absurd u4 hno
          | p3 u1 u2 u4 u5 u6 n8 A' c' e' h rd => exact absurd u4 hno
          | p4 u1 u2 u4 u5 u6 u8 A' c' h rd => exact absurd u4 hno
          | p0 n4 n5 n6 n8 h k ru rd =>
            have lQ := h.kQ.lt
            have lown : ∀ k, (Value.slice A (2 * j) c).ownBlock = some k → k < w'.heap.size := fun k hk => (own_ge h.own hk).2
            have hKw := k.lt
            replace h := hide h
            replace k := hide k
            replace ru := hide ru
            replace n4 := hide n4
            replace n5 := hide n5
            replace n6 := hide n6
            replace n8 := hide n8
            replace lown := hide lown
            replace f0 := hide f0
            replace f1 := hide f1
            replace f2 := hide f2
            replace f3 := hide f3
            replace f7 := hide f7
            replace hi := hide hi
            replace hun := hide hun
            replace hsz := hide hsz
            refine wpOp_of_list rfl ?_
            go_wp2_with (go_at_call 215; refine (hmem.out w' rd).mono ?_; rintro e7 W7 ⟨z, rfl, hz, hR7, o7⟩)
            refine Then.normal ⟨_, _, _, _, _, _, _, _, rfl, (by first | exact hsz.out | exact hsz2.out _), (fun h => by first | rfl | exact f0.out (Up.set_ne (by decide) h)), (fun h => by first | rfl | exact f1.out (Up.set_ne (by decide) h)), (fun h => by first | rfl | exact f2.out (Up.set_ne (by decide) h)), (fun h => by first | rfl | exact f3.out (Up.set_ne (by decide) h)), (fun h => by first | rfl | exact f7.out (Up.set_ne (by decide) h)), ?_⟩
            exact .p1 (Up.self hun.out) (fun x => n5.out (Up.set_ne (by decide) x)) (fun x => n6.out (Up.set_ne (by decide) x)) (fun x => n8.out (Up.set_ne (by decide) x)) (h.out.move hrr hRG o7 (fun k h => h)) (o7.blk k.out hKr) (ru.out.only o7 (fun b hb _ h => by have := hb.1; omega) (fun b _ h => h)) z rfl (hz.only (Only.refl (fun _ => False) W7) (fun _ _ _ h => h) (fun b _ (h : w'.heap.size ≤ b) => ⟨by omega, by omega, fun hb => by have := lown.out b hb; omega⟩)) hR7
        · have w2 := Up.waits hi 2 (by kernel_rfl)
          have w4 := Up.waits hi 4 (by kernel_rfl)
          obtain rfl := f2 w2
          have hno := Up.no hun
          cases HP with
          | p0 n4 n5 n6 n8 h k ru rd => exact absurd w4 n4
          | p2 u2 u4 u5 n6 n8 h ys g e' kg ry rd => exact absurd u5 hno
          | p3 u1 u2 u4 u5 u6 n8 A' c' e' h rd => exact absurd u5 hno
          | p4 u1 u2 u4 u5 u6 u8 A' c' h rd => exact absurd u5 hno
          | p1 u4 n5 n6 n8 h k ru z e' hz rd =>
            subst e'
            have hzs := hide hz.sz
            replace h := hide h
            replace k := hide k
            replace ru := hide ru
            replace hz := hide hz
            replace rd := hide rd
            replace n5 := hide n5
            replace n6 := hide n6
            replace n8 := hide n8
            replace w2 := hide w2
            replace w4 := hide w4
            replace u4 := hide u4
            replace f0 := hide f0
            replace f1 := hide f1
            replace f2 := hide f2
            replace f3 := hide f3
            replace f7 := hide f7
            replace hi := hide hi
            replace hun := hide hun
            replace hsz := hide hsz
            refine wpOp_of_list rfl ?_
            go_wp2_with (refine wpList_bs2 rfl _ _ rfl u z rfl rfl hus.out hzs.out ?_; intro W7 k7 o7 s7)
            refine Then.normal ⟨_, _, _, _, _, _, _, _, rfl, (by first | exact hsz.out | exact hsz2.out _), (fun h => by first | rfl | exact f0.out (Up.set_ne (by decide) h)), (fun h => by first | rfl | exact f1.out (Up.set_ne (by decide) h)), (fun h => by first | rfl | exact f2.out (Up.set_ne (by decide) h)), (fun h => by first | rfl | exact f3.out (Up.set_ne (by decide) h)), (fun h => by first | rfl | exact f7.out (Up.set_ne (by decide) h)), ?_⟩
            exact .p2 (Up.more w2.out) (Up.more w4.out) (Up.self hun.out) (fun x => n6.out (Up.set_ne (by decide) x)) (fun x => n8.out (Up.set_ne (by decide) x)) (h.out.move hrr hRG o7 (fun k h => h.elim)) (u ++ z) w'.heap.size rfl k7 ((ru.out.append (QRow.one hz.out)).only o7 (fun _ _ _ h => h) (fun b _ h => h)) (rd.out.only o7 (fun h => h))
        · have w1 := Up.waits hi 1 (by kernel_rfl)
          have w5 := Up.waits hi 5 (by kernel_rfl)
          obtain rfl := f1 w1
          have hno := Up.no hun
          cases HP with
          | p0 n4 n5 n6 n8 h k ru rd => exact absurd w5 n5
          | p1 u4 n5 n6 n8 h k ru z e' hz rd => exact absurd w5 n5
          | p3 u1 u2 u4 u5 u6 n8 A' c' e' h rd => exact absurd u6 hno
          | p4 u1 u2 u4 u5 u6 u8 A' c' h rd => exact absurd u6 hno
          | p2 u2 u4 u5 n6 n8 h ys g e' kg ry rd =>
            subst e'
            have hyl : ys.length = 2 * 12 := ry.length
            have hyo := ry.ones
            have hyc : ∀ (i : Nat) (x : Value), ys[i]? = some x → w'.cell? ((⟨g, 0, none⟩ : Addr).add i) = some x := fun i x hx => by
              have e1 : ((⟨g, 0, none⟩ : Addr).add i) = ⟨g, i, none⟩ := by
                unfold Addr.add
                split
                · rename_i h0
                  have : i = 0 := by simpa using h0
                  subst this
                  rfl
                · simp
              rw [e1, kg.cell]
              simpa using hx
            have hown := h.own
            have hog := fun k hk => own_ge h.own (k := k) hk
            have lQ := h.kQ.lt
            replace hyl := hide hyl
            replace hyo := hide hyo
            replace hyc := hide hyc
            replace hown := hide hown
            replace hog := hide hog
            replace h := hide h
            replace kg := hide kg
            replace ry := hide ry
            replace rd := hide rd
            replace n6 := hide n6
            replace n8 := hide n8
            replace w1 := hide w1
            replace w5 := hide w5
            replace u2 := hide u2
            replace u4 := hide u4
            replace u5 := hide u5
            replace f0 := hide f0
            replace f1 := hide f1
            replace f2 := hide f2
            replace f3 := hide f3
            replace f7 := hide f7
            replace hi := hide hi
            replace hun := hide hun
            replace hsz := hide hsz
            refine wpOp_of_list rfl ?_
            go_wp2_with (refine wpList_append_fresh rfl _ _ 37 rfl (G + 1) 41 i0 (.agg zC) 12 232 Tryz.underlying37 hi0.out hz0.out hz1.out hz2.out rfl (by decide) (.slice A (2 * j) c) (2 * j) xs rfl hown.out ⟨g, 0, none⟩ 2 2 ys rfl hyl.out (by decide) hyc.out hyo.out (by unfold maxLen; omega) (by omega) (by omega) ?_; intro v7 W7 own7 g7 f7'; obtain ⟨A', c', rfl, -, -⟩ := own_sl own7)
            refine Then.normal ⟨_, _, _, _, _, _, _, _, rfl, (by first | exact hsz.out | exact hsz2.out _), (fun h => by first | rfl | exact f0.out (Up.set_ne (by decide) h)), (fun h => by first | rfl | exact f1.out (Up.set_ne (by decide) h)), (fun h => by first | rfl | exact f2.out (Up.set_ne (by decide) h)), (fun h => by first | rfl | exact f3.out (Up.set_ne (by decide) h)), (fun h => by first | rfl | exact f7.out (Up.set_ne (by decide) h)), ?_⟩
            have o7 : Only (fun k => (Value.slice A (2 * j) c).ownBlock = some k) w' W7 := (Only.refl _ w').grown g7 (fun k hk => Or.inl hk)
            refine .p3 (Up.more w1.out) (Up.more u2.out) (Up.more u4.out) (Up.more w5.out) (Up.self hun.out) (fun x => n8.out (Up.set_ne (by decide) x)) A' c' rfl ⟨h.out.onl.trans (o7.mono (fun k hk => Or.inr (Or.inr hk))), o7.blk h.out.kR (fun hk => by have := (hog.out _ hk).1; omega), o7.blk h.out.kQ (fun hk => by have := (hog.out _ hk).1; omega), ⟨_, own7, QRow.app h.out.row ry.out g7 f7'⟩⟩ (rd.out.only o7 (fun hk => by have := (hog.out _ hk).1; omega))
        · replace HP := hide HP
          replace f0 := hide f0
          replace f1 := hide f1
          replace f2 := hide f2
          replace f3 := hide f3
          replace f7 := hide f7
          replace hi := hide hi
          replace hun := hide hun
          replace hsz := hide hsz
          refine wpOp_of_list rfl ?_
          go_wp2_with fail
          exact Then.normal ⟨_, _, _, _, _, _, _, _, rfl, (by first | exact hsz.out | exact hsz2.out _), (fun h => by first | rfl | exact f0.out (Up.set_ne (by decide) h)), (fun h => by first | rfl | exact f1.out (Up.set_ne (by decide) h)), (fun h => by first | rfl | exact f2.out (Up.set_ne (by decide) h)), (fun h => by first | rfl | exact f3.out (Up.set_ne (by decide) h)), fun _ => rfl, HP.out.put 7 (by decide) (by decide) (by decide) (by decide)⟩
        · have w7 := Up.waits hi 7 (by kernel_rfl)
          have w6 := Up.waits hi 6 (by kernel_rfl)
          obtain rfl := f7 w7
          have hno := Up.no hun
          cases HP with
          | p0 n4 n5 n6 n8 h k ru rd => exact absurd w6 n6
          | p1 u4 n5 n6 n8 h k ru z e' hz rd => exact absurd w6 n6
          | p2 u2 u4 u5 n6 n8 h ys g e' kg ry rd => exact absurd w6 n6
          | p4 u1 u2 u4 u5 u6 u8 A' c' h rd => exact absurd u8 hno
          | p3 u1 u2 u4 u5 u6 n8 A' c' e' h rd =>
            subst e'
            have kq := h.kQ
            have q8 := kq.cell 8
            have q9 := kq.frozen 8
            simp [ofC] at q8
            have kq2 := kq.set_ 8 (.slice A' (2 * j + 2) c')
            have o8 : Only (· = G) w' (w'.setCell ⟨G, 8, none⟩ (.slice A' (2 * j + 2) c')) := (Only.refl (· = G) w').setCell (p := ⟨G, 8, none⟩) (Or.inl rfl) _
            have hog : ∀ k, (Value.slice A' (2 * j + 2) c').ownBlock = some k → G + 1 ≤ k := fun k hk => by
              obtain ⟨xs', hx1, -⟩ := h.row
              exact (own_ge hx1 hk).1
            replace kq := hide kq
            replace kq2 := hide kq2
            replace o8 := hide o8
            replace hog := hide hog
            replace h := hide h
            replace rd := hide rd
            replace n8 := hide n8
            replace w7 := hide w7
            replace w6 := hide w6
            replace u1 := hide u1
            replace u2 := hide u2
            replace u4 := hide u4
            replace u5 := hide u5
            replace u6 := hide u6
            replace f0 := hide f0
            replace f1 := hide f1
            replace f2 := hide f2
            replace f3 := hide f3
            replace f7 := hide f7
            replace hi := hide hi
            replace hun := hide hun
            replace hsz := hide hsz
            refine wpOp_of_list rfl ?_
            go_wp2_with fail
            refine Then.normal ⟨_, _, _, _, _, _, _, _, rfl, (by first | exact hsz.out | exact hsz2.out _), (fun h => by first | rfl | exact f0.out (Up.set_ne (by decide) h)), (fun h => by first | rfl | exact f1.out (Up.set_ne (by decide) h)), (fun h => by first | rfl | exact f2.out (Up.set_ne (by decide) h)), (fun h => by first | rfl | exact f3.out (Up.set_ne (by decide) h)), (fun h => by first | rfl | exact f7.out (Up.set_ne (by decide) h)), ?_⟩
            refine .p4 (Up.more u1.out) (Up.more u2.out) (Up.more u4.out) (Up.more u5.out) (Up.more u6.out) (Up.self hun.out) A' c' ⟨h.out.onl.trans (o8.out.mono (fun k hk => Or.inr (Or.inl hk))), o8.out.blk h.out.kR (by omega), kq2.out, ?_⟩ (rd.out.only o8.out (by omega))
            obtain ⟨xs', hx1, hx2⟩ := h.out.row
            exact ⟨xs', o8.out.own hx1 (fun k hk h => by have := hog.out k hk; omega), hx2.only o8.out (fun b hb _ h => hb.2.1 h) (fun b _ h => h)⟩
      case stop =>
        rintro listed a w' ⟨s39, s40, s41, s42, s43, s44, s45, s46, rfl, hsz, f0, f1, f2, f3, f7, HP⟩ hi
        have hall := Up.all hsz (by kernel_rfl) hi
        clear f0 f1 f2 f3 f7
        cases HP with
        | p0 n4 n5 n6 n8 h k ru rd => exact absurd (hall 8 (by decide)) n8
        | p1 u4 n5 n6 n8 h k ru z e' hz rd => exact absurd (hall 8 (by decide)) n8
        | p2 u2 u4 u5 n6 n8 h ys g e' kg ry rd => exact absurd (hall 8 (by decide)) n8
        | p3 u1 u2 u4 u5 u6 n8 A' c' e' h rd => exact absurd (hall 8 (by decide)) n8
        | p4 u1 u2 u4 u5 u6 u8 A' c' h rd =>
          clear u1 u2 u4 u5 u6 u8 hall hi hsz
          have hl8 := h.onl.size
          have hon8 : Only (· = r) w w' := ((((ho.out.trans o4.out).trans o5.out.no).trans o6.out)).back h.onl (fun b hb => by
            rcases hb with hb | hb | hb
            · exact Or.inl hb
            · exact Or.inr (by omega)
            · have := (own_ge H6.out.own hb).1
              exact Or.inr (by omega))
          obtain ⟨xs', hx1, hx2⟩ := h.row
          rw [← hkv.out] at hx2
          have hOb : ObS w' w' r w.heap.size G (2 * (j + 1)) c' A' xs' (kvM (es.take (j + 1))) := ⟨Only.refl _ _, h.kR, h.kQ, hx1, hx2⟩
          have hpos2 : ∀ (l : List UInt8) W, Ready W r s l → l.length < tl.length → s.size - posOf W r < s.size - posOf wr r := by
            intro l W hW hlt
            have h1 := hW.pos
            have h2 := List.length_drop (i := nxN l) (l := l)
            rw [h2] at h1
            have h3 := hpos.out
            rw [show nxN (mtx e ++ tl) = 1 from rfl] at h3
            have h4 : ((mtx e ++ tl).drop 1).length = (mtx e).length - 1 + tl.length := by
              rw [List.length_drop, List.length_append]
              have : 1 ≤ (mtx e).length := by unfold mtx; simp
              omega
            rw [h4] at h3
            have h5 := nxN_le l
            omega
          have hlQ8 := h.kQ.lt
          replace hOb := hide hOb
          replace hon8 := hide hon8
          replace hpos2 := hide hpos2
          clear h hx1 hx2
          have htl2 := htl.out
          rcases Nat.lt_or_ge (j + 1) es.length with hj2 | hj2
          · obtain ⟨e', he'⟩ : ∃ e', es[j + 1]? = some e' := ⟨_, List.getElem?_eq_getElem hj2⟩
            rw [drop_at he'] at htl2
            have htl3 : tl = 44 :: (mtx e' ++ tailM (es.drop (j + 1 + 1)) rest) := htl2.symm
            have hlt3 : (mtx e' ++ tailM (es.drop (j + 1 + 1)) rest).length < tl.length := by rw [htl3, List.length_cons]; omega
            rw [htl3] at rd
            replace htl3 := hide htl3
            replace rd := hide rd
            replace he' := hide he'
            clear htl2
            go_wp2_with (go_at_call 54; refine (is_this w' r s 44 _ rd.out (by unfold opc; simp) hs (mtx_ok _ _)).mono ?_; rintro e9 W9 ⟨rfl, hR9, o9⟩; have hm9 := hOb.out.move hrr hRG o9 (fun k h => h); have H9 : Hid (ObS W9 W9 r w.heap.size G (2 * (j + 1)) c' A' xs' (kvM (es.take (j + 1)))) := hide ⟨Only.refl _ _, hm9.kR, hm9.kQ, hm9.own, hm9.row⟩; clear hm9; replace hR9 := hide hR9; replace o9 := hide o9)
            go_roundw
            case rel => exact ⟨j + 1, true, A', c', xs', rfl, by omega, fun _ => ⟨e', he'.out, hR9.out⟩, fun h => (by cases h), H9.out, hon8.out.trans o9.out⟩
            case measure => exact hpos2.out _ _ hR9.out hlt3
          · have hje : j + 1 = es.length := by omega
            rw [List.drop_of_length_le (by omega)] at htl2
            have htl3 : tl = 125 :: rest := htl2.symm
            have hlt3 : ¬ (125 :: rest).length < tl.length := by rw [htl3]; omega
            rw [htl3] at rd
            have hn44 := (is_not w' r s ⟨#[44]⟩ _ rd (Or.inr (by rw [(nx_op (c := 125) (m := rest) (by unfold opc; simp)).2.1]; decide)))
            have hp9 : s.size - posOf w' r < s.size - posOf wr r := by
              have h1 := rd.pos
              rw [(nx_op (c := 125) (m := rest) (by unfold opc; simp)).2.2] at h1
              have h3 := hpos.out
              rw [show nxN (mtx e ++ tl) = 1 from rfl] at h3
              have h4 : ((mtx e ++ tl).drop 1).length = (mtx e).length - 1 + tl.length := by
                rw [List.length_drop, List.length_append]
                have : 1 ≤ (mtx e).length := by unfold mtx; simp
                omega
              rw [h4, htl3] at h3
              simp at h1 h3
              have : 1 < (mtx e).length := by unfold mtx; simp; omega
              omega
            replace htl3 := hide htl3
            replace rd := hide rd
            replace hn44 := hide hn44
            replace hp9 := hide hp9
            replace hje := hide hje
            clear htl2
            go_wp2_with (go_at_call 54; refine hn44.out.mono ?_; rintro e9 W9 ⟨rfl, rfl⟩)
            go_roundw
            case rel => exact ⟨j + 1, false, A', c', xs', rfl, by omega, fun h => (by cases h), fun _ => ⟨hje.out, rd.out⟩, hOb.out, hon8.out⟩
            case measure => exact hp9.out
    | false =>
      obtain ⟨hjl, hRd⟩ := hF rfl
      subst hjl
      rw [List.take_of_length_le (Nat.le_refl _)] at H
      have hlQ := H.kQ.lt
      have hkl := kvM_len es
      have hrG : ¬ G = r := by omega
      have hw := hide (want_this wr r s 125 rest hRd (by unfold opc; simp) hs hf.out.ok)
      replace H := hide H
      replace hRd := hide hRd
      replace ho := hide ho
      replace hkl := hide hkl
      clear hT hF
      go_wp2_with (first
        | (go_at_call 74; refine hw.out.mono ?_; rintro e4 W4 ⟨rfl, hR4, o4⟩; have H4 := H.out.move hrr hRG o4 (fun k h => h); have k4 := hide H4.kQ; have kR4 := hide H4.kR; replace H4 := hide H4; replace hR4 := hide hR4; replace o4 := hide o4)
        | (refine wpList_load_row rfl _ _ rfl G rfl 41 (ofC opObj A (2 * es.length) c).toArray (0, 0) _ k4.out Tryz.underlying41 rfl q_size ?_)
        | (refine wpList_store_blk rfl _ _ _ rfl w.heap.size (ofC opObj A (2 * es.length) c).toArray rfl rfl 41 _ kR4.out q_size rfl (by simp [ofC, Value.oneCell']) ?_; intro W5 k5 o5 s5; replace k5 := hide k5; replace o5 := hide o5; clear s5))
      (try simp only [Exit.inBlock, Exit.then])
      refine ret_q Tryz.results194 w.heap.size (ofC opObj A (2 * es.length) c).toArray rfl rfl k5.out rfl ⟨_, rfl, ?_, ?_, ?_⟩
      · have hown := H4.out.own
        obtain ⟨A2, c2, hv, hc1, hc2⟩ := own_sl hown
        injection hv with hv1 hv2 hv3
        subst hv3
        refine QAt.of hkl.out.symm (by decide) hc1 hc2 ?_
        have h0 := H4.out.row.only (Only.refl (fun _ => False) W4) (fun _ _ _ h => h) (P' := (w.heap.size < ·)) (fun b _ h => h.1)
        have h1 := h0.vec (P := (w.heap.size < ·)) (by rw [hkl.out]; exact hown) (fun g h2 h3 => by omega)
        exact h1.only o5.out (fun b (h2 : w.heap.size < b) h3 => by omega) (fun b _ (h : w.heap.size < b) => Nat.le_of_lt h)
      · exact hR4.out.only o5.out (by omega)
      · exact (ho.out.trans o4.out).back o5.out (fun b h => Or.inr (by omega))
end Go.Proofs.YtbnbemacljjimaaGreatDoor
