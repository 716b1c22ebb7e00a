/- SameQuery at two queries that are the same (printed by mksmq.py). -/
import Derived.Test.YtbnbemacljjimaaGreatDoorJc29
import Derived.Test.YtbnbemacljjimaaGreatDoorJc02
import Derived.Test.YtbnbemacljjimaaGreatDoorJc23
import Derived.Shelf.GgSortFunc.Lays
import Derived.Test.YtbnbemacljjimaaGreatDoorProg
import Derived.Shelf.SlSortFuncK.WholeK
import Derived.Shelf.GgSortFunc.Tiny
import Derived.Deep.QuietTactic
namespace Go.Proofs.YtbnbemacljjimaaGreatDoor
open Go.RowKit Go.Lib
set_option linter.unusedVariables false

/-- SameQuery says yes. -/
def SmSays (q : QV) : Prop := ∀ (w : World) (x y : List Value), QAt w (· < w.heap.size) x q → QAt w (· < w.heap.size) y q → Calls Tryz.prog 12 #[.agg x.toArray, .agg y.toArray] w fun e w' => e = .returned (.bool true) ∧ Below w.heap.size w w'

set_option maxHeartbeats 1000000 in
set_option maxRecDepth 100000 in
theorem same_names (w : World) : Calls Tryz.prog 29 #[.slice none 0 0, .slice none 0 0] w fun e w' => e = .returned (.bool true) ∧ w' = w := by
  go_enter Tryz.func29, Tryz.ntmps29
  go_wp2_with fail
  go_loopw [5] (fun s5 wr => s5 = .int .i64 0 ∧ wr = w) (fun _ _ => 0)
  case atStart => exact ⟨rfl, rfl⟩
  case round =>
    obtain ⟨rfl, rfl⟩ := hrel
    go_wp2_with fail
    go_ret
    exact ⟨rfl, rfl⟩

/-- Reads, and calls that take new blocks alone. -/
def OnW (W : World) (listed : Array Bool) (w : World) : Prop := Only (fun _ => False) W w
theorem OnW.put {W w : World} {listed : Array Bool} (H : OnW W listed w) (i : Nat) (h : (i == i) = true) : OnW W (listed.setIfInBounds i true) w := H
theorem OnW.start (W : World) {n : Nat} : OnW W (Array.replicate n false) W.drew := (Only.refl _ W).drew
theorem OnW.onl {W w : World} {listed : Array Bool} (H : OnW W listed w) : Only (fun _ => False) W w := H
theorem OnW.call {W w w2 : World} {listed : Array Bool} (H : OnW W listed w) (i : Nat) (h : Below w.heap.size w w2) : OnW W (listed.setIfInBounds i true) w2 := H.onl.trans (only_below h)

set_option maxHeartbeats 16000000 in
set_option maxRecDepth 100000 in
theorem sm_step {q : QV} (hs : Say 1 q.val) (hl : q.kids.length ≤ 1000000) (hS : ∀ k ∈ q.kids, SmSays k) : SmSays q := by
  intro w x y hx hy
  obtain ⟨la, lc, ka, kc, va, vc, A0, c0, rfl, hcl, -, hc1, hc2, hv⟩ := hx.parts
  obtain ⟨la', lc', ka', kc', va', vc', A0', c0', rfl, hcl', -, hc1', hc2', hv'⟩ := hy.parts
  clear hx hy
  obtain ⟨N, hN⟩ : ∃ N, q.kids.length = N := ⟨_, rfl⟩
  rw [hN] at hl hc1 hc1' ⊢
  obtain ⟨W0, hW0⟩ : ∃ W0, W0 = (w.alloc (.cells #[.string q.op, .string ⟨#[]⟩, .int .i64 q.val.kind, .int .i64 q.val.half, .string q.val.text, .slice la 0 lc, .slice ka 0 kc, .slice va 0 vc, .slice A0 N c0, .slice none 0 0, .slice none 0 0, .slice none 0 0] 41)).alloc (.cells #[.string q.op, .string ⟨#[]⟩, .int .i64 q.val.kind, .int .i64 q.val.half, .string q.val.text, .slice la' 0 lc', .slice ka' 0 kc', .slice va' 0 vc', .slice A0' N c0', .slice none 0 0, .slice none 0 0, .slice none 0 0] 41) := ⟨_, rfl⟩
  have o0 : Only (fun _ => False) w W0 := by rw [hW0]; exact ((Only.refl _ w).alloc _).alloc _
  have z0 : Blk W0 w.heap.size 41 #[.string q.op, .string ⟨#[]⟩, .int .i64 q.val.kind, .int .i64 q.val.half, .string q.val.text, .slice la 0 lc, .slice ka 0 kc, .slice va 0 vc, .slice A0 N c0, .slice none 0 0, .slice none 0 0, .slice none 0 0] := by rw [hW0]; exact (Blk.new w _ _).alloc _
  have y0 : Blk W0 (w.heap.size + 1) 41 #[.string q.op, .string ⟨#[]⟩, .int .i64 q.val.kind, .int .i64 q.val.half, .string q.val.text, .slice la' 0 lc', .slice ka' 0 kc', .slice va' 0 vc', .slice A0' N c0', .slice none 0 0, .slice none 0 0, .slice none 0 0] := by rw [hW0]; exact Blk.new2 w _ _ _
  have hsm := hide (same_any 1 W0 0 _ _ q.val (Cln.at hcl W0 0 0 la ka va) (Cln.at hcl' W0 0 0 la' ka' va') hs (Nat.zero_le _))
  have p0 := z0.cell 0
  have p1 := z0.cell 1
  have p2 := z0.cell 2
  have p3 := z0.cell 3
  have p4 := z0.cell 4
  have p5 := z0.cell 5
  have p6 := z0.cell 6
  have p7 := z0.cell 7
  have r0 := y0.cell 0
  have r1 := y0.cell 1
  have r2 := y0.cell 2
  have r3 := y0.cell 3
  have r4 := y0.cell 4
  have r5 := y0.cell 5
  have r6 := y0.cell 6
  have r7 := y0.cell 7
  simp at p0 p1 p2 p3 p4 p5 p6 p7 r0 r1 r2 r3 r4 r5 r6 r7
  replace o0 := hide o0
  replace z0 := hide z0
  replace y0 := hide y0
  replace hv := hide hv
  replace hv' := hide hv'
  replace hS := hide hS
  replace hN := hide hN
  clear hcl hcl' hs
  go_enter Tryz.func12, Tryz.ntmps12
  go_upto_region 1 with fail
  rw [← hW0]
  clear hW0
  go_upto_region 3 with (go_at_call 27; refine hsm.out.mono ?_; rintro e W1 ⟨rfl, b1⟩; have o1 := hide (only_below b1); have z1 := hide (o1.out.blk z0.out (fun h => h)); have y1 := hide (o1.out.blk y0.out (fun h => h)); have p8 := z1.out.cell 8; have p9 := z1.out.cell 9; have p10 := z1.out.cell 10; have p11 := z1.out.cell 11; have r8 := y1.out.cell 8; have r9 := y1.out.cell 9; have r10 := y1.out.cell 10; have r11 := y1.out.cell 11; simp at p8 p9 p10 p11 r8 r9 r10 r11; clear b1)
  have o01 := hide (o0.out.trans o1.out)
  have hsz := o01.out.size
  clear p0 p1 p2 p3 p4 p5 p6 p7 r0 r1 r2 r3 r4 r5 r6 r7 p8 p9 p10 p11 r8 r9 r10 r11
  go_wp2_with fail
  go_loopw [5] (fun s5 wr => ∃ j : Nat, s5 = .int .i64 (j : Int) ∧ j ≤ N ∧ Only (fun _ => False) W1 wr) (fun i _ => N - (Lib.intOf i).toNat)
  case atStart => exact ⟨0, rfl, Nat.zero_le _, Only.refl _ _⟩
  case round =>
    obtain ⟨j, rfl, hj, ho⟩ := hrel
    have hcw := hide (o01.out.trans ho)
    have hzr := hide (ho.blk z1.out (fun h => h))
    have hyr := hide (ho.blk y1.out (fun h => h))
    have hzl := hzr.out.lt
    have hyl := hyr.out.lt
    have p8 := hzr.out.cell 8
    have r8 := hyr.out.cell 8
    simp at p8 r8
    by_cases hjN : j < N
    · obtain ⟨b0, e0, rfl, hb0, hb0w, hvr⟩ := hv.out (by rw [hN.out]; omega)
      obtain ⟨b1, e1, rfl, hb1, hb1w, hvr'⟩ := hv'.out (by rw [hN.out]; omega)
      obtain ⟨qa, hqa⟩ : ∃ k, q.kids[j]? = some k := ⟨_, List.getElem?_eq_getElem (by rw [hN.out]; omega)⟩
      obtain ⟨u, hu, hcu⟩ := hvr j qa hqa
      obtain ⟨u', hu', hcu'⟩ := hvr' j qa hqa
      have hus := hide hu.len
      have hus' := hide hu'.len
      have hSi := hide (hS.out qa (List.mem_of_getElem? hqa))
      replace hcu := hide hcu
      replace hcu' := hide hcu'
      replace hu := hide hu
      replace hu' := hide hu'
      replace hqa := hide hqa
      have p8r := p8
      have r8r := r8
      replace ho := hide ho
      clear hvr hvr'
      go_upto_region 6 with fail
      refine wp_region_inv (by kernel_rfl) (fun listed a w' => ∃ (s71 s72 s73 s74 s75 s76 s77 s78 s79 s80 s81 s82 : Value), a = ⟨#[.agg #[.string q.op, .string ⟨#[]⟩, .int .i64 q.val.kind, .int .i64 q.val.half, .string q.val.text, .slice la 0 lc, .slice ka 0 kc, .slice va 0 vc, .slice (some ⟨b0, e0, none⟩) N c0, .slice none 0 0, .slice none 0 0, .slice none 0 0], .agg #[.string q.op, .string ⟨#[]⟩, .int .i64 q.val.kind, .int .i64 q.val.half, .string q.val.text, .slice la' 0 lc', .slice ka' 0 kc', .slice va' 0 vc', .slice (some ⟨b1, e1, none⟩) N c0', .slice none 0 0, .slice none 0 0, .slice none 0 0], .pointer (some ⟨w.heap.size, 0, none⟩), .pointer (some ⟨w.heap.size + 1, 0, none⟩), u4, .int .i64 ↑j, undef, undef, .pointer (some ⟨w.heap.size, 0, none⟩), .string q.op, .pointer (some ⟨w.heap.size + 1, 0, none⟩), .string q.op, .bool false, .bool false, .pointer (some ⟨w.heap.size, 1, none⟩), .string ⟨#[]⟩, .pointer (some ⟨w.heap.size + 1, 1, none⟩), .string ⟨#[]⟩, .bool false, .bool false, .bool false, .pointer (some ⟨w.heap.size, 2, none⟩), .agg #[.int .i64 q.val.kind, .int .i64 q.val.half, .string q.val.text, .slice la 0 lc, .slice ka 0 kc, .slice va 0 vc], .pointer (some ⟨w.heap.size + 1, 2, none⟩), .agg #[.int .i64 q.val.kind, .int .i64 q.val.half, .string q.val.text, .slice la' 0 lc', .slice ka' 0 kc', .slice va' 0 vc'], .bool true, .bool false, .bool false, .bool false, .pointer (some ⟨w.heap.size, 8, none⟩), .slice (some ⟨b0, e0, none⟩) N c0, .int .i64 ↑N, .pointer (some ⟨w.heap.size + 1, 8, none⟩), .slice (some ⟨b1, e1, none⟩) N c0', .int .i64 ↑N, .bool false, .bool false, .bool false, .pointer (some ⟨w.heap.size, 9, none⟩), .slice none 0 0, .int .i64 0, .pointer (some ⟨w.heap.size + 1, 9, none⟩), .slice none 0 0, .int .i64 0, .bool false, .bool false, .bool false, .pointer (some ⟨w.heap.size, 10, none⟩), .slice none 0 0, .int .i64 0, .pointer (some ⟨w.heap.size + 1, 10, none⟩), .slice none 0 0, .int .i64 0, .bool false, .bool false, .bool false, .pointer (some ⟨w.heap.size, 11, none⟩), .slice none 0 0, .int .i64 0, .pointer (some ⟨w.heap.size + 1, 11, none⟩), .slice none 0 0, .int .i64 0, .bool false, .bool false, .int .i64 ↑j, .pointer (some ⟨w.heap.size, 8, none⟩), .slice (some ⟨b0, e0, none⟩) N c0, .int .i64 ↑N, .bool true, u69, u70, s71, s72, s73, s74, s75, s76, s77, s78, s79, s80, s81, s82, undef, undef, undef, undef, undef, undef, undef, undef, undef, undef, undef, undef, undef, undef, undef, undef, undef, undef, undef, undef, undef, undef, undef, undef, undef, undef, undef, undef, undef, undef, undef, undef, undef, undef, undef, undef, undef, undef, undef, undef, undef, undef, undef, undef, undef, undef, undef, undef, undef, undef, undef, undef, undef, undef, undef, undef, undef, undef, undef, undef, undef, undef, undef, undef, undef, undef, undef, undef, undef, undef, undef, undef, undef, undef, undef, undef], []⟩ ∧ listed.size = 12 ∧ Lv listed [s71, s72, s73, s74, s75, s76, s77, s78, s79, s80, s81, s82] [.pointer (some ⟨w.heap.size, 8, none⟩), .slice (some ⟨b0, e0, none⟩) N c0, .int .i64 ↑j, .pointer (some ⟨b0, e0 + j * 12, none⟩), .agg u.toArray, .pointer (some ⟨w.heap.size + 1, 8, none⟩), .slice (some ⟨b1, e1, none⟩) N c0', .int .i64 ↑j, .pointer (some ⟨b1, e1 + j * 12, none⟩), .agg u'.toArray, .bool true, .bool false] ∧ OnW wr listed w' ) ?start ?step ?stop
      case start => exact ⟨_, _, _, _, _, _, _, _, _, _, _, _, rfl, rfl, Lv.start, OnW.start wr⟩
      case step =>
        rintro listed a w' i ⟨s71, s72, s73, s74, s75, s76, s77, s78, s79, s80, s81, s82, rfl, hsz, HL, H⟩ hi
        have hun := Up.un hi
        have hltn : i < 12 := by
          obtain ⟨-, o, ho, -⟩ := mem_ready.1 hi
          rcases Nat.lt_or_ge i 12 with h | h
          · exact h
          · rw [Array.getElem?_eq_none (by exact h)] at ho
            cases ho
        have hsz2 : ∀ i, (listed.setIfInBounds i true).size = 12 := fun i => by rw [Array.size_setIfInBounds]; exact hsz
        replace hsz2 := hide hsz2
        have hin : i = 0 ∨ i = 1 ∨ i = 2 ∨ i = 3 ∨ i = 4 ∨ i = 5 ∨ i = 6 ∨ i = 7 ∨ i = 8 ∨ i = 9 ∨ i = 10 ∨ i = 11 := by omega
        clear hltn
        rcases hin with rfl | rfl | rfl | rfl | rfl | rfl | rfl | rfl | rfl | rfl | rfl | rfl
        · replace H := hide H
          replace HL := hide HL
          replace hi := hide hi
          replace hun := hide hun
          replace hsz := hide hsz
          refine wpOp_of_list rfl ?_
          go_wp2_with fail
          exact Then.normal ⟨_, _, _, _, _, _, _, _, _, _, _, _, rfl, (by first | exact hsz2.out _ | exact hsz.out), HL.out.put 0 rfl, H.out.put 0 rfl⟩
        · obtain rfl := HL.get 0 rfl rfl (Up.waits hi 0 (by kernel_rfl))
          have d8 := (only_cell H.onl (⟨w.heap.size, 8, none⟩ : Addr) (fun h => h) hzl).trans p8r
          replace H := hide H
          replace HL := hide HL
          replace hi := hide hi
          replace hun := hide hun
          replace hsz := hide hsz
          refine wpOp_of_list rfl ?_
          go_wp2_with fail
          exact Then.normal ⟨_, _, _, _, _, _, _, _, _, _, _, _, rfl, (by first | exact hsz2.out _ | exact hsz.out), HL.out.put 1 rfl, H.out.put 1 rfl⟩
        · replace H := hide H
          replace HL := hide HL
          replace hi := hide hi
          replace hun := hide hun
          replace hsz := hide hsz
          refine wpOp_of_list rfl ?_
          go_wp2_with fail
          exact Then.normal ⟨_, _, _, _, _, _, _, _, _, _, _, _, rfl, (by first | exact hsz2.out _ | exact hsz.out), HL.out.put 2 rfl, H.out.put 2 rfl⟩
        · obtain rfl := HL.get 1 rfl rfl (Up.waits hi 1 (by kernel_rfl))
          obtain rfl := HL.get 2 rfl rfl (Up.waits hi 2 (by kernel_rfl))
          replace H := hide H
          replace HL := hide HL
          replace hi := hide hi
          replace hun := hide hun
          replace hsz := hide hsz
          refine wpOp_of_list rfl ?_
          go_wp2_with fail
          exact Then.normal ⟨_, _, _, _, _, _, _, _, _, _, _, _, rfl, (by first | exact hsz2.out _ | exact hsz.out), HL.out.put 3 rfl, H.out.put 3 rfl⟩
        · obtain rfl := HL.get 3 rfl rfl (Up.waits hi 3 (by kernel_rfl))
          have hcl : ∀ j' z, u[j']? = some z → w'.cell? ((⟨b0, e0 + j * 12, none⟩ : Addr).add j') = some z := fun j' z hz => by rw [add_flat, only_cell (hcw.out.trans H.onl) (⟨b0, e0 + j * 12 + j', none⟩ : Addr) (fun h => h) hb0w]; exact hcu.out j' z hz
          replace hcl := hide hcl
          replace H := hide H
          replace HL := hide HL
          replace hi := hide hi
          replace hun := hide hun
          replace hsz := hide hsz
          refine wpOp_of_list rfl ?_
          go_wp2_with (refine wpList_load_at rfl _ _ rfl ⟨b0, e0 + j * 12, none⟩ rfl u _ hcl.out Tryz.underlying41 rfl (by rw [hus.out]; exact q_size) ?_)
          exact Then.normal ⟨_, _, _, _, _, _, _, _, _, _, _, _, rfl, (by first | exact hsz2.out _ | exact hsz.out), HL.out.put 4 rfl, H.out.put 4 rfl⟩
        · replace H := hide H
          replace HL := hide HL
          replace hi := hide hi
          replace hun := hide hun
          replace hsz := hide hsz
          refine wpOp_of_list rfl ?_
          go_wp2_with fail
          exact Then.normal ⟨_, _, _, _, _, _, _, _, _, _, _, _, rfl, (by first | exact hsz2.out _ | exact hsz.out), HL.out.put 5 rfl, H.out.put 5 rfl⟩
        · obtain rfl := HL.get 5 rfl rfl (Up.waits hi 5 (by kernel_rfl))
          have d8 := (only_cell H.onl (⟨w.heap.size + 1, 8, none⟩ : Addr) (fun h => h) hyl).trans r8r
          replace H := hide H
          replace HL := hide HL
          replace hi := hide hi
          replace hun := hide hun
          replace hsz := hide hsz
          refine wpOp_of_list rfl ?_
          go_wp2_with fail
          exact Then.normal ⟨_, _, _, _, _, _, _, _, _, _, _, _, rfl, (by first | exact hsz2.out _ | exact hsz.out), HL.out.put 6 rfl, H.out.put 6 rfl⟩
        · replace H := hide H
          replace HL := hide HL
          replace hi := hide hi
          replace hun := hide hun
          replace hsz := hide hsz
          refine wpOp_of_list rfl ?_
          go_wp2_with fail
          exact Then.normal ⟨_, _, _, _, _, _, _, _, _, _, _, _, rfl, (by first | exact hsz2.out _ | exact hsz.out), HL.out.put 7 rfl, H.out.put 7 rfl⟩
        · obtain rfl := HL.get 6 rfl rfl (Up.waits hi 6 (by kernel_rfl))
          obtain rfl := HL.get 7 rfl rfl (Up.waits hi 7 (by kernel_rfl))
          replace H := hide H
          replace HL := hide HL
          replace hi := hide hi
          replace hun := hide hun
          replace hsz := hide hsz
          refine wpOp_of_list rfl ?_
          go_wp2_with fail
          exact Then.normal ⟨_, _, _, _, _, _, _, _, _, _, _, _, rfl, (by first | exact hsz2.out _ | exact hsz.out), HL.out.put 8 rfl, H.out.put 8 rfl⟩
        · obtain rfl := HL.get 8 rfl rfl (Up.waits hi 8 (by kernel_rfl))
          have hcl : ∀ j' z, u'[j']? = some z → w'.cell? ((⟨b1, e1 + j * 12, none⟩ : Addr).add j') = some z := fun j' z hz => by rw [add_flat, only_cell (hcw.out.trans H.onl) (⟨b1, e1 + j * 12 + j', none⟩ : Addr) (fun h => h) hb1w]; exact hcu'.out j' z hz
          replace hcl := hide hcl
          replace H := hide H
          replace HL := hide HL
          replace hi := hide hi
          replace hun := hide hun
          replace hsz := hide hsz
          refine wpOp_of_list rfl ?_
          go_wp2_with (refine wpList_load_at rfl _ _ rfl ⟨b1, e1 + j * 12, none⟩ rfl u' _ hcl.out Tryz.underlying41 rfl (by rw [hus'.out]; exact q_size) ?_)
          exact Then.normal ⟨_, _, _, _, _, _, _, _, _, _, _, _, rfl, (by first | exact hsz2.out _ | exact hsz.out), HL.out.put 9 rfl, H.out.put 9 rfl⟩
        · obtain rfl := HL.get 4 rfl rfl (Up.waits hi 4 (by kernel_rfl))
          obtain rfl := HL.get 9 rfl rfl (Up.waits hi 9 (by kernel_rfl))
          have hx1 := hide (hu.out.only (hcw.out.trans H.onl) (fun _ _ _ h => h) (P' := (· < w'.heap.size)) (fun b _ h => by have h' : b < w.heap.size := h; have := (hcw.out.trans H.onl).size; show b < w'.heap.size; omega))
          have hx2 := hide (hu'.out.only (hcw.out.trans H.onl) (fun _ _ _ h => h) (P' := (· < w'.heap.size)) (fun b _ h => by have h' : b < w.heap.size := h; have := (hcw.out.trans H.onl).size; show b < w'.heap.size; omega))
          replace H := hide H
          replace HL := hide HL
          replace hi := hide hi
          replace hun := hide hun
          replace hsz := hide hsz
          refine wpOp_of_list rfl ?_
          go_wp2_with (go_at_call 12; refine (hSi.out w' u u' hx1.out hx2.out).mono ?_; rintro e5 W5 ⟨rfl, b5⟩)
          exact Then.normal ⟨_, _, _, _, _, _, _, _, _, _, _, _, rfl, (by first | exact hsz2.out _ | exact hsz.out), HL.out.put 10 rfl, H.out.call 10 b5⟩
        · obtain rfl := HL.get 10 rfl rfl (Up.waits hi 10 (by kernel_rfl))
          replace H := hide H
          replace HL := hide HL
          replace hi := hide hi
          replace hun := hide hun
          replace hsz := hide hsz
          refine wpOp_of_list rfl ?_
          go_wp2_with fail
          exact Then.normal ⟨_, _, _, _, _, _, _, _, _, _, _, _, rfl, (by first | exact hsz2.out _ | exact hsz.out), HL.out.put 11 rfl, H.out.put 11 rfl⟩
      case stop =>
        rintro listed a w' ⟨s71, s72, s73, s74, s75, s76, s77, s78, s79, s80, s81, s82, rfl, hsz, HL, H⟩ hi
        have hall := Up.all hsz (by kernel_rfl) hi
        obtain rfl := HL.get 11 rfl rfl (hall 11 (by decide))
        have ho9 := hide H.onl
        clear H HL hall hi
        go_wp2_with fail
        go_roundw
        case rel => exact ⟨j + 1, by go_num, by omega, ho.out.trans ho9.out⟩
        case measure => simp [Lib.intOf]; omega
    · have hjN' : j = N := by omega
      subst hjN'
      have p9 := hzr.out.cell 9
      have p10 := hzr.out.cell 10
      have p11 := hzr.out.cell 11
      have r9 := hyr.out.cell 9
      have r10 := hyr.out.cell 10
      have r11 := hyr.out.cell 11
      simp at p9 p10 p11 r9 r10 r11
      replace ho := hide ho
      go_wp2_with fail
      go_loopw [6] (fun s6 w2 => s6 = .int .i64 0 ∧ w2 = wr) (fun _ _ => 0)
      case atStart => exact ⟨rfl, rfl⟩
      case round =>
        obtain ⟨rfl, rfl⟩ := hrel
        go_wp2_with fail
        go_loopw [7] (fun s7 w3 => s7 = .int .i64 0 ∧ w3 = wr) (fun _ _ => 0)
        case atStart => exact ⟨rfl, rfl⟩
        case round =>
          obtain ⟨rfl, rfl⟩ := hrel
          go_wp2_with (go_at_call 29; refine (same_names _).mono ?_; rintro e w4 ⟨rfl, rfl⟩)
          go_ret
          exact ⟨rfl, hcw.out.below (by intro k hk; exact hk.elim) (Nat.le_refl _)⟩

/-- All values of a query can be compared. -/
inductive SayQ : QV → Prop
  | mk {q : QV} : Say 1 q.val → q.kids.length ≤ 1000000 → (∀ k ∈ q.kids, SayQ k) → SayQ q
theorem same_query : ∀ q : QV, SayQ q → SmSays q := QV.ind (fun q ih h => by
  cases h with
  | mk h1 h2 h3 => exact sm_step h1 h2 (fun k hk => ih k hk (h3 k hk)))
end Go.Proofs.YtbnbemacljjimaaGreatDoor

namespace Go.Proofs.YtbnbemacljjimaaGreatDoor
open Go.RowKit Go.Lib
set_option linter.unusedVariables false

/-- The encoder writes s for x behind what stands there. -/
def EncS (w : World) (x : Value) (s : ByteArray) : Prop := ∀ (W : World) (e b : Nat) (bs : List Value), Below w.heap.size w W → Bl w.heap.size b bs W → En e b W → e ≠ b → w.heap.size ≤ e → bs.length + 6 * s.size + 128 ≤ 140737488355328 →
  Calls Tryz.prog 92 #[.pointer (some ⟨e, 0, none⟩), x] W fun r w' => r = .returned (.tuple #[]) ∧ Ev w.heap.size e b (bs ++ Lib.strCells s) W w'

theorem EncS.says {w : World} {x : Value} {s : ByteArray} (h : EncS w x s) (hs : s.size ≤ 1000000) : EncSays w x s := fun W e b h1 h2 h3 h4 h5 h6 => by
  refine (h W e b [] h1 h2 h3 h4 h5 (by simp; omega)).mono ?_
  rintro r w' ⟨rfl, k⟩
  exact ⟨rfl, k.bl, k.en, k.bel⟩

theorem encS_scalar (w : World) (lo n : Nat) (x : Value) (v : JV) (hx : GAt w lo (n + 1) x v) (hk : v.kind ≤ 3) (h1 : -18014398509481984 ≤ v.half ∧ v.half ≤ 18014398509481984) (h2 : v.half.tmod 2 = 0 ∨ -9007199254740992 < v.half ∧ v.half < 9007199254740992) : EncS w x (stxt v) := by
  intro W e b bs hbel hb he hne hle hlen
  have hlW := hbel.size
  have hlen' : bs.length + 64 ≤ 140737488355328 := by omega
  clear hlen
  have hr := tdiv_small h1
  unfold stxt ntxt
  rcases hx with ⟨k, rfl⟩ | ⟨k, rfl⟩ | ⟨k, rfl⟩ | ⟨k, hm, rfl⟩ | ⟨k, hm, rfl⟩ | ⟨k, rfl⟩ | ⟨k, -⟩ | ⟨k, -⟩
  · rw [if_pos k]
    exact enc_nil2 W _ e b bs hb he hne hlen' hlW
  · rw [if_neg (by omega), if_pos k]
    exact enc_false2 W _ e b bs hb he hne hlen' hlW
  · rw [if_neg (by omega), if_neg (by omega), if_pos k]
    exact enc_true2 W _ e b bs hb he hne hlen' hlW
  · rw [if_neg (by omega), if_neg (by omega), if_neg (by omega), if_pos hm]
    exact enc_int2 W _ e b bs hb he hne hlen' hlW hle _ hr.1 hr.2
  · rw [if_neg (by omega), if_neg (by omega), if_neg (by omega), if_neg hm]
    exact enc_float2 W _ e b bs hb he hne hlen' hlW hle _ (odd_sml hm h2) hm
  · omega
  · omega
  · omega

theorem joinT_mono (ls : List ByteArray) : ∀ (d j : Nat), j + d ≤ ls.length → (joinT (ls.take j)).size ≤ (joinT (ls.take (j + d))).size
  | 0, j, _ => Nat.le_refl _
  | d + 1, j, h => by
    refine Nat.le_trans (joinT_mono ls d j (by omega)) ?_
    obtain ⟨t, ht⟩ : ∃ t, ls[j + d]? = some t := ⟨_, List.getElem?_eq_getElem (by omega)⟩
    rw [show j + (d + 1) = j + d + 1 by omega, joinT_next ht]
    by_cases h0 : j + d = 0
    · rw [show ls.take (j + d) = [] by rw [h0]; rfl]
      exact Nat.zero_le _
    · rw [if_neg h0, ByteArray.size_append, ByteArray.size_append]
      omega
theorem joinT_upto {ls : List ByteArray} {j : Nat} {t : ByteArray} (ht : ls[j]? = some t) : (joinT (ls.take (j + 1))).size ≤ (joinT ls).size := by
  have hj := (List.getElem?_eq_some_iff.1 ht).1
  have := joinT_mono ls (ls.length - (j + 1)) (j + 1) (by omega)
  rw [show j + 1 + (ls.length - (j + 1)) = ls.length by omega, List.take_length] at this
  exact this
theorem joinT_part {ls : List ByteArray} {j : Nat} {t : ByteArray} (ht : ls[j]? = some t) : (joinT (ls.take j)).size + t.size + (if j = 0 then 0 else 1) ≤ (joinT ls).size := by
  have h1 := joinT_upto ht
  rw [joinT_next ht] at h1
  split at h1
  · rename_i h0
    subst h0
    rw [if_pos rfl]
    show (joinT []).size + _ + _ ≤ _
    show 0 + _ + _ ≤ _
    omega
  · rename_i h0
    rw [if_neg h0]
    rw [ByteArray.size_append, ByteArray.size_append] at h1
    have : (⟨#[44]⟩ : ByteArray).size = 1 := rfl
    omega

theorem Ev.start {B e b : Nat} {bs : List Value} {w : World} (hb : Bl B b bs w) (he : En e b w) : Ev B e b (bs ++ Lib.strCells ⟨#[]⟩) w w := ⟨by simpa [Lib.strCells] using hb, he, Below.refl _ _, Oth.refl _ _ _⟩
theorem cell_below {B : Nat} {w w' : World} (h : Below B w w') (p : Addr) (hp : p.block < B) : w'.cell? p = w.cell? p := h.cell hp

set_option maxHeartbeats 4000000 in
set_option maxRecDepth 100000 in
theorem encArr_any (w : World) (g o c : Nat) (ts : List ByteArray) (hg : g < w.heap.size) (hz : ∀ (i : Nat) t, ts[i]? = some t → ∃ z, w.cell? ⟨g, o + i, none⟩ = some z ∧ EncS w z t) (hN : ts.length ≤ 1000000) (W : World) (e b : Nat) (bs : List Value)
    (h1 : Below w.heap.size w W) (hb : Bl w.heap.size b bs W) (he : En e b W) (hne : e ≠ b) (hBe : w.heap.size ≤ e) (hlen : bs.length + 6 * (joinT ts).size + 140 ≤ 140737488355328) :
    Calls Tryz.prog 107 #[.pointer (some ⟨e, 0, none⟩), .slice (some ⟨g, o, none⟩) ts.length c] W fun r w' => r = .returned (.tuple #[]) ∧ Ev w.heap.size e b (bs ++ Lib.strCells (⟨#[91]⟩ ++ joinT ts ++ ⟨#[93]⟩)) W w' := by
  have hBW := h1.size
  have c0 := he.cell
  have hW := hide (ew_byte ⟨#[]⟩ 91 91 rfl (Ev.start hb he) hne (by show _ + 0 + 1 ≤ _; omega) hBW)
  obtain ⟨N, hN'⟩ : ∃ N, ts.length = N := ⟨_, rfl⟩
  rw [hN'] at hN ⊢
  obtain ⟨S, hS⟩ : ∃ S, (joinT ts).size = S := ⟨_, rfl⟩
  rw [hS] at hlen
  replace hS := hide hS
  replace hN' := hide hN'
  replace hz := hide hz
  replace h1 := hide h1
  clear hb he
  go_enter Tryz.func107, Tryz.ntmps107
  go_wp2_with (go_at_call 235; refine hW.out.mono ?_; rintro r w1 ⟨rfl, k1⟩; replace k1 := hide k1)
  go_loopw [13] (fun s13 wr => ∃ j : Nat, s13 = .int .i64 (j : Int) ∧ j ≤ N ∧ Ev w.heap.size e b (bs ++ Lib.strCells (⟨#[91]⟩ ++ joinT (ts.take j))) W wr) (fun i _ => N - (Lib.intOf i).toNat)
  case atStart => exact ⟨0, rfl, Nat.zero_le _, k1.out⟩
  case round =>
    clear c0 k1 hW
    obtain ⟨j, rfl, hj, hE⟩ := hrel
    have c0 := hE.en.cell
    have hBr := Nat.le_trans hBW hE.size
    have e91 : ∀ t : ByteArray, (⟨#[91]⟩ ++ t : ByteArray).size = 1 + t.size := fun t => by rw [ByteArray.size_append]; rfl
    by_cases hjN : j < N
    · obtain ⟨t, ht⟩ : ∃ t, ts[j]? = some t := ⟨_, List.getElem?_eq_getElem (by rw [hN'.out]; omega)⟩
      obtain ⟨z, hz1, hz2⟩ := hz.out j t ht
      have hcz : wr.cell? ⟨g, o + j, none⟩ = some z := (cell_below (h1.out.trans hE.bel) _ hg).trans hz1
      have hnx := joinT_next ht
      have hpt := joinT_part ht
      rw [hS.out] at hpt
      replace ht := hide ht
      rcases Nat.eq_zero_or_pos j with rfl | hj0
      · rw [Nat.add_zero] at hcz
        rw [if_pos rfl] at hnx
        rw [if_pos rfl] at hpt
        have hC := hz2 wr e b (bs ++ Lib.strCells (⟨#[91]⟩ ++ joinT (ts.take 0))) (h1.out.trans hE.bel) hE.bl hE.en hne hBe (by rw [List.length_append, Lib.strCells_length, e91]; omega)
        have hfin : ∀ w2, Ev w.heap.size e b (bs ++ Lib.strCells (⟨#[91]⟩ ++ joinT (ts.take 0)) ++ Lib.strCells t) wr w2 → Ev w.heap.size e b (bs ++ Lib.strCells (⟨#[91]⟩ ++ joinT (ts.take (0 + 1)))) W w2 := fun w2 k => by
          have k2 := hE.trans k
          rw [List.append_assoc, ← strCells_app] at k2
          rw [hnx]
          exact k2
        replace hC := hide hC
        replace hfin := hide hfin
        replace hE := hide hE
        clear hnx hpt e91
        rw [show ((0 : Nat) : Int) = 0 from rfl]
        go_wp2_with (go_at_call 92; refine hC.out.mono ?_; rintro r w2 ⟨rfl, k2⟩; replace k2 := hide k2)
        go_roundw
        case rel => exact ⟨1, rfl, by omega, hfin.out _ k2.out⟩
        case measure => simp [Lib.intOf]; omega
      · rw [if_neg (by omega)] at hnx
        rw [if_neg (by omega)] at hpt
        have hK := ew_byte (⟨#[91]⟩ ++ joinT (ts.take j)) 44 44 rfl hE hne (by rw [e91]; omega) hBW
        have hC := fun w1 (k : Ev w.heap.size e b (bs ++ Lib.strCells (⟨#[91]⟩ ++ joinT (ts.take j) ++ ⟨#[44]⟩)) W w1) => hz2 w1 e b _ (h1.out.trans k.bel) k.bl k.en hne hBe (by rw [List.length_append, Lib.strCells_length, ByteArray.size_append, e91]; show _ + (_ + 1) + _ + _ ≤ _; omega)
        have hfin : ∀ w1 w2, Ev w.heap.size e b (bs ++ Lib.strCells (⟨#[91]⟩ ++ joinT (ts.take j) ++ ⟨#[44]⟩)) W w1 → Ev w.heap.size e b (bs ++ Lib.strCells (⟨#[91]⟩ ++ joinT (ts.take j) ++ ⟨#[44]⟩) ++ Lib.strCells t) w1 w2 → Ev w.heap.size e b (bs ++ Lib.strCells (⟨#[91]⟩ ++ joinT (ts.take (j + 1)))) W w2 := fun w1 w2 k0 k => by
          have k2 := k0.trans k
          rw [List.append_assoc, ← strCells_app] at k2
          rw [hnx, ← app_assoc, ← app_assoc]
          exact k2
        replace hK := hide hK
        replace hC := hide hC
        replace hfin := hide hfin
        replace hE := hide hE
        clear hnx hpt e91
        go_wp2_with (first
          | (go_at_call 235; refine hK.out.mono ?_; rintro r w1 ⟨rfl, k1⟩; replace k1 := hide k1)
          | (go_at_call 92; refine (hC.out w1 k1.out).mono ?_; rintro r w2 ⟨rfl, k2⟩; replace k2 := hide k2))
        go_roundw
        case rel => exact ⟨j + 1, by go_num, by omega, hfin.out _ _ k1.out k2.out⟩
        case measure => simp [Lib.intOf]; omega
    · have hjN' : j = N := by omega
      subst hjN'
      have hta : ts.take j = ts := List.take_of_length_le (by rw [hN'.out]; exact Nat.le_refl _)
      rw [hta] at hE
      have hK := hide (ew_byte (⟨#[91]⟩ ++ joinT ts) 93 93 rfl hE hne (by rw [e91, hS.out]; omega) hBW)
      replace hE := hide hE
      clear hta e91
      go_wp2_with (go_at_call 235; refine hK.out.mono ?_; rintro r w1 ⟨rfl, k1⟩; replace k1 := hide k1)
      go_end0
      exact ⟨rfl, k1.out⟩
end Go.Proofs.YtbnbemacljjimaaGreatDoor

namespace Go.Proofs
open Go.Shelf
def Tryz.lays6g_ren : Go.Shelf.Ren := ⟨fun | 6 => 126 | 10 => 147 | 11 => 148 | 12 => 149 | 13 => 120 | 14 => 150 | 24 => 141 | 25 => 142 | 26 => 182 | 27 => 183 | 28 => 184 | 29 => 185 | 30 => 186 | 31 => 187 | 32 => 188 | 33 => 189 | 34 => 207 | 35 => 208 | 36 => 209 | 37 => 210 | 38 => 211 | 39 => 217 | n => n, fun | 20 => 20 | 26 => 182 | 35 => 205 | 0 => 0 | 37 => 207 | 3 => 3 | 41 => 149 | 44 => 212 | 49 => 193 | 51 => 165 | 4 => 4 | 54 => 242 | 53 => 241 | 58 => 190 | 5 => 5 | 9 => 9 | 60 => 254 | 64 => 221 | 66 => 258 | 67 => 248 | 17 => 17 | 32 => 202 | 33 => 203 | 82 => 271 | 12 => 12 | 75 => 265 | 76 => 266 | 77 => 267 | 78 => 161 | 79 => 268 | 80 => 269 | n => n, fun | n => n⟩
theorem Tryz.lays6g : Go.Proofs.LaysGg.n6 Tryz.prog Tryz.lays6g_ren := {
  mixed := by kernel_rfl
  f6 := Tryz.func126.trans (congrArg some (by kernel_rfl))
  f10 := Tryz.func147.trans (congrArg some (by kernel_rfl))
  f11 := Tryz.func148.trans (congrArg some (by kernel_rfl))
  f12 := Tryz.func149.trans (congrArg some (by kernel_rfl))
  f13 := Tryz.func120.trans (congrArg some (by kernel_rfl))
  f14 := Tryz.func150.trans (congrArg some (by kernel_rfl))
  f24 := Tryz.func141.trans (congrArg some (by kernel_rfl))
  f25 := Tryz.func142.trans (congrArg some (by kernel_rfl))
  f26 := Tryz.func182.trans (congrArg some (by kernel_rfl))
  f27 := Tryz.func183.trans (congrArg some (by kernel_rfl))
  f28 := Tryz.func184.trans (congrArg some (by kernel_rfl))
  f29 := Tryz.func185.trans (congrArg some (by kernel_rfl))
  f30 := Tryz.func186.trans (congrArg some (by kernel_rfl))
  f31 := Tryz.func187.trans (congrArg some (by kernel_rfl))
  f32 := Tryz.func188.trans (congrArg some (by kernel_rfl))
  f33 := Tryz.func189.trans (congrArg some (by kernel_rfl))
  f34 := Tryz.func207.trans (congrArg some (by kernel_rfl))
  f35 := Tryz.func208.trans (congrArg some (by kernel_rfl))
  f36 := Tryz.func209.trans (congrArg some (by kernel_rfl))
  f37 := Tryz.func210.trans (congrArg some (by kernel_rfl))
  f38 := Tryz.func211.trans (congrArg some (by kernel_rfl))
  f39 := Tryz.func217.trans (congrArg some (by kernel_rfl))
  t0 := Tryz.underlying0
  a0 := Tryz.isAgg0
  z0 := Tryz.sizeOf0
  v0 := Tryz.zeroValue0
  i0 := by kernel_rfl
  t3 := Tryz.underlying3
  a3 := Tryz.isAgg3
  z3 := Tryz.sizeOf3
  v3 := Tryz.zeroValue3
  i3 := by kernel_rfl
  t4 := Tryz.underlying4
  a4 := Tryz.isAgg4
  z4 := Tryz.sizeOf4
  v4 := Tryz.zeroValue4
  i4 := by kernel_rfl
  t5 := Tryz.underlying5
  a5 := Tryz.isAgg5
  z5 := Tryz.sizeOf5
  v5 := Tryz.zeroValue5
  i5 := by kernel_rfl
  t9 := Tryz.underlying9
  a9 := Tryz.isAgg9
  z9 := Tryz.sizeOf9
  v9 := Tryz.zeroValue9
  i9 := by kernel_rfl
  t12 := Tryz.underlying12
  a12 := Tryz.isAgg12
  z12 := Tryz.sizeOf12
  v12 := Tryz.zeroValue12
  i12 := by kernel_rfl
  t17 := Tryz.underlying17
  a17 := Tryz.isAgg17
  z17 := Tryz.sizeOf17
  v17 := Tryz.zeroValue17
  i17 := by kernel_rfl
  t20 := Tryz.underlying20
  a20 := Tryz.isAgg20
  z20 := Tryz.sizeOf20
  v20 := Tryz.zeroValue20
  i20 := by kernel_rfl
  t26 := Tryz.underlying182
  a26 := Tryz.isAgg182
  z26 := Tryz.sizeOf182
  v26 := Tryz.zeroValue182
  i26 := by kernel_rfl
  t32 := Tryz.underlying202
  a32 := Tryz.isAgg202
  z32 := Tryz.sizeOf202
  v32 := Tryz.zeroValue202
  i32 := by kernel_rfl
  t33 := Tryz.underlying203
  a33 := Tryz.isAgg203
  z33 := Tryz.sizeOf203
  v33 := Tryz.zeroValue203
  i33 := by kernel_rfl
  t35 := Tryz.underlying205
  a35 := Tryz.isAgg205
  z35 := Tryz.sizeOf205
  v35 := Tryz.zeroValue205
  i35 := by kernel_rfl
  t37 := Tryz.underlying207
  a37 := Tryz.isAgg207
  z37 := Tryz.sizeOf207
  v37 := Tryz.zeroValue207
  i37 := by kernel_rfl
  t41 := Tryz.underlying149
  a41 := Tryz.isAgg149
  z41 := Tryz.sizeOf149
  v41 := Tryz.zeroValue149
  i41 := by kernel_rfl
  t44 := Tryz.underlying212
  a44 := Tryz.isAgg212
  z44 := Tryz.sizeOf212
  v44 := Tryz.zeroValue212
  i44 := by kernel_rfl
  t49 := Tryz.underlying193
  a49 := Tryz.isAgg193
  z49 := Tryz.sizeOf193
  v49 := Tryz.zeroValue193
  i49 := by kernel_rfl
  t51 := Tryz.underlying165
  a51 := Tryz.isAgg165
  z51 := Tryz.sizeOf165
  v51 := Tryz.zeroValue165
  i51 := by kernel_rfl
  t53 := Tryz.underlying241
  a53 := Tryz.isAgg241
  z53 := Tryz.sizeOf241
  v53 := Tryz.zeroValue241
  i53 := by kernel_rfl
  t54 := Tryz.underlying242
  a54 := Tryz.isAgg242
  z54 := Tryz.sizeOf242
  v54 := Tryz.zeroValue242
  i54 := by kernel_rfl
  t58 := Tryz.underlying190
  a58 := Tryz.isAgg190
  z58 := Tryz.sizeOf190
  v58 := Tryz.zeroValue190
  i58 := by kernel_rfl
  t60 := Tryz.underlying254
  a60 := Tryz.isAgg254
  z60 := Tryz.sizeOf254
  v60 := Tryz.zeroValue254
  i60 := by kernel_rfl
  t64 := Tryz.underlying221
  a64 := Tryz.isAgg221
  z64 := Tryz.sizeOf221
  v64 := Tryz.zeroValue221
  i64 := by kernel_rfl
  t66 := Tryz.underlying258
  a66 := Tryz.isAgg258
  z66 := Tryz.sizeOf258
  v66 := Tryz.zeroValue258
  i66 := by kernel_rfl
  t67 := Tryz.underlying248
  a67 := Tryz.isAgg248
  z67 := Tryz.sizeOf248
  v67 := Tryz.zeroValue248
  i67 := by kernel_rfl
  t75 := Tryz.underlying265
  a75 := Tryz.isAgg265
  z75 := Tryz.sizeOf265
  v75 := Tryz.zeroValue265
  i75 := by kernel_rfl
  t76 := Tryz.underlying266
  a76 := Tryz.isAgg266
  z76 := Tryz.sizeOf266
  v76 := Tryz.zeroValue266
  i76 := by kernel_rfl
  t77 := Tryz.underlying267
  a77 := Tryz.isAgg267
  z77 := Tryz.sizeOf267
  v77 := Tryz.zeroValue267
  i77 := by kernel_rfl
  t78 := Tryz.underlying161
  a78 := Tryz.isAgg161
  z78 := Tryz.sizeOf161
  v78 := Tryz.zeroValue161
  i78 := by kernel_rfl
  t79 := Tryz.underlying268
  a79 := Tryz.isAgg268
  z79 := Tryz.sizeOf268
  v79 := Tryz.zeroValue268
  i79 := by kernel_rfl
  t80 := Tryz.underlying269
  a80 := Tryz.isAgg269
  z80 := Tryz.sizeOf269
  v80 := Tryz.zeroValue269
  i80 := by kernel_rfl
  t82 := Tryz.underlying271
  a82 := Tryz.isAgg271
  z82 := Tryz.sizeOf271
  v82 := Tryz.zeroValue271
  i82 := by kernel_rfl }
end Go.Proofs

namespace Go.Proofs.YtbnbemacljjimaaGreatDoor
open Go.RowKit Go.Lib Go.Sort Go.Shelf
set_option linter.unusedVariables false

instance : Inhabited Ent := ⟨(⟨#[]⟩, .nilIface)⟩
def one (v : Value) : Value := if v.oneCell' = true then v else .nilIface
theorem one_one (v : Value) : (one v).oneCell' = true := by
  unfold one
  split
  · assumption
  · rfl
theorem one_of {v : Value} (h : v.oneCell' = true) : one v = v := if_pos h
/-- An entry's two cells. -/
def encE (e : Ent) : List Value := [.string e.1, one e.2]
def ltE (a b : Ent) : Bool := ltStr a.1.data.toList b.1.data.toList
theorem swo_ltE : SWO ltE := ⟨fun x => swo_ltStr.irrefl _, fun x y z => swo_ltStr.trans _ _ _, fun x y z => swo_ltStr.ntrans _ _ _⟩

noncomputable def kvT : TypeInfo := (Tryz.prog.info? 178).get (by kernel_rfl)
noncomputable def kvE : TypeInfo := (Tryz.prog.info? 180).get (by kernel_rfl)
theorem kvK (n : Nat) (h2 : 2 ≤ n) : Lib.swapperK n kvE 25 = 9 := by
  have a : kvE.hasPointers = true := by kernel_rfl
  have b : kvE.bytes = 32 := by kernel_rfl
  have c : (n == 0) = false := by simp; omega
  have d : (n == 1) = false := by simp; omega
  simp [Lib.swapperK, a, b, c, d]

set_option maxHeartbeats 2000000 in
/-- The encoder's own order of two entries. -/
theorem kv_less (blk off c Bs size : Nat) (W : World) (G : Nat → ByteArray) (hs : W.cell? ⟨Bs, 0, none⟩ = some (.slice (some ⟨blk, off, none⟩) size c))
    (hc : ∀ t, t < size → W.cell? ⟨blk, off + t * 2, none⟩ = some (.string (G t))) (i j : Nat) (hi : i < size) (hj : j < size) (_hsz : size < 4611686018427387904) :
    Calls Tryz.prog 127 #[.int .i64 i, .int .i64 j, .pointer (some ⟨Bs, 0, none⟩)] W fun e w' => e = .returned (.bool (ltStr (G i).data.toList (G j).data.toList)) ∧ ∃ q, w' = W.drewN q := by
  have ci := hc i hi
  have cj := hc j hj
  have hlt : Op.bytesLess (G i).toList (G j).toList = ltStr (G i).data.toList (G j).data.toList := by
    rw [toList_data, toList_data, bytesLess_eq]
    rfl
  go_enter Tryz.func127, Tryz.ntmps127
  go_wp2
  go_quiet (fail)
  go_wp2
  go_ret
  refine ⟨?_, nq, rfl⟩
  first
    | rfl
    | (rw [← hlt])
    | (rw [bytesLess_eq]; rfl)

theorem grown_K {w : World} {g n off : Nat} {os : Array Obj} (d : Array Ent) : w.grownBy (grow (putRowK encE 2 (Sort.ahead w n) g off d) os) (some g) := by
  refine ⟨rfl, rfl, rfl, by simp [putRowK], fun k hk hne => ?_⟩
  rw [heap_grow_old _ _ (by simpa [putRowK] using hk)]
  have : g ≠ k := fun e => hne (by rw [e])
  simp [putRowK, putRow, mapBlock, Sort.ahead, Array.getElem?_modify, this]
theorem grown_g (w : World) (os : Array Obj) : Only (fun _ => False) w (grow w os) :=
  ⟨rfl, rfl, rfl, by simp, fun k hk _ => heap_grow_old _ _ hk⟩

theorem heap_K {w : World} {g n off : Nat} {os : Array Obj} {cur : Array Value} {t : TypeId} (d : Array Ent) (hb : Blk w g t cur) : ∃ cs', Blk (grow (putRowK encE 2 (Sort.ahead w n) g off d) os) g t cs' := by
  refine ⟨putCells id off (flatK encE 2 d) cur, ?_⟩
  have hlt := hb.lt
  unfold Blk at hb ⊢
  rw [heap_grow_old _ _ (by simpa [putRowK] using hlt)]
  simp [putRowK, putRow, mapBlock, Sort.ahead, Array.getElem?_modify, hb, onCells]
theorem sorted_ents {d d' : Array Ent} {ents : List Ent} (hp : d.toList.Perm ents) (hr : Rise (ents.map (·.1))) (h1 : PermIn 0 d.size d d') (h2 : SortedIn ltE 0 d.size d') : d'.toList = ents := by
  obtain ⟨hsz, -, hperm⟩ := h1
  have e1 : d'.extract 0 d.size = d' := by rw [← hsz]; exact Array.extract_size
  rw [e1, Array.extract_size] at hperm
  have hasc : ∀ (i k : Nat) (a b : Ent), ents[i]? = some a → ents[i + k + 1]? = some b → ltE a b = true := fun i k a b ha hb => by
    have := rise_all hr k i a.1 b.1 (by rw [List.getElem?_map, ha]; rfl) (by rw [List.getElem?_map, hb]; rfl)
    rw [← less_before, bytesLess_eq] at this
    exact this
  refine List.Perm.eq_of_pairwise (le := fun x y => ltE y x = false) ?_ ?_ ?_ (hperm.trans hp)
  · intro a b ha hb h1 h2
    have ha' := (hperm.trans hp).mem_iff.1 ha
    obtain ⟨i, hi⟩ := List.getElem?_of_mem ha'
    obtain ⟨j, hj⟩ := List.getElem?_of_mem hb
    rcases Nat.lt_trichotomy i j with h | h | h
    · have := hasc i (j - i - 1) a b hi (by rw [show i + (j - i - 1) + 1 = j by omega]; exact hj)
      rw [this] at h2
      cases h2
    · subst h
      rw [hi] at hj
      injection hj
    · have := hasc j (i - j - 1) b a hj (by rw [show j + (i - j - 1) + 1 = i by omega]; exact hi)
      rw [this] at h1
      cases h1
  · rw [List.pairwise_iff_getElem]
    intro i j hi hj hij
    have hi' : i < d'.size := by simpa using hi
    have hj' : j < d'.size := by simpa using hj
    have := h2 i j (Nat.zero_le _) hij (by omega)
    rw [getElem!_pos d' i hi', getElem!_pos d' j hj'] at this
    simpa using this
  · rw [List.pairwise_iff_getElem]
    intro i j hi hj hij
    cases h : ltE ents[j] ents[i] with
    | false => rfl
    | true =>
      have := hasc i (j - i - 1) ents[i] ents[j] (List.getElem?_eq_getElem hi) (by rw [show i + (j - i - 1) + 1 = j by omega]; exact List.getElem?_eq_getElem hj)
      rw [swo_ltE.asymm this] at h
      cases h

theorem kv_sort (w : World) (blk c Bs : Nat) (ents : List Ent) (d : Array Ent) (hp : d.toList.Perm ents) (hr : Rise (ents.map (·.1))) (hN : ents.length ≤ 1000000)
    (hone : ∀ e ∈ ents, e.2.oneCell' = true) (hH : HoldsK encE 2 w blk 0 d) (hblk : blk < w.heap.size)
    (hBs : w.cell? ⟨Bs, 0, none⟩ = some (.slice (some ⟨blk, 0, none⟩) d.size c)) (hB1 : Bs < w.heap.size) (hB2 : Bs ≠ blk) {t : TypeId} {cs : Array Value} (hbk : Blk w blk t cs) :
    Calls Tryz.prog 126 #[.iface 178 (.slice (some ⟨blk, 0, none⟩) d.size c), .func (.func 127) #[] #[.pointer (some ⟨Bs, 0, none⟩)]] w fun e w' =>
      e = .returned (.tuple #[]) ∧ Only (· = blk) w w' ∧ (∃ cs', Blk w' blk t cs') ∧ ∀ i x, ents[i]? = some x → w'.cell? ⟨blk, i * 2, none⟩ = some (.string x.1) ∧ w'.cell? ⟨blk, i * 2 + 1, none⟩ = some x.2 := by
  have hlen : d.size = ents.length := by rw [← hp.length_eq]; simp
  have hcells : ∀ (W : World) (l : Array Ent), l.toList = ents → HoldsK encE 2 W blk 0 l → ∀ i x, ents[i]? = some x → W.cell? ⟨blk, i * 2, none⟩ = some (.string x.1) ∧ W.cell? ⟨blk, i * 2 + 1, none⟩ = some x.2 := by
    intro W l hl hW i x hx
    have hi : i < l.size := by
      have := (List.getElem?_eq_some_iff.1 hx).1
      rw [← hl] at this
      simpa using this
    have he : l[i]! = x := by
      rw [getElem!_pos l i hi]
      rw [← hl] at hx
      simpa [hi] using hx
    have h0 := (hW.cell (i := i) (c := 0) hi (by decide)).1
    have h1 := (hW.cell (i := i) (c := 1) hi (by decide)).1
    rw [he, Nat.zero_add] at h0 h1
    refine ⟨h0, h1.trans ?_⟩
    exact congrArg some (one_of (hone x (List.mem_of_getElem? hx)))
  rcases Nat.lt_or_ge d.size 2 with h2 | h2
  · have hd : d.toList = ents := by
      rcases hents : ents with _ | ⟨a, _ | ⟨b, l⟩⟩
      · rw [hents] at hp
        exact hp.eq_nil
      · rw [hents] at hp
        exact List.perm_singleton.1 hp
      · rw [hents] at hlen
        simp at hlen
        omega
    rcases (by omega : d.size = 0 ∨ d.size = 1) with h0 | h0
    · rw [h0]
      refine (Any.sort_Slice_tiny (P := Tryz.prog) Tryz.lays6g 178 180 kvT kvE (by kernel_rfl) (by kernel_rfl) (by kernel_rfl) (by kernel_rfl) 25 (fun _ => by kernel_rfl) _ _ c (by decide) 173 (by kernel_rfl) _ _ _ w).mono ?_
      rintro e w' ⟨rfl, os, rfl⟩
      exact ⟨rfl, (grown_g w os).mono (fun _ h => h.elim), ⟨cs, (grown_g w os).blk hbk (fun h => h)⟩, hcells _ d hd (holdsK_grow encE 2 w os blk 0 d hblk hH)⟩
    · rw [h0]
      refine (Any.sort_Slice_tiny (P := Tryz.prog) Tryz.lays6g 178 180 kvT kvE (by kernel_rfl) (by kernel_rfl) (by kernel_rfl) (by kernel_rfl) 25 (fun _ => by kernel_rfl) _ _ c (by decide) 174 (by kernel_rfl) _ _ _ w).mono ?_
      rintro e w' ⟨rfl, os, rfl⟩
      exact ⟨rfl, (grown_g w os).mono (fun _ h => h.elim), ⟨cs, (grown_g w os).blk hbk (fun h => h)⟩, hcells _ d hd (holdsK_grow encE 2 w os blk 0 d hblk hH)⟩
  · have hsz : d.size < 4611686018427387904 := by omega
    have hless : LessReadsK Tryz.prog 127 #[.pointer (some ⟨Bs, 0, none⟩)] encE 2 ltE blk 0 d.size w := by
      intro m os dk hs i j hi hj
      have e : sortWorldK encE 2 w blk 0 m dk os = putRowK encE 2 (grow (Sort.ahead w m) os) blk 0 dk := by
        unfold sortWorldK; rw [putRowK_grow _ _ (Sort.ahead w m) _ blk 0 _ hblk]
      have hHg : HoldsK encE 2 (grow (Sort.ahead w m) os) blk 0 d := holdsK_grow _ _ _ _ blk 0 d hblk (holdsK_ahead _ _ _ _ _ _ _ hH)
      refine kv_less blk 0 c Bs d.size _ (fun t => dk[t]!.1) ?_ (fun t ht => ?_) i j hi hj (by omega)
      · rw [e, cell?_putRowK_other _ _ _ blk 0 dk _ (by exact hB2), cell?_grow _ _ _ (by exact hB1)]; exact hBs
      · rw [e]; exact ((holdsK_putRowK _ _ _ blk 0 d dk hHg hs).cell (i := t) (c := 0) (by omega) (by omega)).1
    refine (Any.sort_Slice_cells_sorted (P := Tryz.prog) Tryz.lays6g 178 180 kvT kvE (by kernel_rfl) (by kernel_rfl) (by kernel_rfl) (by kernel_rfl) 25 (fun _ => by kernel_rfl) encE 2 (fun _ => rfl) (by kernel_rfl) (fun _ => by kernel_rfl)
      (fun x v hv => by
        simp [encE] at hv
        rcases hv with rfl | rfl
        · rfl
        · exact one_one _) ltE swo_ltE 127 _
      (enters_of Tryz.func127 (by kernel_rfl) rfl) blk 0 c d h2 hsz 181 (by rw [kvK _ h2]; kernel_rfl) false
      (fun args W => run_callFunc_extern Tryz.func181 (by kernel_rfl) (by kernel_rfl) (by kernel_rfl) (e := Extern.ReflectliteSwapper.swap false) (by kernel_rfl) args W) w hless hH hblk).mono ?_
    rintro e w' ⟨rfl, d', m, os, hP, hS, rfl⟩
    have hd := sorted_ents hp hr hP hS
    refine ⟨rfl, ?_, heap_K d' hbk, hcells _ d' hd (holdsK_grow encE 2 _ os blk 0 d' (by simpa [putRowK] using hblk) (holdsK_putRowK encE 2 _ blk 0 d d' (holdsK_ahead _ _ _ _ _ _ _ hH) hP.1))⟩
    exact (Only.refl (· = blk) w).grown (grown_K d') (fun k hk => Or.inl (by injection hk with hk; exact hk.symm))
end Go.Proofs.YtbnbemacljjimaaGreatDoor
