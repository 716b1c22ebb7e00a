/- The reader's strings. -/
import Derived.Test.YtbnbemacljjimaaGreatDoorJc16
import Derived.Test.YtbnbemacljjimaaGreatDoorJc18
import Derived.Test.YtbnbemacljjimaaGreatDoorJc19
namespace Go.Proofs.YtbnbemacljjimaaGreatDoor
open Go.RowKit Go.Lib
set_option linter.unusedVariables false

abbrev mkB (l : List UInt8) : ByteArray := ⟨l.toArray⟩
theorem mkB_app (a b : List UInt8) : mkB a ++ mkB b = mkB (a ++ b) := by
  apply ByteArray.ext
  apply Array.toList_inj.1
  rw [ByteArray.data_append, Array.toList_append]

theorem qkind (c : UInt8) : (qC c = [c] ∧ 32 ≤ c.toNat ∧ c.toNat ≠ 34 ∧ c.toNat ≠ 92) ∨ (∃ t e, qC c = 92 :: e :: t ∧ e.toNat ≠ 40) := by
  rcases byte_kinds c with ⟨hc, hq⟩ | ⟨hc, hq⟩ | ⟨hc, hq⟩ | ⟨hc, hq⟩ | ⟨hc, hq⟩ | ⟨hc, hq⟩ | ⟨hc, hq⟩ | ⟨hc, hq⟩ | ⟨hc, hq⟩ | ⟨hc, hq⟩
  · exact Or.inr ⟨_, _, hq, by decide⟩
  · exact Or.inr ⟨_, _, hq, by decide⟩
  · exact Or.inr ⟨_, _, hq, by decide⟩
  · exact Or.inr ⟨_, _, hq, by decide⟩
  · exact Or.inr ⟨_, _, hq, by decide⟩
  · exact Or.inr ⟨_, _, hq, by decide⟩
  · exact Or.inr ⟨_, _, hq, by decide⟩
  · exact Or.inr ⟨_, _, hq, by decide⟩
  · exact Or.inl ⟨hq, by omega, by omega, by omega⟩
  · exact Or.inl ⟨hq, hc.1, hc.2.1, hc.2.2.1⟩

theorem Tryz.infoTxt : (Tryz.prog.info? 9).map (fun i => (i.zero, i.size, i.bytes)) = some (some (.string ⟨#[]⟩), 1, 16) := by kernel_rfl

set_option maxHeartbeats 1000000 in
set_option maxRecDepth 100000 in
theorem str_val (w : World) (T : ByteArray) :
    Calls Tryz.prog 32 #[.string T] w fun e w' => e = .returned (.agg #[.int .i64 4, .int .i64 0, .string T, .slice none 0 0, .slice none 0 0, .slice none 0 0]) ∧ Below w.heap.size w w' := by
  go_enter Tryz.func32, Tryz.ntmps32
  go_wp2
  refine ret_v Tryz.results32 w.heap.size _ rfl rfl (Blk.new _ _ _) rfl ⟨rfl, (Below.refl _ _).alloc (Nat.le_refl _) _⟩

/-- How long a text is. -/
def strLen : Value → Nat
  | .string b => b.size
  | _ => 0
theorem mkB_size (l : List UInt8) : (mkB l).size = l.length := rfl
/-- A query of a text that is being read. -/
def tC : Array Value := #[.string ⟨#[116, 101, 120, 116]⟩, .string ⟨#[]⟩, .int .i64 0, .int .i64 0, .string ⟨#[]⟩, .slice none 0 0, .slice none 0 0, .slice none 0 0, .slice none 0 0, .slice none 0 0, .slice none 0 0, .slice none 0 0]

set_option maxHeartbeats 8000000 in
set_option maxRecDepth 100000 in
theorem rtext_any (w : World) (r : Nat) (s x : ByteArray) (L rest : List UInt8) (hT : Tok w r s kStr x (qL L ++ 34 :: rest)) (hs : s.size ≤ 1000000) (hf : Fol rest) :
    Calls Tryz.prog 154 #[.pointer (some ⟨r, 0, none⟩), .string ⟨#[]⟩] w (Yields w r s rest (valQ (txtJ (mkB L)))) := by
  obtain ⟨a0, hR, hp0⟩ := hT
  have hrw : r < w.heap.size := Blk.lt hR
  have hLs : L.length ≤ 1000000 := by
    have h1 := hp0.room
    rw [List.length_append] at h1
    have h2 : L.length ≤ (qL L).length := by
      clear h1 hp0
      unfold qL
      induction L with
      | nil => exact Nat.zero_le _
      | cons c l ih =>
        rw [List.flatMap_cons, List.length_append, List.length_cons]
        have : 1 ≤ (qC c).length := by rcases qkind c with ⟨h, -⟩ | ⟨t, e, h, -⟩ <;> rw [h] <;> simp
        omega
    omega
  obtain ⟨W0, hW0⟩ : ∃ W0, W0 = (w.alloc (.cells zC 41)).alloc (.cells tC 41) := ⟨_, rfl⟩
  have o0 : Only (· = r) w W0 := by rw [hW0]; exact ((Only.refl _ w).alloc _).alloc _
  have k0 : Blk W0 w.heap.size 41 zC := by rw [hW0]; exact (Blk.new w _ _).alloc _
  have t0 : Blk W0 (w.heap.size + 1) 41 tC := by rw [hW0]; exact Blk.new2 w _ _ _
  have hR0 : Rd W0 r s a0 kStr x false := by rw [hW0]; exact (hR.alloc _).alloc _
  have hok := hide hf.ok
  replace o0 := hide o0
  replace k0 := hide k0
  replace t0 := hide t0
  replace hR0 := hide hR0
  replace hp0 := hide hp0
  replace hf := hide hf
  clear hR
  unfold zC tC at hW0
  obtain ⟨i0, hi0, hz0, hz1, hz2⟩ := info_parts Tryz.infoTxt
  replace hi0 := hide hi0
  replace hz0 := hide hz0
  replace hz1 := hide hz1
  replace hz2 := hide hz2
  go_enter Tryz.func154, Tryz.ntmps154
  go_upto_region 2 with fail
  rw [← hW0]
  clear hW0
  go_wp2
  go_loopw [6] (fun s6 wr => ∃ j a : Nat, j ≤ L.length ∧ s6 = .string (mkB (L.take j)) ∧ Rd wr r s a kStr x false ∧ Pt s a (qL (L.drop j) ++ 34 :: rest) ∧ Only (· = r) W0 wr) (fun s6 _ => L.length - strLen s6)
  case atStart => exact ⟨0, a0, Nat.zero_le _, rfl, hR0.out, hp0.out, Only.refl _ _⟩
  case round =>
    clear hp0 hR0
    obtain ⟨j, a, hj, rfl, hR, hp, ho⟩ := hrel
    have c0 := hR.cell 0
    have c1 := hR.cell 1
    have c4 := hR.cell 4
    have f1 := hR.frozen 1
    simp at c0 c1 c4
    have hpos : posOf wr r = a := by
      unfold posOf
      rw [c1]
      simp [RowKit.intOf]
    have hN := hide (fun N => (show Rd (wr.drewN N) r s a kStr x false from hR))
    have hRs := hide (fun N => rd_set hR N)
    rcases Nat.lt_or_ge j L.length with hlt | hge
    · obtain ⟨c, hc⟩ : ∃ c, L[j]? = some c := ⟨_, List.getElem?_eq_getElem hlt⟩
      have hd1 : L.drop j = c :: L.drop (j + 1) := by
        rw [List.drop_eq_getElem_cons hlt]
        congr 1
        exact (List.getElem?_eq_some_iff.1 hc).2
      have ht1 : L.take (j + 1) = L.take j ++ [c] := by
        rw [List.take_add_one, hc]
        rfl
      have htk : (L.take j).length = j := by rw [List.length_take]; omega
      rw [hd1] at hp
      have hqe : qL (c :: L.drop (j + 1)) = qC c ++ qL (L.drop (j + 1)) := by unfold qL; rw [List.flatMap_cons]
      rw [hqe, List.append_assoc] at hp
      clear hd1 hqe
      replace ht1 := hide ht1
      replace hc := hide hc
      have hos := hide (fun N => (ho.drewN N).setCell (p := ⟨r, 1, none⟩) (Or.inl rfl) (.int .i64 ((a : Int) + 1)))
      rcases qkind c with ⟨hq, g32, g34, g92⟩ | ⟨t, e, hq, g40⟩
      · rw [hq] at hp
        have hpn := hp.next
        obtain ⟨hi, hat⟩ := hp.at
        have hcut := hp.cutN (n := 1) (by simp)
        rw [show List.take 1 ([c] ++ (qL (L.drop (j + 1)) ++ 34 :: rest)) = [c] from rfl] at hcut
        obtain ⟨C, hC⟩ : ∃ C, c.toNat = C := ⟨_, rfl⟩
        rw [hC] at g32 g34 g92
        have hcC : s[a].toNat = C := by rw [hat]; exact hC
        have b1 : ((C : Int) == 34) = false := by simp; omega
        have b2 : ((C : Int) != 34) = true := by simp; omega
        have b3 : ¬ (C : Int) < 32 := by omega
        have b4 : ((C : Int) == 92) = false := by simp; omega
        have b5 : ((C : Int) != 92) = true := by simp; omega
        have hsz : (mkB (L.take j)).size = j := by show (L.take j).toArray.size = j; rw [List.size_toArray]; exact htk
        have b6 : ¬ 9223372036854775807 < (mkB (L.take j)).size + 1 := by omega
        have hcs : (⟨#[c]⟩ : ByteArray).size = 1 := rfl
        obtain ⟨D, hD⟩ : ∃ D, mkB (L.take j) = D := ⟨_, rfl⟩
        have happ : D ++ ⟨#[c]⟩ = mkB (L.take (j + 1)) := by rw [← hD, ht1.out]; exact mkB_app _ [c]
        rw [hD] at b6 hsz ⊢
        replace hD := hide hD
        replace happ := hide happ
        replace hat := hide hat
        replace hC := hide hC
        replace hcut := hide hcut
        replace hp := hide hp
        replace hpn := hide hpn
        replace hR := hide hR
        replace ho := hide ho
        replace hq := hide hq
        replace g32 := hide (And.intro g32 (And.intro g34 g92))
        replace hpos := hide hpos
        replace hsz := hide hsz
        clear g34 g92
        go_wp2
        go_quiet (fail)
        go_wp2
        go_quiet (fail)
        go_wp2
        go_quiet (fail)
        go_wp2
        go_roundw
        case rel => exact ⟨j + 1, a + 1, hlt, by rw [hcut.out, happ.out], hRs.out _, hpn.out, (hos.out _).drewN _⟩
        case measure =>
          show L.length - (D ++ s.extract a (a + 1)).size < L.length - D.size
          rw [hcut.out, happ.out, hsz.out, mkB_size, ht1.out, List.length_append, htk]
          show L.length - (j + 1) < L.length - j
          omega
      · have hpe : Pt s (a + 1) (escT c ++ (qL (L.drop (j + 1)) ++ 34 :: rest)) := by
          unfold escT
          rw [hq] at hp ⊢
          exact hp.next
        have hpe2 := hide (hpe.skip)
        have hep : escT c = e :: t := by unfold escT; rw [hq]; rfl
        rw [hq] at hp
        obtain ⟨hi, hat⟩ := hp.at
        have hpe1 := hpe
        rw [hep] at hpe1
        obtain ⟨hi2, hat2⟩ := hpe1.at
        obtain ⟨C, hC⟩ : ∃ C, e.toNat = C := ⟨_, rfl⟩
        rw [hC] at g40
        have hcC : s[a].toNat = 92 := by rw [hat]; rfl
        have hcC2 : s[a + 1].toNat = C := by rw [hat2]; exact hC
        have b1 : ((C : Int) == 40) = false := by simp; omega
        have b7 : ((a : Int) + 1 < (s.size : Int)) := by omega
        have hsz : (mkB (L.take j)).size = j := by show (L.take j).toArray.size = j; rw [List.size_toArray]; exact htk
        have b6 : ¬ 9223372036854775807 < (mkB (L.take j)).size + 1 := by omega
        obtain ⟨D, hD⟩ : ∃ D, mkB (L.take j) = D := ⟨_, rfl⟩
        have happ : D ++ ⟨#[c]⟩ = mkB (L.take (j + 1)) := by rw [← hD, ht1.out]; exact mkB_app _ [c]
        rw [hD] at b6 hsz ⊢
        have hcs : (⟨#[c]⟩ : ByteArray).size = 1 := rfl
        have hesc := hide (fun N M => escaped_any (((wr.drewN N).setCell ⟨r, 1, none⟩ (.int .i64 ((a : Int) + 1))).drewN M) r s kStr x (a + 1) c _ (hRs.out N) ⟨_, hq⟩ hpe hs)
        replace hD := hide hD
        replace happ := hide happ
        replace hat := hide hat
        replace hat2 := hide hat2
        replace hC := hide hC
        replace hp := hide hp
        replace hpe := hide hpe
        replace hpe1 := hide hpe1
        replace hep := hide hep
        replace hR := hide hR
        replace ho := hide ho
        replace hq := hide hq
        replace g40 := hide g40
        replace hpos := hide hpos
        replace hsz := hide hsz
        go_wp2
        go_quiet (fail)
        go_wp2
        go_quiet (fail)
        go_wp2
        go_quiet (fail)
        go_wp2_with (go_at_call 196; refine (hesc.out _ _).mono ?_; rintro e W2 ⟨rfl, h2, o2⟩; replace h2 := hide h2; replace o2 := hide o2)
        go_roundw
        case rel => exact ⟨j + 1, a + 1 + (escT c).length, hlt, by rw [happ.out], h2.out, hpe2.out, ((hos.out _).drewN _).trans o2.out⟩
        case measure =>
          show L.length - (D ++ ⟨#[c]⟩).size < L.length - D.size
          rw [happ.out, hsz.out, mkB_size, ht1.out, List.length_append, htk]
          show L.length - (j + 1) < L.length - j
          omega
    · obtain rfl : j = L.length := by omega
      rw [List.take_of_length_le (Nat.le_refl _)]
      rw [List.drop_of_length_le (Nat.le_refl _)] at hp
      rw [show qL [] ++ 34 :: rest = 34 :: rest from rfl] at hp
      have hpn := hp.next
      obtain ⟨hi, hat⟩ := hp.at
      have hcC : s[a].toNat = 34 := by rw [hat]; rfl
      have hge : ¬ (s.size : Int) ≤ (a : Int) := by omega
      have hge2 : decide ((s.size : Int) ≤ (a : Int)) = false := decide_eq_false hge
      have hos := hide (fun N => (ho.drewN N).setCell (p := ⟨r, 1, none⟩) (Or.inl rfl) (.int .i64 ((a : Int) + 1)))
      have hmv := hide (fun N => move_ready ((wr.drewN N).setCell ⟨r, 1, none⟩ (.int .i64 ((a : Int) + 1))) r s kStr x rest ⟨a + 1, hRs.out N, hpn⟩ hs hok.out)
      replace hat := hide hat
      replace hp := hide hp
      replace hpn := hide hpn
      replace hR := hide hR
      replace ho := hide ho
      replace hpos := hide hpos
      have l0 := t0.out.lt
      go_wp2
      go_quiet (fail)
      go_wp2
      go_quiet (fail)
      go_upto_region 21 with (go_at_call 25; refine (hmv.out _).mono ?_; rintro e W2 ⟨rfl, hR2, o2⟩; have o20 := (hos.out _).trans o2; have t2 := o20.blk t0.out (by omega); have k2 := o20.blk k0.out (by omega); have q8 := t2.cell 8; have q9 := t2.cell 9; have g9 := t2.frozen 9; simp [tC] at q8 q9; replace t2 := hide t2; replace k2 := hide k2; replace o20 := hide o20; replace hR2 := hide hR2; clear o2)
      obtain ⟨T, hTT⟩ : ∃ T, mkB L = T := ⟨_, rfl⟩
      rw [hTT]
      have hTs : T.size ≤ 9223372036854775807 := by rw [← hTT, mkB_size]; omega
      replace hTT := hide hTT
      have l2 := o20.out.size
      go_wp2_with (at_builtin; refine wpList_append_own _ rfl _ _ 24 rfl W2.heap.size 9 i0 (.string ⟨#[]⟩) 1 16 Tryz.underlying24 hi0.out hz0.out hz1.out hz2.out rfl (by decide) _ _ _ rfl (World.ownsRow_nil _ _ _ _) ⟨W2.heap.size, 0, none⟩ 1 1 [.string T] rfl rfl ?c1 ?c2 ?c3 ?c4 ?c5 ?_)
      case c1 =>
        intro j u hj
        match j, hj with
        | 0, hj => simp at hj; subst hj; simp [Addr.add]
      case c2 => intro u hu; simp at hu; subst hu; rfl
      case c3 => unfold maxLen; omega
      case c4 => omega
      case c5 => simp
      intro v' W3 own3 g3 _
      obtain ⟨A, cap, rfl, -, -⟩ := own_sl own3
      have t3 := ((t2.out.alloc (.cells #[.string T] 9)).grown g3 (by simp [Value.ownBlock]))
      have k3 := hide (((k2.out.alloc (.cells #[.string T] 9)).grown g3 (by simp [Value.ownBlock])))
      have o3 : Only (fun _ => False) W2 W3 := ((Only.refl (fun _ => False) W2).alloc _).grown g3 (by intro k hk; simp [Value.ownBlock] at hk)
      have r8 := t3.cell 8
      have r9 := t3.cell 9
      have h9 := t3.frozen 9
      simp [tC] at r8 r9
      have hR3 := hR2.out.only o3 (fun h => h)
      have hne1 : ¬ (w.heap.size + 1 = r) := by omega
      have o4 : Only (· = w.heap.size + 1) W3 (W3.setCell ⟨w.heap.size + 1, 9, none⟩ (.slice A 1 cap)) := (Only.refl (· = w.heap.size + 1) W3).setCell (p := ⟨w.heap.size + 1, 9, none⟩) (Or.inl rfl) _
      have hR4 := hide (hR3.only o4 (by omega))
      have k4 := hide (k3.out.far (p := ⟨w.heap.size + 1, 9, none⟩) (by show w.heap.size ≠ w.heap.size + 1; omega) (.slice A 1 cap))
      replace hR3 := hide hR3
      replace o3 := hide o3
      replace o4 := hide o4
      replace t3 := hide t3
      clear own3 g3 q8 q9 g9
      go_upto_region 23 with fail
      obtain ⟨W4, hW4⟩ : ∃ W4, W4 = W3.setCell ⟨w.heap.size + 1, 9, none⟩ (.slice A 1 cap) := ⟨_, rfl⟩
      rw [← hW4] at o4 hR4 k4 ⊢
      clear hW4 r8 r9 h9
      go_wp2_with (first
        | (go_at_call 32; refine (str_val W4 T).mono ?_; rintro e W5 ⟨rfl, b5⟩; have k5 := hide (k4.out.below b5 k4.out.lt); have o5 : Only (fun _ => False) W4 W5 := Only.of_below b5 (fun k hk _ => hk); replace o5 := hide o5; clear b5)
        | (go_at_call 31; refine (val_any W5 4 0 T none none none 0 0 0 0 0 0).mono ?_; rintro e W6 ⟨rfl, b6⟩; have k6 := hide (k5.out.below b6 k5.out.lt); have o6 : Only (fun _ => False) W5 W6 := Only.of_below b6 (fun k hk _ => hk); replace o6 := hide o6; clear b6)
        | (refine wpList_store_blk rfl _ _ _ rfl w.heap.size _ rfl rfl 41 _ k6.out q_size rfl (val_one12 _ _ _ _ _ _ _ _ _ _ _ _ _ _ _ _ _) ?_; intro W7 k7 o7 s7; replace k7 := hide k7; replace o7 := hide o7; clear s7))
      (try simp only [Exit.inBlock, Exit.then])
      refine ret_q Tryz.results154 w.heap.size _ rfl rfl k7.out rfl ⟨_, rfl, ?_, ?_, ?_⟩
      · have := QAt.ofVal (w := W7) (P := (w.heap.size ≤ ·)) (v := txtJ (mkB L)) rfl rfl rfl (by show (mkB L).size ≤ _; rw [mkB_size]; omega) ⟨by show (-9223372036854775808 : Int) ≤ 4; decide, by show (4 : Int) ≤ 9223372036854775807; decide⟩ ⟨by show (-9223372036854775808 : Int) ≤ 0; decide, by show (0 : Int) ≤ 9223372036854775807; decide⟩
        rw [← hTT.out]
        exact this
      · exact ((hR4.out.only o5.out (fun h => h)).only o6.out (fun h => h)).only o7.out (by omega)
      · exact ((((((o0.out.trans o20.out).trans o3.out.no).back o4.out (fun b h => Or.inr (by omega))).trans o5.out.no).trans o6.out.no)).back o7.out (fun b h => Or.inr (by omega))
end Go.Proofs.YtbnbemacljjimaaGreatDoor

namespace Go.Proofs.YtbnbemacljjimaaGreatDoor
open Go.RowKit Go.Lib
set_option linter.unusedVariables false

set_option maxHeartbeats 4000000 in
set_option maxRecDepth 100000 in
theorem first_str {r : Nat} {s : ByteArray} {L rest : List UInt8} (hs : s.size ≤ 1000000) (hf : Fol rest) : FnSays 152 r s (34 :: (qL L ++ 34 :: rest)) rest (valQ (txtJ (mkB L))) := by
  intro w hR
  have hrw := hR.lt
  obtain ⟨-, -, c2, c3, -⟩ := hR.cells
  obtain ⟨W0, hW0⟩ : ∃ W0, W0 = (w.alloc (.cells zC 41)).alloc (.cells #[.string ⟨#[115, 116, 114]⟩, .string ⟨#[]⟩] 59) := ⟨_, rfl⟩
  have o0 : Only (fun _ => False) w W0 := by rw [hW0]; exact ((Only.refl _ w).alloc _).alloc _
  have k0 : Blk W0 w.heap.size 41 zC := by rw [hW0]; exact (Blk.new w _ _).alloc _
  have t0 : Blk W0 (w.heap.size + 1) 59 #[.string ⟨#[115, 116, 114]⟩, .string ⟨#[]⟩] := by rw [hW0]; exact Blk.new2 w _ _ _
  have hR0 : Ready W0 r s (34 :: (qL L ++ 34 :: rest)) := hR.only o0 (fun h => h)
  have hk0 : nxK (34 :: (qL L ++ 34 :: rest)) = kStr := rfl
  have hx0 : nxT (34 :: (qL L ++ 34 :: rest)) = ⟨#[]⟩ := rfl
  rw [hk0] at c2
  rw [hx0] at c3
  unfold kStr at c2
  have l0 := t0.lt
  have d0 := t0.cell 0
  have d1 := t0.cell 1
  simp at d0 d1
  replace o0 := hide o0
  replace k0 := hide k0
  replace t0 := hide t0
  replace hR0 := hide hR0
  replace hk0 := hide hk0
  replace hx0 := hide hx0
  clear hR
  unfold zC at hW0
  go_enter Tryz.func152, Tryz.ntmps152
  go_upto_region 2 with fail
  rw [← hW0]
  clear hW0
  have hT : Tok W0 r s kStr ⟨#[]⟩ (qL L ++ 34 :: rest) := hR0.out
  have htx := hide (rtext_any W0 r s ⟨#[]⟩ L rest hT hs hf)
  replace hT := hide hT
  go_wp2_with fail
  refine htx.out.mono ?_
  rintro e W1 ⟨y, rfl, hy, hR1, o1⟩
  have k1 := hide (o1.blk k0.out (by omega))
  have l1 := o1.size
  have hys := hide hy.sz
  have hya := hide hy.all
  replace hy := hide hy
  replace hR1 := hide hR1
  replace o1 := hide o1
  go_wp2_with (refine wpList_store_blk rfl _ _ _ rfl w.heap.size y.toArray rfl rfl 41 _ k1.out (by rw [hys.out]; exact q_size) (by rw [hys.out]; rfl) hya.out ?_; intro W5 k5 o5 s5; replace k5 := hide k5; replace o5 := hide o5; clear s5)
  (try simp only [Exit.inBlock, Exit.then])
  refine ret_q Tryz.results152 w.heap.size y.toArray rfl rfl k5.out hys.out ⟨y, rfl, ?_, ?_, ?_⟩
  · exact hy.out.only o5.out (fun b h1 h2 => by omega) (fun b _ h => by omega)
  · exact hR1.out.only o5.out (by omega)
  · exact (o0.out.no.trans o1.out).back o5.out (fun b h => Or.inr (by omega))

set_option maxHeartbeats 4000000 in
set_option maxRecDepth 100000 in
theorem key_str {r : Nat} {s : ByteArray} {L rest : List UInt8} (hs : s.size ≤ 1000000) (hf : Fol rest) : FnSays 191 r s (34 :: (qL L ++ 34 :: rest)) rest (valQ (txtJ (mkB L))) := by
  intro w hR
  have hrw := hR.lt
  obtain ⟨-, -, c2, c3, -⟩ := hR.cells
  obtain ⟨W0, hW0⟩ : ∃ W0, W0 = (w.alloc (.cells zC 41)).alloc (.cells #[.string ⟨#[115, 116, 114]⟩, .string ⟨#[]⟩] 59) := ⟨_, rfl⟩
  have o0 : Only (fun _ => False) w W0 := by rw [hW0]; exact ((Only.refl _ w).alloc _).alloc _
  have k0 : Blk W0 w.heap.size 41 zC := by rw [hW0]; exact (Blk.new w _ _).alloc _
  have t0 : Blk W0 (w.heap.size + 1) 59 #[.string ⟨#[115, 116, 114]⟩, .string ⟨#[]⟩] := by rw [hW0]; exact Blk.new2 w _ _ _
  have hR0 : Ready W0 r s (34 :: (qL L ++ 34 :: rest)) := hR.only o0 (fun h => h)
  have hk0 : nxK (34 :: (qL L ++ 34 :: rest)) = kStr := rfl
  have hx0 : nxT (34 :: (qL L ++ 34 :: rest)) = ⟨#[]⟩ := rfl
  rw [hk0] at c2
  rw [hx0] at c3
  unfold kStr at c2
  have l0 := t0.lt
  have d0 := t0.cell 0
  have d1 := t0.cell 1
  simp at d0 d1
  replace o0 := hide o0
  replace k0 := hide k0
  replace t0 := hide t0
  replace hR0 := hide hR0
  replace hk0 := hide hk0
  replace hx0 := hide hx0
  clear hR
  unfold zC at hW0
  go_enter Tryz.func191, Tryz.ntmps191
  go_upto_region 2 with fail
  rw [← hW0]
  clear hW0
  have hT : Tok W0 r s kStr ⟨#[]⟩ (qL L ++ 34 :: rest) := hR0.out
  have htx := hide (rtext_any W0 r s ⟨#[]⟩ L rest hT hs hf)
  replace hT := hide hT
  go_wp2_with fail
  refine htx.out.mono ?_
  rintro e W1 ⟨y, rfl, hy, hR1, o1⟩
  have k1 := hide (o1.blk k0.out (by omega))
  have l1 := o1.size
  have hys := hide hy.sz
  have hya := hide hy.all
  replace hy := hide hy
  replace hR1 := hide hR1
  replace o1 := hide o1
  go_wp2_with (refine wpList_store_blk rfl _ _ _ rfl w.heap.size y.toArray rfl rfl 41 _ k1.out (by rw [hys.out]; exact q_size) (by rw [hys.out]; rfl) hya.out ?_; intro W5 k5 o5 s5; replace k5 := hide k5; replace o5 := hide o5; clear s5)
  (try simp only [Exit.inBlock, Exit.then])
  refine ret_q Tryz.results191 w.heap.size y.toArray rfl rfl k5.out hys.out ⟨y, rfl, ?_, ?_, ?_⟩
  · exact hy.out.only o5.out (fun b h1 h2 => by omega) (fun b _ h => by omega)
  · exact hR1.out.only o5.out (by omega)
  · exact (o0.out.no.trans o1.out).back o5.out (fun b h => Or.inr (by omega))

set_option maxHeartbeats 4000000 in
set_option maxRecDepth 100000 in
theorem first_empty {r : Nat} {s : ByteArray} {rest : List UInt8} (hs : s.size ≤ 1000000) (hf : Fol rest) : FnSays 152 r s (91 :: 93 :: rest) rest (ofQ opList []) := by
  intro w hR
  have hrw := hR.lt
  obtain ⟨-, -, c2, c3, -⟩ := hR.cells
  obtain ⟨W0, hW0⟩ : ∃ W0, W0 = (w.alloc (.cells zC 41)).alloc (.cells #[.string ⟨#[111, 112]⟩, .string ⟨#[91]⟩] 59) := ⟨_, rfl⟩
  have o0 : Only (fun _ => False) w W0 := by rw [hW0]; exact ((Only.refl _ w).alloc _).alloc _
  have k0 : Blk W0 w.heap.size 41 zC := by rw [hW0]; exact (Blk.new w _ _).alloc _
  have t0 : Blk W0 (w.heap.size + 1) 59 #[.string ⟨#[111, 112]⟩, .string ⟨#[91]⟩] := by rw [hW0]; exact Blk.new2 w _ _ _
  have hR0 : Ready W0 r s (91 :: 93 :: rest) := hR.only o0 (fun h => h)
  have hk0 : nxK (91 :: 93 :: rest) = kOp := rfl
  have hx0 : nxT (91 :: 93 :: rest) = ⟨#[91]⟩ := rfl
  rw [hk0] at c2
  rw [hx0] at c3
  unfold kOp at c2
  have l0 := t0.lt
  have d0 := t0.cell 0
  have d1 := t0.cell 1
  simp at d0 d1
  replace o0 := hide o0
  replace k0 := hide k0
  replace t0 := hide t0
  replace hR0 := hide hR0
  replace hk0 := hide hk0
  replace hx0 := hide hx0
  clear hR
  unfold zC at hW0
  go_enter Tryz.func152, Tryz.ntmps152
  go_upto_region 2 with fail
  rw [← hW0]
  clear hW0
  have hok1 : OkTok (93 :: rest) := Fol.ok (Or.inr ⟨93, rest, rfl, by simp⟩)
  have hn : ∀ t : ByteArray, t ≠ ⟨#[91]⟩ → Calls Tryz.prog 54 #[.pointer (some ⟨r, 0, none⟩), .string t] W0 fun e w' => e = .returned (.bool false) ∧ W0 = w' := fun t ht => is_not W0 r s t _ hR0.out (Or.inr (by rw [hx0.out]; exact fun h => ht h.symm))
  have his := is_this W0 r s 91 (93 :: rest) hR0.out (by unfold opc; simp) hs hok1
  replace hn := hide hn
  replace his := hide his
  replace hok1 := hide hok1
  go_upto_region 33 with (first
    | (go_at_call 54; refine (hn.out _ (by decide)).mono ?_; rintro e w2 ⟨rfl, rfl⟩)
    | (go_at_call 54; refine his.out.mono ?_; rintro e W1 ⟨rfl, hR1, o1⟩; have k1 := hide (o1.blk k0.out (by omega)); have l1 := o1.size; replace hR1 := hide hR1; replace o1 := hide o1))
  go_wp2_with (first
    | (go_at_call 54; refine (is_this W1 r s 93 rest hR1.out (by unfold opc; simp) hs hf.ok).mono ?_; rintro e W2 ⟨rfl, hR2, o2⟩; have k2 := hide (o2.blk k1.out (by omega)); replace hR2 := hide hR2; replace o2 := hide o2)
    | (go_at_call 33; refine (of_any W2 opList none 0 0).mono ?_; rintro e W3 ⟨rfl, b3⟩; have k3 := hide (k2.out.below b3 k2.out.lt); have o3 : Only (fun _ => False) W2 W3 := Only.of_below b3 (fun k hk _ => hk); replace o3 := hide o3; clear b3)
    | (refine wpList_store_blk rfl _ _ _ rfl w.heap.size (ofC opList none 0 0).toArray rfl rfl 41 _ k3.out q_size rfl (by simp [ofC, Value.oneCell']) ?_; intro W5 k5 o5 s5; replace k5 := hide k5; replace o5 := hide o5; clear s5))
  (try simp only [Exit.inBlock, Exit.then])
  refine ret_q Tryz.results152 w.heap.size (ofC opList none 0 0).toArray rfl rfl k5.out rfl ⟨_, rfl, ?_, ?_, ?_⟩
  · exact QAt.of rfl (by decide) (by decide) (by decide) (fun h => absurd h (by decide))
  · exact (hR2.out.only o3.out (fun h => h)).only o5.out (by omega)
  · exact (((o0.out.no.trans o1.out).trans o2.out).trans o3.out.no).back o5.out (fun b h => Or.inr (by omega))

set_option maxHeartbeats 4000000 in
set_option maxRecDepth 100000 in
theorem first_list {r : Nat} {s : ByteArray} {m rest : List UInt8} {q : QV} (hs : s.size ≤ 1000000) (hf : Fol rest) (hokm : OkTok (m ++ 93 :: rest)) (hnm : (nxK (m ++ 93 :: rest) = kEnd ∨ nxK (m ++ 93 :: rest) = kStr ∨ nxK (m ++ 93 :: rest) = kNum) ∨ nxT (m ++ 93 :: rest) ≠ ⟨#[93]⟩) (h : FnSays 26 r s (m ++ 93 :: rest) (93 :: rest) q) : FnSays 152 r s (91 :: (m ++ 93 :: rest)) rest (ofQ opList [q]) := by
  intro w hR
  have hrw := hR.lt
  obtain ⟨-, -, c2, c3, -⟩ := hR.cells
  obtain ⟨W0, hW0⟩ : ∃ W0, W0 = (w.alloc (.cells zC 41)).alloc (.cells #[.string ⟨#[111, 112]⟩, .string ⟨#[91]⟩] 59) := ⟨_, rfl⟩
  have o0 : Only (fun _ => False) w W0 := by rw [hW0]; exact ((Only.refl _ w).alloc _).alloc _
  have k0 : Blk W0 w.heap.size 41 zC := by rw [hW0]; exact (Blk.new w _ _).alloc _
  have t0 : Blk W0 (w.heap.size + 1) 59 #[.string ⟨#[111, 112]⟩, .string ⟨#[91]⟩] := by rw [hW0]; exact Blk.new2 w _ _ _
  have hR0 : Ready W0 r s (91 :: (m ++ 93 :: rest)) := hR.only o0 (fun h => h)
  have hk0 : nxK (91 :: (m ++ 93 :: rest)) = kOp := rfl
  have hx0 : nxT (91 :: (m ++ 93 :: rest)) = ⟨#[91]⟩ := rfl
  rw [hk0] at c2
  rw [hx0] at c3
  unfold kOp at c2
  have l0 := t0.lt
  have d0 := t0.cell 0
  have d1 := t0.cell 1
  simp at d0 d1
  replace o0 := hide o0
  replace k0 := hide k0
  replace t0 := hide t0
  replace hR0 := hide hR0
  replace hk0 := hide hk0
  replace hx0 := hide hx0
  clear hR
  unfold zC at hW0
  go_enter Tryz.func152, Tryz.ntmps152
  go_upto_region 2 with fail
  rw [← hW0]
  clear hW0
  have hn : ∀ t : ByteArray, t ≠ ⟨#[91]⟩ → Calls Tryz.prog 54 #[.pointer (some ⟨r, 0, none⟩), .string t] W0 fun e w' => e = .returned (.bool false) ∧ W0 = w' := fun t ht => is_not W0 r s t _ hR0.out (Or.inr (by rw [hx0.out]; exact fun h => ht h.symm))
  have his := is_this W0 r s 91 (m ++ 93 :: rest) hR0.out (by unfold opc; simp) hs hokm
  replace hn := hide hn
  replace his := hide his
  replace hokm := hide hokm
  replace hnm := hide hnm
  replace h := hide h
  go_upto_region 33 with (first
    | (go_at_call 54; refine (hn.out _ (by decide)).mono ?_; rintro e w2 ⟨rfl, rfl⟩)
    | (go_at_call 54; refine his.out.mono ?_; rintro e W1 ⟨rfl, hR1, o1⟩; have k1 := hide (o1.blk k0.out (by omega)); have l1 := o1.size; replace hR1 := hide hR1; replace o1 := hide o1))
  go_upto_region 35 with (go_at_call 54; refine (is_not W1 r s _ _ hR1.out hnm.out).mono ?_; rintro e w2 ⟨rfl, rfl⟩)
  go_wp2_with fail
  refine (h.out W1 hR1.out).mono ?_
  rintro e W2 ⟨y, rfl, hy, hR2, o2⟩
  have k2 := hide (o2.blk k1.out (by omega))
  have l2 := o2.size
  have hys := hide hy.sz
  have hya := hide hy.all
  replace hy := hide hy
  replace hR2 := hide hR2
  replace o2 := hide o2
  go_upto_region 36 with (first
    | (refine wpList_bs1 rfl _ rfl y rfl hys.out ?_; intro W3 k3 o3 s3; have kk3 := hide (o3.blk k2.out (fun h => h)); replace k3 := hide k3; replace o3 := hide o3; replace s3 := hide s3)
    | (go_at_call 33; refine (of_any W3 opList _ 1 1).mono ?_; rintro e W4 ⟨rfl, b4⟩; have kk4 := hide (kk3.out.below b4 (by have := kk3.out.lt; omega)); have l4 := b4.size; have o4 : Only (fun _ => False) W3 W4 := Only.of_below b4 (fun k hk _ => hk); replace o4 := hide o4; clear b4)
    | (refine wpList_store_blk rfl _ _ _ rfl W4.heap.size (ofC opList (some ⟨W2.heap.size, 0, none⟩) 1 1).toArray rfl rfl 41 _ (Blk.new W4 _ _) q_size rfl (by simp [ofC, Value.oneCell']) ?_; intro W5 k5 o5 s5; replace k5 := hide k5; replace o5 := hide (only_new o5); clear s5))
  have e3 := s3.out
  have hv4 : VecQ W4 (w.heap.size + 1 < ·) (some ⟨W2.heap.size, 0, none⟩) [q] := by
    have h3 := (QRow.one (hy.out.only o3.out (fun _ _ _ h => h) (P' := (w.heap.size + 1 < ·)) (fun b _ (h : W1.heap.size ≤ b) => (show w.heap.size + 1 < b by omega)))).blk (P := (w.heap.size + 1 < ·)) k3.out (by omega)
    exact h3.only o4.out (fun _ _ _ h => h) (fun b _ h => h)
  have hR5 := ((hR2.out.only o3.out (fun h => h)).only o4.out (fun h => h)).only o5.out (fun h => h)
  have k15 := hide (o5.out.blk kk4.out (fun h => h))
  have hw := hide (want_this W5 r s 93 rest hR5 (by unfold opc; simp) hs hf.ok)
  replace hR5 := hide hR5
  replace hv4 := hide hv4
  have g4 : w.heap.size + 1 < W4.heap.size := by omega
  have hrW4 : ¬ W4.heap.size = r := by omega
  go_wp2_with (first
    | (go_at_call 74; refine hw.out.mono ?_; rintro e W6 ⟨rfl, hR6, o6⟩; have k6 := hide (o6.blk k15.out (by omega)); have kG6 := hide (o6.blk k5.out hrW4); replace hR6 := hide hR6; replace o6 := hide o6)
    | (refine wpList_load_row rfl _ _ rfl W4.heap.size rfl 41 (ofC opList (some ⟨W2.heap.size, 0, none⟩) 1 1).toArray (0, 0) _ kG6.out Tryz.underlying41 rfl q_size ?_)
    | (refine wpList_store_blk rfl _ _ _ rfl w.heap.size (ofC opList (some ⟨W2.heap.size, 0, none⟩) 1 1).toArray rfl rfl 41 _ k6.out q_size rfl (by simp [ofC, Value.oneCell']) ?_; intro W7 k7 o7 s7; replace k7 := hide k7; replace o7 := hide o7; clear s7))
  (try simp only [Exit.inBlock, Exit.then])
  refine ret_q Tryz.results152 w.heap.size (ofC opList (some ⟨W2.heap.size, 0, none⟩) 1 1).toArray rfl rfl k7.out rfl ⟨_, rfl, ?_, ?_, ?_⟩
  · refine QAt.of rfl (by decide) (by decide) (by decide) ?_
    have h5 := hv4.out.only o5.out (fun _ _ _ h => h) (P' := (w.heap.size + 1 < ·)) (fun b _ h => h)
    have h6 := h5.only o6.out (fun b (h1 : w.heap.size + 1 < b) h2 => by omega) (P' := (w.heap.size + 1 < ·)) (fun b _ h => h)
    exact h6.only o7.out (fun b (h1 : w.heap.size + 1 < b) h2 => by omega) (fun b _ (h : w.heap.size + 1 < b) => (show w.heap.size ≤ b by omega))
  · exact hR6.out.only o7.out (by omega)
  · exact ((((((o0.out.no.trans o1.out).trans o2.out).trans o3.out.no).trans o4.out.no).trans o5.out.no).trans o6.out).back o7.out (fun b h => Or.inr (by omega))

set_option maxHeartbeats 4000000 in
set_option maxRecDepth 100000 in
theorem first_obj {r : Nat} {s : ByteArray} {m rest : List UInt8} {q : QV} (hs : s.size ≤ 1000000) (hokm : OkTok m) (h : FnSays 194 r s m rest q) : FnSays 152 r s (123 :: m) rest q := by
  intro w hR
  have hrw := hR.lt
  obtain ⟨-, -, c2, c3, -⟩ := hR.cells
  obtain ⟨W0, hW0⟩ : ∃ W0, W0 = (w.alloc (.cells zC 41)).alloc (.cells #[.string ⟨#[111, 112]⟩, .string ⟨#[123]⟩] 59) := ⟨_, rfl⟩
  have o0 : Only (fun _ => False) w W0 := by rw [hW0]; exact ((Only.refl _ w).alloc _).alloc _
  have k0 : Blk W0 w.heap.size 41 zC := by rw [hW0]; exact (Blk.new w _ _).alloc _
  have t0 : Blk W0 (w.heap.size + 1) 59 #[.string ⟨#[111, 112]⟩, .string ⟨#[123]⟩] := by rw [hW0]; exact Blk.new2 w _ _ _
  have hR0 : Ready W0 r s (123 :: m) := hR.only o0 (fun h => h)
  have hk0 : nxK (123 :: m) = kOp := rfl
  have hx0 : nxT (123 :: m) = ⟨#[123]⟩ := rfl
  rw [hk0] at c2
  rw [hx0] at c3
  unfold kOp at c2
  have l0 := t0.lt
  have d0 := t0.cell 0
  have d1 := t0.cell 1
  simp at d0 d1
  replace o0 := hide o0
  replace k0 := hide k0
  replace t0 := hide t0
  replace hR0 := hide hR0
  replace hk0 := hide hk0
  replace hx0 := hide hx0
  clear hR
  unfold zC at hW0
  go_enter Tryz.func152, Tryz.ntmps152
  go_upto_region 2 with fail
  rw [← hW0]
  clear hW0
  have hn : ∀ t : ByteArray, t ≠ ⟨#[123]⟩ → Calls Tryz.prog 54 #[.pointer (some ⟨r, 0, none⟩), .string t] W0 fun e w' => e = .returned (.bool false) ∧ W0 = w' := fun t ht => is_not W0 r s t _ hR0.out (Or.inr (by rw [hx0.out]; exact fun h => ht h.symm))
  have his := is_this W0 r s 123 m hR0.out (by unfold opc; simp) hs hokm
  replace hn := hide hn
  replace his := hide his
  replace hokm := hide hokm
  replace h := hide h
  go_upto_region 39 with (first
    | (go_at_call 54; refine (hn.out _ (by decide)).mono ?_; rintro e w2 ⟨rfl, rfl⟩)
    | (go_at_call 54; refine his.out.mono ?_; rintro e W1 ⟨rfl, hR1, o1⟩; have k1 := hide (o1.blk k0.out (by omega)); have l1 := o1.size; replace hR1 := hide hR1; replace o1 := hide o1))
  go_wp2_with fail
  refine (h.out W1 hR1.out).mono ?_
  rintro e W2 ⟨y, rfl, hy, hR2, o2⟩
  have k2 := hide (o2.blk k1.out (by omega))
  have l2 := o2.size
  have hys := hide hy.sz
  have hya := hide hy.all
  replace hy := hide hy
  replace hR2 := hide hR2
  replace o2 := hide o2
  go_wp2_with (refine wpList_store_blk rfl _ _ _ rfl w.heap.size y.toArray rfl rfl 41 _ k2.out (by rw [hys.out]; exact q_size) (by rw [hys.out]; rfl) hya.out ?_; intro W5 k5 o5 s5; replace k5 := hide k5; replace o5 := hide o5; clear s5)
  (try simp only [Exit.inBlock, Exit.then])
  refine ret_q Tryz.results152 w.heap.size y.toArray rfl rfl k5.out hys.out ⟨y, rfl, ?_, ?_, ?_⟩
  · exact hy.out.only o5.out (fun b h1 h2 => by omega) (fun b _ h => by omega)
  · exact hR2.out.only o5.out (by omega)
  · exact ((o0.out.no.trans o1.out).trans o2.out).back o5.out (fun b h => Or.inr (by omega))

set_option maxHeartbeats 4000000 in
set_option maxRecDepth 100000 in
theorem member_term {r : Nat} {s : ByteArray} {l rest : List UInt8} {q : QV} (hs : s.size ≤ 1000000) (hf : Fol rest) (hn : (nxK l = kEnd ∨ nxK l = kStr ∨ nxK l = kNum) ∨ nxT l ≠ ⟨#[45]⟩) (h : FnSays 129 r s l rest q) : FnSays 215 r s l rest q := by
  intro w hR
  have hrw := hR.lt
  replace h := hide h
  obtain ⟨W0, hW0⟩ : ∃ W0, W0 = w.alloc (.cells zC 41) := ⟨_, rfl⟩
  have o0 : Only (· = r) w W0 := by rw [hW0]; exact (Only.refl _ w).alloc _
  have k0 : Blk W0 w.heap.size 41 zC := by rw [hW0]; exact Blk.new w _ _
  have s0 : W0.heap.size = w.heap.size + 1 := by rw [hW0]; simp
  have hR0 : Ready W0 r s (l) := by rw [hW0]; exact hR.only ((Only.refl (fun _ => False) w).alloc _) (fun h => h)
  replace o0 := hide o0
  replace s0 := hide s0
  replace hR0 := hide hR0
  replace k0 := hide k0
  clear hR
  unfold zC at hW0
  replace hf := hide hf
  replace hn := hide hn
  go_enter Tryz.func215, Tryz.ntmps215
  go_wp2_with fail
  rw [← hW0]
  clear hW0
  refine (is_not W0 r s _ l hR0.out hn.out).mono ?_
  rintro e W1 ⟨rfl, rfl⟩
  go_wp2_with fail
  refine (h.out W0 hR0.out).mono ?_
  rintro e W1 ⟨y, rfl, hy, hR1, o1⟩
  have hlt1 := o1.size
  have hys := hide hy.sz
  have hya := hide hy.all
  have k1 := hide (o1.blk k0.out (by omega))
  replace hy := hide hy
  replace hR1 := hide hR1
  replace o1 := hide o1
  go_wp2_with (first
    | (go_at_call 54; refine (is_fol W3 r s _ rest (hR1.out.only o3.out (fun h => h)) hf.out (by decide)).mono ?_; rintro e w2 ⟨rfl, rfl⟩; have k13 := hide (o3.out.blk k1.out (fun h => h)))
    | (refine wpList_load_row rfl _ _ rfl W1.heap.size rfl 41 y.toArray (0, 0) _ k3.out Tryz.underlying41 rfl (by rw [hys.out]; exact q_size) ?_)
    | (refine wpList_store_blk rfl _ _ _ rfl W1.heap.size y.toArray rfl rfl 41 _ (Blk.new W1 _ _) (by rw [hys.out]; exact q_size) (by rw [hys.out]; rfl) hya.out ?_; intro W3 k3 o3 s3; replace k3 := hide k3; replace o3 := hide (only_new o3); clear s3)
    | (refine wpList_store_blk rfl _ _ _ rfl w.heap.size y.toArray rfl rfl 41 _ k13.out (by rw [hys.out]; exact q_size) (by rw [hys.out]; rfl) hya.out ?_; intro W5 k5 o5 s5; replace k5 := hide k5; replace o5 := hide o5; clear s5))
  (try simp only [Exit.inBlock, Exit.then])
  refine ret_q Tryz.results215 w.heap.size y.toArray rfl rfl k5.out hys.out ⟨y, rfl, ?_, ?_, ?_⟩
  · have l3 := o3.out.size
    have l5 := o5.out.size
    have e0 := s0.out
    exact (hy.out.only o3.out (fun _ _ _ h => h) (fun b _ h => h)).only o5.out (fun b h1 h2 => by omega) (fun b _ h => by omega)
  · exact (hR1.out.only o3.out (fun h => h)).only o5.out (by omega)
  · exact ((o0.out.trans o1.out).trans o3.out.no).back o5.out (fun b h => Or.inr (by omega))

set_option maxHeartbeats 2000000 in
set_option maxRecDepth 100000 in
theorem member_neg {r : Nat} {s : ByteArray} {l rest : List UInt8} {q : QV} (hs : s.size ≤ 1000000) (hok : OkTok l) (h : FnSays 215 r s l rest q) : FnSays 215 r s (45 :: l) rest (ofQ opNeg [q]) := by
  intro w hR
  have hrw := hR.lt
  replace h := hide h
  obtain ⟨W0, hW0⟩ : ∃ W0, W0 = w.alloc (.cells zC 41) := ⟨_, rfl⟩
  have o0 : Only (· = r) w W0 := by rw [hW0]; exact (Only.refl _ w).alloc _
  have k0 : Blk W0 w.heap.size 41 zC := by rw [hW0]; exact Blk.new w _ _
  have s0 : W0.heap.size = w.heap.size + 1 := by rw [hW0]; simp
  have hR0 : Ready W0 r s (45 :: l) := by rw [hW0]; exact hR.only ((Only.refl (fun _ => False) w).alloc _) (fun h => h)
  replace o0 := hide o0
  replace s0 := hide s0
  replace hR0 := hide hR0
  replace k0 := hide k0
  clear hR
  unfold zC at hW0
  go_enter Tryz.func215, Tryz.ntmps215
  go_wp2_with fail
  rw [← hW0]
  clear hW0
  refine (is_this W0 r s 45 l hR0.out (by unfold opc; simp) hs hok).mono ?_
  rintro e W1 ⟨rfl, hR1, o1⟩
  go_wp2_with fail
  refine (h.out W1 hR1).mono ?_
  rintro e W2 ⟨y, rfl, hy, hR2, o2⟩
  have hlt1 := o1.size
  have hlt2 := o2.size
  have hys := hy.sz
  have hya := hy.all
  have k1 := hide ((o1.trans o2).blk k0.out (by omega))
  replace hys := hide hys
  replace hya := hide hya
  have hq1 := hide hy
  clear hy
  go_wp2_with (first
    | (refine wpList_bs1 rfl _ rfl y rfl hys.out ?_; intro W3 k3 o3 s3; have ho2 := hide o2; clear o2; have hk1 := hide (o3.blk k1.out (fun h => h)); replace k3 := hide k3; replace o3 := hide o3; replace s3 := hide s3)
    | (go_at_call 33; refine (of_any W3 opNeg _ 1 1).mono ?_; rintro e W4 ⟨rfl, b4⟩; have k4 := hide (hk1.out.below b4 (by have := hk1.out.lt; omega)); replace b4 := hide b4)
    | (refine wpList_store_blk rfl _ _ _ rfl w.heap.size (ofC opNeg (some ⟨W2.heap.size, 0, none⟩) 1 1).toArray rfl rfl 41 _ k4.out q_size rfl (by simp [ofC, Value.oneCell']) ?_; intro W5 k5 o5 s5; replace k5 := hide k5; replace o5 := hide o5; clear s5))
  (try simp only [Exit.inBlock, Exit.then])
  refine ret_q Tryz.results215 w.heap.size (ofC opNeg (some ⟨W2.heap.size, 0, none⟩) 1 1).toArray rfl rfl k5.out rfl ⟨_, rfl, ?_, ?_, ?_⟩
  · have e0 := s0.out
    have e3 := s3.out
    have o4 : Only (fun _ => False) W3 W4 := Only.of_below b4.out (fun k hk _ => hk)
    have h5 : VecQ W5 (w.heap.size ≤ ·) (some ⟨W2.heap.size, 0, none⟩) [q] := by
      have l4 := o4.size
      have h3 := (QRow.one (hq1.out.only o3.out (fun _ _ _ h => h) (fun b _ (h : W1.heap.size ≤ b) => (show W1.heap.size ≤ b from h)))).blk (P := (W1.heap.size ≤ ·)) k3.out hlt2
      exact (h3.only o4 (fun _ _ _ h => h) (fun b _ h => h)).only o5.out (fun b (h1 : W1.heap.size ≤ b) h2 => by omega) (fun b _ (h : W1.heap.size ≤ b) => by omega)
    exact QAt.of rfl (by decide) (by decide) (by decide) h5
  · have o4 : Only (fun _ => False) W3 W4 := Only.of_below b4.out (fun k hk _ => hk)
    exact ((hR2.only o3.out (fun h => h)).only o4 (fun h => h)).only o5.out (by omega)
  · have o4 : Only (fun _ => False) W3 W4 := Only.of_below b4.out (fun k hk _ => hk)
    exact ((((o0.out.trans o1).trans ho2.out).trans o3.out.no).trans o4.no).back o5.out (fun b h => Or.inr (by omega))
end Go.Proofs.YtbnbemacljjimaaGreatDoor

namespace Go.Proofs.YtbnbemacljjimaaGreatDoor
open Go.RowKit Go.Lib
set_option linter.unusedVariables false

/-- An append's row lies where it lay, or in a block of its own. -/
theorem append_fresh {P : Program} (w : World) (base : Nat) (t ty e : TypeId) (i : TypeInfo) (z : Value) (size bytes : Nat) (ht : P.underlying t = some (.slice e)) (hi : P.info? e = some i) (hz : i.zero = some z)
    (hsize : i.size = size) (hby : i.bytes = bytes) (hzs : z.cells.size = size) (hsz : 0 < size) (v : Value) (n : Nat) (xs : List Value) (hown : w.ownsRow base e size v n xs)
    (a : Addr) (m c : Nat) (news : List Value) (hl : news.length = m * size) (hm : 0 < m) (hnews : ∀ j u, news[j]? = some u → w.cell? (a.add j) = some u) (h1 : ∀ u ∈ news, u.oneCell' = true)
    (h63 : n + m ≤ maxLen) (hbytes : (n + m) * bytes ≤ 140737488355328) (hbase : base ≤ w.heap.size) :
    ∃ v' w', (Builtin.append_ #[t, t] ty #[v, .slice (some a) m c]).run P w = .ok v' w' ∧ w'.ownsRow base e size v' (n + m) (xs ++ news) ∧ w.grownBy w' v.ownBlock ∧ (v'.ownBlock = v.ownBlock ∨ v'.ownBlock = some w.heap.size) := by
  obtain ⟨v', w', hr, k1, k2, -⟩ := run_append_own (P := P) w base t ty e i z size bytes ht hi hz hsize hby hzs hsz v n xs hown a m c news hl hnews h1 h63 hbytes hbase
  refine ⟨v', w', hr, k1, k2, ?_⟩
  have hsmall : n + m ≤ 9223372036854775807 := by simp only [maxLen] at h63; omega
  subst hsize
  subst hby
  rcases hown.2 with ⟨rfl, rfl⟩ | ⟨g, cap, cur, rfl, hbg, hg, hnc, hcm, hcs, htake⟩
  · have hr2 := run_append_nil (P := P) w t ty e i z ht hi hz a m c news hl hnews (by omega) (by omega) (by have hb := hbytes; simp only [Nat.zero_add] at hb; omega)
    rw [hr2] at hr
    injection hr with e1 e2
    rw [← e1]
    exact Or.inr rfl
  · by_cases hroom : n + m ≤ cap
    · have hfit : n * i.size + news.length ≤ cur.size := by rw [hl, hcs, ← Nat.add_mul]; exact Nat.mul_le_mul_right _ hroom
      have hr2 := run_append_room (P := P) w t ty e i ht hi g n cap cur hg a m c news hl hnews h1 hroom hfit
      rw [hr2] at hr
      injection hr with e1 e2
      rw [← e1]
      exact Or.inl rfl
    · have holds : ∀ j u, xs[j]? = some u → w.cell? ((⟨g, 0, none⟩ : Addr).add j) = some u := hown.cells (g := g) rfl
      have hr2 := run_append_grow (P := P) w t ty e i z ht hi hz ⟨g, 0, none⟩ n cap xs hown.1 holds a m c news hl hnews (by omega) (by omega) (growslice_fits (by omega) hbytes)
      rw [hr2] at hr
      injection hr with e1 e2
      rw [← e1]
      exact Or.inr rfl

theorem wpList_append_fresh {P : Program} {ops : Array Oper} {rest : List Oper} {o : Oper} {a : Act} {w : World} {Q : Exit → Act → World → Prop} (hgd : o.guard = none) (s x : Operand) (t : TypeId)
    (ho : o.op = .call { callee := .builtin .append, args := #[s, x], argTypes := #[t, t] })
    (base : Nat) (e : TypeId) (i : TypeInfo) (z : Value) (size bytes : Nat) (ht : P.underlying t = some (.slice e)) (hi : P.info? e = some i) (hz : i.zero = some z)
    (hsize : i.size = size) (hby : i.bytes = bytes) (hzs : z.cells.size = size) (hsz : 0 < size) (v : Value) (n : Nat) (xs : List Value) (hs : a.eval s = v) (hown : w.ownsRow base e size v n xs)
    (ad : Addr) (m c : Nat) (news : List Value) (hx : a.eval x = .slice (some ad) m c) (hl : news.length = m * size) (hm : 0 < m) (hnews : ∀ j u, news[j]? = some u → w.cell? (ad.add j) = some u) (h1 : ∀ u ∈ news, u.oneCell' = true)
    (h63 : n + m ≤ maxLen) (hbytes : (n + m) * bytes ≤ 140737488355328) (hbase : base ≤ w.heap.size)
    (h : ∀ v' w', w'.ownsRow base e size v' (n + m) (xs ++ news) → w.grownBy w' v.ownBlock → (v'.ownBlock = v.ownBlock ∨ v'.ownBlock = some w.heap.size) → wpList P ops Q rest (a.put o.dst v') w') : wpList P ops Q (o :: rest) a w :=
  wpList_plain hgd fun _ hK => by
    obtain ⟨v', w', hr, k1, k2, k3⟩ := append_fresh (P := P) w base t o.type e i z size bytes ht hi hz hsize hby hzs hsz v n xs hown ad m c news hl hm hnews h1 h63 hbytes hbase
    unfold Oper.wp execOp
    simp only [ho, resolve, invoke, builtin, Sem.run_bind, Sem.run_pure, Result.andThen_ok, List.map_toArray, List.map_cons, List.map_nil, hs, hx, hr]
    exact hK _ _ (h v' w' k1 k2 k3)

theorem Tryz.infoQ : (Tryz.prog.info? 41).map (fun i => (i.zero, i.size, i.bytes)) = some (some (.agg zC), 12, 232) := by kernel_rfl

/-- Blocks that are neither the loop's own nor the row's. -/
abbrev Pw (R Q : Nat) (v : Value) : Nat → Prop := fun b => R < b ∧ b ≠ Q ∧ v.ownBlock ≠ some b

theorem QRow.app {w w2 : World} {R Q : Nat} {v v' : Value} {xs ys : List Value} {qs ks : List QV} (h1 : QRow w (Pw R Q v) xs qs) (h2 : QRow w (Pw R Q v) ys ks) (hg : w.grownBy w2 v.ownBlock) (hf : v'.ownBlock = v.ownBlock ∨ v'.ownBlock = some w.heap.size) :
    QRow w2 (Pw R Q v') (xs ++ ys) (qs ++ ks) := by
  have ho : Only (fun k => v.ownBlock = some k) w w2 := (Only.refl _ w).grown hg (fun k hk => Or.inl hk)
  refine (h1.append h2).only ho (fun b hb _ h => hb.2.2 h) (fun b hlt hb => ⟨hb.1, hb.2.1, ?_⟩)
  rcases hf with h | h
  · rw [h]
    exact hb.2.2
  · rw [h]
    intro e
    injection e with e
    omega

theorem own_ge {w : World} {base : Nat} {e : TypeId} {size n : Nat} {v : Value} {xs : List Value} (h : w.ownsRow base e size v n xs) {k : Nat} (hk : v.ownBlock = some k) : base ≤ k ∧ k < w.heap.size := h.lt k hk
end Go.Proofs.YtbnbemacljjimaaGreatDoor

namespace Go.Proofs.YtbnbemacljjimaaGreatDoor
open Go.RowKit Go.Lib
set_option linter.unusedVariables false

/-- An object that is being read: its block Q, its row. -/
structure ObS (W4 w : World) (r R Q n c : Nat) (A : Option Addr) (xs : List Value) (qs : List QV) : Prop where
  onl : Only (fun k => k = r ∨ k = Q ∨ (Value.slice A n c).ownBlock = some k) W4 w
  kR : Blk w R 41 zC
  kQ : Blk w Q 41 (ofC opObj A n c).toArray
  own : w.ownsRow (Q + 1) 41 12 (.slice A n c) n xs
  row : QRow w (Pw R Q (.slice A n c)) xs qs

theorem ObS.move {W4 w w' : World} {r R Q n c : Nat} {A : Option Addr} {xs : List Value} {qs : List QV} (H : ObS W4 w r R Q n c A xs qs) (hr : r < R) (hRQ : R < Q) {Z : Nat → Prop} (ho : Only Z w w') (hZ : ∀ k, Z k → k = r) : ObS W4 w' r R Q n c A xs qs :=
  ⟨H.onl.trans (ho.mono (fun k h => Or.inl (hZ k h))), ho.blk H.kR (fun h => by have := hZ _ h; omega), ho.blk H.kQ (fun h => by have := hZ _ h; omega),
    ho.own H.own (fun k hk h => by have := hZ _ h; have := (own_ge H.own hk).1; omega), H.row.only ho (fun b hb _ h => by have := hZ _ h; have := hb.1; omega) (fun b _ h => h)⟩

/-- .. whose row has grown; the block is not yet told of it (b = false), or is. -/
structure ObN (W4 w : World) (r R Q n c : Nat) (A : Option Addr) (qs : List QV) (b : Bool) (A' : Option Addr) (c' : Nat) : Prop where
  onl : Only (fun k => k = r ∨ k = Q ∨ (Value.slice A n c).ownBlock = some k) W4 w
  kR : Blk w R 41 zC
  kQ : Blk w Q 41 (if b then (ofC opObj A' (n + 2) c').toArray else (ofC opObj A n c).toArray)
  row : ∃ xs', w.ownsRow (Q + 1) 41 12 (.slice A' (n + 2) c') (n + 2) xs' ∧ QRow w (Pw R Q (.slice A' (n + 2) c')) xs' qs

/-- How far the operations in their forced order have come. -/
inductive PhO (W4 : World) (r R Q K n c : Nat) (A : Option Addr) (xs : List Value) (qs : List QV) (s : ByteArray) (u : List Value) (qk qm : QV) (l1 l2 : List UInt8) (listed : Array Bool) (w : World) (s43 s44 s45 : Value) : Prop
  | p0 (n4 : ¬ Up listed 4) (n5 : ¬ Up listed 5) (n6 : ¬ Up listed 6) (n8 : ¬ Up listed 8) (h : ObS W4 w r R Q n c A xs qs) (k : Blk w K 41 u.toArray) (ru : QRow w (Pw R Q (.slice A n c)) u [qk]) (rd : Ready w r s l1)
  | p1 (u4 : Up listed 4) (n5 : ¬ Up listed 5) (n6 : ¬ Up listed 6) (n8 : ¬ Up listed 8) (h : ObS W4 w r R Q n c A xs qs) (k : Blk w K 41 u.toArray) (ru : QRow w (Pw R Q (.slice A n c)) u [qk]) (z : List Value) (e : s43 = .agg z.toArray) (hz : QAt w (Pw R Q (.slice A n c)) z qm) (rd : Ready w r s l2)
  | p2 (u2 : Up listed 2) (u4 : Up listed 4) (u5 : Up listed 5) (n6 : ¬ Up listed 6) (n8 : ¬ Up listed 8) (h : ObS W4 w r R Q n c A xs qs) (ys : List Value) (g : Nat) (e : s44 = .slice (some ⟨g, 0, none⟩) 2 2) (kg : Blk w g 41 ys.toArray) (ry : QRow w (Pw R Q (.slice A n c)) ys [qk, qm]) (rd : Ready w r s l2)
  | p3 (u1 : Up listed 1) (u2 : Up listed 2) (u4 : Up listed 4) (u5 : Up listed 5) (u6 : Up listed 6) (n8 : ¬ Up listed 8) (A' : Option Addr) (c' : Nat) (e : s45 = .slice A' (n + 2) c') (h : ObN W4 w r R Q n c A (qs ++ [qk, qm]) false A' c') (rd : Ready w r s l2)
  | p4 (u1 : Up listed 1) (u2 : Up listed 2) (u4 : Up listed 4) (u5 : Up listed 5) (u6 : Up listed 6) (u8 : Up listed 8) (A' : Option Addr) (c' : Nat) (h : ObN W4 w r R Q n c A (qs ++ [qk, qm]) true A' c') (rd : Ready w r s l2)

section
variable {W4 : World} {r R Q K n c : Nat} {A : Option Addr} {xs : List Value} {qs : List QV} {s : ByteArray} {u : List Value} {qk qm : QV} {l1 l2 : List UInt8} {listed : Array Bool} {w : World} {s43 s44 s45 : Value}
theorem PhO.put (H : PhO W4 r R Q K n c A xs qs s u qk qm l1 l2 listed w s43 s44 s45) (i : Nat) (h4 : ¬ 4 = i) (h5 : ¬ 5 = i) (h6 : ¬ 6 = i) (h8 : ¬ 8 = i) : PhO W4 r R Q K n c A xs qs s u qk qm l1 l2 (listed.setIfInBounds i true) w s43 s44 s45 := by
  cases H with
  | p0 n4 n5 n6 n8 h k ru rd => exact .p0 (fun x => n4 (Up.set_ne h4 x)) (fun x => n5 (Up.set_ne h5 x)) (fun x => n6 (Up.set_ne h6 x)) (fun x => n8 (Up.set_ne h8 x)) h k ru rd
  | p1 u4 n5 n6 n8 h k ru z e hz rd => exact .p1 (Up.more u4) (fun x => n5 (Up.set_ne h5 x)) (fun x => n6 (Up.set_ne h6 x)) (fun x => n8 (Up.set_ne h8 x)) h k ru z e hz rd
  | p2 u2 u4 u5 n6 n8 h ys g e kg ry rd => exact .p2 (Up.more u2) (Up.more u4) (Up.more u5) (fun x => n6 (Up.set_ne h6 x)) (fun x => n8 (Up.set_ne h8 x)) h ys g e kg ry rd
  | p3 u1 u2 u4 u5 u6 n8 A' c' e h rd => exact .p3 (Up.more u1) (Up.more u2) (Up.more u4) (Up.more u5) (Up.more u6) (fun x => n8 (Up.set_ne h8 x)) A' c' e h rd
  | p4 u1 u2 u4 u5 u6 u8 A' c' h rd => exact .p4 (Up.more u1) (Up.more u2) (Up.more u4) (Up.more u5) (Up.more u6) (Up.more u8) A' c' h rd
theorem PhO.kQ (H : PhO W4 r R Q K n c A xs qs s u qk qm l1 l2 listed w s43 s44 s45) (h1 : ¬ Up listed 1) : Blk w Q 41 (ofC opObj A n c).toArray := by
  cases H with
  | p0 n4 n5 n6 n8 h k ru rd => exact h.kQ
  | p1 u4 n5 n6 n8 h k ru z e hz rd => exact h.kQ
  | p2 u2 u4 u5 n6 n8 h ys g e kg ry rd => exact h.kQ
  | p3 u1 u2 u4 u5 u6 n8 A' c' e h rd => exact absurd u1 h1
  | p4 u1 u2 u4 u5 u6 u8 A' c' h rd => exact absurd u1 h1
theorem PhO.kK (H : PhO W4 r R Q K n c A xs qs s u qk qm l1 l2 listed w s43 s44 s45) (h2 : ¬ Up listed 2) : Blk w K 41 u.toArray := by
  cases H with
  | p0 n4 n5 n6 n8 h k ru rd => exact k
  | p1 u4 n5 n6 n8 h k ru z e hz rd => exact k
  | p2 u2 u4 u5 n6 n8 h ys g e kg ry rd => exact absurd u2 h2
  | p3 u1 u2 u4 u5 u6 n8 A' c' e h rd => exact absurd u2 h2
  | p4 u1 u2 u4 u5 u6 u8 A' c' h rd => exact absurd u2 h2
end

/-- A member's text: its key, and its value's text. -/
abbrev Mem := List UInt8 × List UInt8 × QV
def mtx (e : Mem) : List UInt8 := 34 :: (qL e.1 ++ 34 :: (58 :: e.2.1))
def tailM : List Mem → List UInt8 → List UInt8
  | [], rest => 125 :: rest
  | e :: es, rest => 44 :: (mtx e ++ tailM es rest)
theorem tailM_fol (rest : List UInt8) : ∀ es, Fol (tailM es rest)
  | [] => Or.inr ⟨125, rest, rfl, by simp⟩
  | e :: es => Or.inr ⟨44, _, rfl, by simp⟩
/-- The kids of an object. -/
def kvM : List Mem → List QV
  | [] => []
  | e :: es => valQ (txtJ (mkB e.1)) :: e.2.2 :: kvM es
theorem kvM_snoc : ∀ (l : List Mem) (e : Mem), kvM (l ++ [e]) = kvM l ++ [valQ (txtJ (mkB e.1)), e.2.2]
  | [], e => rfl
  | a :: l, e => by
    show valQ _ :: a.2.2 :: kvM (l ++ [e]) = _
    rw [kvM_snoc l e]
    rfl
theorem kvM_len : ∀ l : List Mem, (kvM l).length = 2 * l.length
  | [] => rfl
  | a :: l => by
    show (kvM l).length + 1 + 1 = _
    rw [kvM_len l, List.length_cons]
    omega
/-- A member's value is read. -/
def MemSays (r : Nat) (s : ByteArray) (t : List UInt8) (q : QV) : Prop := ∀ rest, Fol rest → OkTok (t ++ rest) ∧ FnSays 215 r s (t ++ rest) rest q

theorem objC_set (A A' : Option Addr) (n n' c c' : Nat) : (ofC opObj A n c).toArray.setIfInBounds 8 (.slice A' n' c') = (ofC opObj A' n' c').toArray := rfl
end Go.Proofs.YtbnbemacljjimaaGreatDoor
