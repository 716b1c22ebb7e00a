/- The tables of unicode/utf8 and utf8.ValidString. -/
import Derived.Test.YtbnbemacljjimaaGreatDoorJc00
import Derived.Shelf.Unicode.ValidAny
import Derived.Deep.Cut
import Derived.Deep.CutRange
import Derived.Deep.CutBlock
import Derived.StillTailTactics
import Derived.Laws.FloatArith
namespace Go.Proofs.YtbnbemacljjimaaGreatDoor
open Go.RowKit

theorem valid_any (w : World) (B : Nat) (s : ByteArray) (hs : s.size ≤ 9223372036854775807) (hT : Tabs w B) :
    Calls Tryz.prog 88 #[.string s] w fun e w' => e = .returned (.bool (Lib.validD s.data.toList)) ∧ Below w.heap.size w w' :=
  Any.utf8_ValidString Tryz.lays196 s w hs hT.1


set_option maxHeartbeats 400000 in
theorem str_any (w : World) (B g : Nat) (p q : Int) (b : Bool) (s : ByteArray) (h : Lk w g p q b) (hT : Tabs w B) (hB : B ≤ g) (hBw : B ≤ w.heap.size) (hs : s.size ≤ 140737488351232) (hq : 0 ≤ q ∧ q ≤ 2000) :
    Calls Tryz.prog 66 #[.pointer (some ⟨g, 0, none⟩), .string s] w fun e w' => ∃ b', e = .returned (.tuple #[]) ∧ Lk w' g p (q + (s.size : Int)) b' ∧ Only (· = g) w w' ∧ (b' = false → b = false ∧ Lib.validD s.data.toList = true ∧ q + (s.size : Int) ≤ 2000) := by
  have c1 := h.cell 1
  have f1 := h.frozen 1
  simp at c1
  obtain ⟨q', hx⟩ : ∃ q', q + (s.size : Int) = q' := ⟨_, rfl⟩
  have hx' : IntKind.i64.wrap (q + (s.size : Int)) = q' := by rw [IntKind.wrap_i64]; omega
  have h1 : Lk (w.setCell ⟨g, 1, none⟩ (.int .i64 q')) g p q' b := by
    have := h.set_ 1 (.int .i64 q')
    simpa [Lk] using this
  have o1 : Only (· = g) w (w.setCell ⟨g, 1, none⟩ (.int .i64 q')) := (Only.refl (· = g) w).setCell (p := ⟨g, 1, none⟩) (Or.inl rfl) _
  have hT1 : Tabs (w.setCell ⟨g, 1, none⟩ (.int .i64 q')) B := hT.only o1 (by intro k hk; omega) hBw
  have hlt := h1.lt
  have h1 := hide h1
  have o1 := hide o1
  have hT1 := hide hT1
  clear hT
  rw [hx]
  replace hx := hide hx
  go_enter Tryz.func66, Tryz.ntmps66
  go_wp2_with (first
    | (go_at_call 88; refine (valid_any _ B s (by omega) hT1.out).mono ?_; rintro e w1 ⟨rfl, hb1⟩; have o2 := hide (o1.out.trans (Only.of_below (P := (· = g)) hb1 (fun k hk _ => hk))); have h1 := hide (h1.out.below hb1 hlt); clear hb1)
    | (go_at_call 65; refine (want_any _ g p q' b _ h1.out).mono ?_; rintro e w' ⟨rfl, hl, ho⟩; have hl := hide hl; have ho := hide ho))
  all_goals go_end0
  all_goals refine ⟨_, rfl, hl.out, ?_, ?_⟩
  all_goals first
  | exact o2.out.trans ho.out
  | exact o1.out.trans ho.out
  | skip
  all_goals
    intro hb
    cases b <;> simp at hb <;> exact ⟨rfl, hb, by omega⟩
end Go.Proofs.YtbnbemacljjimaaGreatDoor

namespace Go.Proofs.YtbnbemacljjimaaGreatDoor
open Go.RowKit
set_option linter.unusedVariables false

/-- The looker's first two wishes. -/
def Wish1 (v : JV) : Prop := (0 ≤ v.kind ∧ v.kind ≤ 6) ∧ (v.kind = 3 ∨ v.half = 0) ∧ (v.kind = 4 ∨ v.text.toList = []) ∧ (v.kind = 5 ∨ v.list = []) ∧ (v.kind = 6 ∨ v.keys = []) ∧ v.keys.length = v.vals.length
def Wish2 (v : JV) : Prop := (-18014398509481984 ≤ v.half ∧ v.half ≤ 18014398509481984) ∧ (v.half.tmod 2 = 0 ∨ -9007199254740992 < v.half ∧ v.half < 9007199254740992)

/-- The looker behind some parts of a row. -/
def Phase (n : Nat) (xs : List JV) (w wr : World) (g : Nat) (p0 q0 : Int) (G : Prop) (j : Nat) (p1 q1 : Int) (b1 : Bool) : Prop :=
  Lk wr g p1 q1 b1 ∧ Only (· = g) w wr ∧ p0 + j ≤ p1 ∧ p1 ≤ 401 ∧ (b1 = false → p1 ≤ 400 ∧ G ∧ (∀ i x, i < j → xs[i]? = some x → Good n x) ∧ p1 = p0 + (((xs.take j).map (JV.parts n)).sum : Nat) ∧ q1 = q0 + (((xs.take j).map (JV.bytes n)).sum : Nat) ∧ q1 ≤ 2000)

/-- The looker behind some keys and their values. -/
def Rows2 (n : Nat) (v : JV) (g : Nat) (p6 q6 : Int) (b6 : Bool) (j : Nat) (p1 q1 : Int) : Prop :=
  b6 = false ∧ (p1 = p6 + (((v.vals.take j).map (JV.parts n)).sum : Nat) ∧ q1 = q6 + (((v.keys.take j).map (·.size)).sum : Nat) + (((v.vals.take j).map (JV.bytes n)).sum : Nat) ∧ q1 ≤ 2000 ∧ p6 + j ≤ p1) ∧ (∀ i x, i < j → v.vals[i]? = some x → Good n x) ∧ (∀ i k, i < j → v.keys[i]? = some k → Lib.validD k.data.toList = true) ∧
    (∀ (i : Nat) (x y : ByteArray), i + 1 < j → v.keys[i]? = some x → v.keys[i + 1]? = some y → Op.bytesLess x.toList y.toList = true)

theorem still_of_quiet {P : Program} {ops : Array Oper} {w : World} {Q : Act → Prop} : ∀ (l : List Oper) (a : Act), wpQuiet P ops (fun w' => w' = w) Q l a → wpStill P ops w Q l a
  | [], a, h => h
  | o :: rest, a, h => by
    unfold wpQuiet at h
    unfold wpStill
    split at h
    · rename_i hw
      rw [if_pos hw]
      obtain ⟨v, hv, hn⟩ := h
      have hq := hv w rfl
      unfold Oper.quietAt at hq
      unfold Oper.still
      cases hr : (execOp a.eval o).run P w with
      | ok x w' =>
        rw [hr] at hq
        cases x with
        | value u =>
          obtain ⟨rfl, rfl⟩ := hq
          exact ⟨rfl, still_of_quiet rest _ hn⟩
        | skip =>
          obtain ⟨rfl, rfl⟩ := hq
          exact ⟨rfl, still_of_quiet rest _ hn⟩
        | enter f args =>
          obtain ⟨rfl, hc⟩ := hq
          exact ⟨rfl, v, hc, still_of_quiet rest _ hn⟩
        | _ => exact hq.elim
      | _ => rw [hr] at hq; exact hq.elim
    · rename_i hw
      rw [if_neg hw]
      exact still_of_quiet rest _ h

/-- A region that draws, whose first operations only read. -/
theorem region_tail {P : Program} {id : Nat} {Q : Exit → Act → World → Prop} {a : Act} {w : World} {l : List Oper} (n : Nat) (W1 : World) (hW : W1 = w.drew) (hm : P.follows .mixedOrders = true) (hB : Region.lexTailB .any l.toArray n = true)
    (h : wpQuiet P l.toArray (fun w' => w' = W1) (fun a' => wpList P l.toArray Q (l.drop n) a' W1) (l.take n) a) : (Code.region id l.toArray true).wp P Q a w := by
  subst hW
  exact wp_region_still_tail n hm hB (still_of_quiet _ _ h)

theorem eq_of_not (a b : Int) (h : (false || !(a == b)) = false) : a = b := by simpa using h

def ValueSays (n : Nat) : Prop := ∀ (d : Int) (w : World) (B g : Nat) (p q : Int) (b : Bool) (x : Value) (v : JV), d + n = 62 → 0 ≤ d → Lk w g p q b → Tabs w B → B ≤ g → B ≤ w.heap.size → JAt w B n x v → Light n v → 0 ≤ p ∧ p ≤ 400 → 0 ≤ q →
    Calls Tryz.prog 41 #[.pointer (some ⟨g, 0, none⟩), x, .int .i64 d] w fun e w' => ∃ p' q' b', e = .returned (.tuple #[]) ∧ Lk w' g p' q' b' ∧ Only (· = g) w w' ∧ p < p' ∧ p' ≤ 401 ∧ (b' = false → b = false ∧ p' ≤ 400 ∧ Good n v ∧ p' = p + (JV.parts n v : Nat) ∧ q' = q + (JV.bytes n v : Nat) ∧ q' ≤ 2000)

set_option maxHeartbeats 2000000 in
set_option maxRecDepth 100000 in
theorem value_step (n : Nat) (ih : 1 ≤ n → ValueSays n) : ValueSays (n + 1) := by
  intro d w B g p q b x v hd hd0 h hT hB hBw hx hli hp hq0
  obtain ⟨li1, li2, li3, li4⟩ := hli
  replace li2 := hide li2
  replace li3 := hide li3
  replace li4 := hide li4
  obtain ⟨la, lc, ka, kc, va, vc, rfl, hl1, hl2, hl3, hl4, hl5, hl6, hl7, hl8, hl9, hla, hka, hva⟩ := hx
  obtain ⟨W, hW⟩ : ∃ W, W = w.alloc (.cells #[.int .i64 v.kind, .int .i64 v.half, .string v.text, .slice la v.list.length lc, .slice ka v.keys.length kc, .slice va v.vals.length vc] 26) := ⟨_, rfl⟩
  have hk : Blk W w.heap.size 26 #[.int .i64 v.kind, .int .i64 v.half, .string v.text, .slice la v.list.length lc, .slice ka v.keys.length kc, .slice va v.vals.length vc] := by rw [hW]; exact Blk.new w _ _
  have oW : Only (· = g) w W := by rw [hW]; exact (Only.refl _ w).alloc _
  have hW1 : Lk W g p q b := by rw [hW]; exact Blk.alloc h _
  have hgk : w.heap.size ≠ g := by have := Blk.lt h; omega
  replace hla := hide hla
  replace hka := hide hka
  replace hva := hide hva
  replace hT := hide hT
  replace h := hide h
  replace hk := hide hk
  replace oW := hide oW
  replace hW1 := hide hW1
  go_enter Tryz.func41, Tryz.ntmps41
  go_wp2_with fail
  rw [← hW]
  clear hW
  refine (part_any W g p q d b hW1.out hp).mono ?_
  rintro e W2 ⟨b2, rfl, h2, o2, hb2⟩
  have hk2 := hide (o2.blk hk.out (by exact hgk))
  cases b2
  · obtain ⟨hb2a, hb2b, hb2c, hb2d⟩ := hb2 rfl
    go_upto_region 2 with fail
    replace hk2 := hide hk2
    have kc0 := hk2.out.out.cell 0
    have kc1 := hk2.out.out.cell 1
    have kc2 := hk2.out.out.cell 2
    have kc3 := hk2.out.out.cell 3
    have kc4 := hk2.out.out.cell 4
    have kc5 := hk2.out.out.cell 5
    simp at kc0 kc1 kc2 kc3 kc4 kc5
    replace h2 := hide h2
    clear hb2
    go_cut [1] from 12 to 72 (fun s1 wc => ∃ b3, Lk wc g (p + 1) q b3 ∧ Only (· = g) W2 wc ∧ (b3 = false → Wish1 v))
    case first =>
      go_wp2_with (go_at_call 65; refine (want_any _ g (p + 1) q false _ h2.out).mono ?_; rintro e w' ⟨rfl, hl, ho⟩; have hl := hide hl; have ho := hide ho)
      all_goals go_meet
      all_goals
        refine ⟨_, hl.out, ho.out, fun hb => ?_⟩
        first
        | (simp at hb; done)
        | (have e := eq_of_not _ _ hb
           have hk : v.keys.length = v.vals.length := by
             first
             | omega
             | (have hk0 : v.keys.length = 0 := by rw [‹v.keys = []›]; rfl
                omega)
           exact ⟨⟨by assumption, by assumption⟩, by first | exact Or.inl (by assumption) | exact Or.inr (by assumption), by first | exact Or.inl (by assumption) | exact Or.inr (by assumption),
             by first | exact Or.inl (by assumption) | exact Or.inr (by assumption), by first | exact Or.inl (by assumption) | exact Or.inr (by assumption), hk⟩)
    case rest =>
      obtain ⟨b3, h3, o3, hw1⟩ := hcut
      have hk3 := hide (o3.blk hk2.out.out (by exact hgk))
      have hT3 := hide ((hT.out.only (oW.out.trans (o2.trans o3)) (by intro k hk; omega) hBw))
      clear kc0 kc1 kc2 kc3 kc4 kc5
      have kc1 := hk3.out.cell 1
      simp at kc1
      replace h3 := hide h3
      replace o3 := hide o3
      replace o2 := hide o2
      replace hw1 := hide hw1
      go_upto_region 3 with fail
      go_cut [] from 73 to 98 (fun wd => ∃ b4, Lk wd g (p + 1) q b4 ∧ Only (· = g) wc wd ∧ (b4 = false → b3 = false ∧ Wish2 v))
      case first =>
        go_wp2_with (go_at_call 65; refine (want_any _ g (p + 1) q b3 _ h3.out).mono ?_; rintro e w' ⟨rfl, hl, ho⟩; replace hl := hide hl; replace ho := hide ho)
        all_goals go_meet
        all_goals
          refine ⟨_, hl.out, ho.out, fun hb => ?_⟩
          first
          | (simp at hb; done)
          | (cases b3
             · first
               | exact ⟨rfl, ⟨by assumption, by assumption⟩, Or.inl (by assumption)⟩
               | (have hb' := hb
                  simp [‹¬ v.half.tmod 2 = 0›] at hb'
                  done)
               | (have hb' := hb
                  simp [‹¬ v.half.tmod 2 = 0›] at hb'
                  exact ⟨rfl, ⟨by assumption, by assumption⟩, Or.inr ⟨by assumption, hb'⟩⟩)
             · exact absurd hb (by simp))
      case rest =>
        obtain ⟨b4, h4, o4, hw2⟩ := hcut
        have hk4 := hide (o4.blk hk3.out (by exact hgk))
        have hT4 := hide (hT3.out.only o4 (by intro k hk; omega) (Nat.le_trans hBw (oW.out.trans (o2.out.trans o3.out)).size))
        have o4' := hide (o2.out.trans (o3.out.trans o4))
        replace hw2 := hide hw2
        have kc2 := hk4.out.cell 2
        simp at kc2
        clear kc1
        have hsW := Nat.le_trans hBw oW.out.size
        have hs4 := Nat.le_trans hsW o4'.out.size
        replace h4 := hide h4
        go_upto_region 5 with (go_at_call 66; refine (str_any _ B g (p + 1) q b4 _ h4.out hT4.out hB hs4 li1 ⟨hq0, hb2d⟩).mono ?_; rintro e W5 ⟨b5, rfl, h5, o5, hv5⟩; obtain ⟨q5, hq5⟩ : ∃ q5, q + (v.text.size : Int) = q5 := ⟨_, rfl⟩; rw [hq5] at h5 hv5; have hq50 : 0 ≤ q5 := (by omega); replace hq5 := hide hq5)
        have hk5 := hide (o5.blk hk4.out (by exact hgk))
        have hT5 := hide (hT4.out.only o5 (by intro k hk; omega) hs4)
        have o5' := hide (o4'.out.trans o5)
        replace hv5 := hide hv5
        have hq5b : Hid (b5 = false → q5 ≤ 2000) := hide fun e => (hv5.out e).2.2
        have hgood : Hid (b5 = false → b = false ∧ Wish1 v ∧ Wish2 v ∧ Lib.validD v.text.data.toList = true) := hide fun e => by
          obtain ⟨e4, hv, -⟩ := hv5.out e
          obtain ⟨e3, hW2⟩ := hw2.out e4
          exact ⟨hb2a, hw1.out e3, hW2, hv⟩
        clear hv5 hw1 hw2 o4 o3 o2 h4 h3 h2 hk4 hk3 hk2 hT4 hT3 kc2
        replace hgood := hide hgood
        replace h5 := hide h5
        have hn1 : 1 ≤ n := by omega
        replace ih := hide (ih hn1)
        have hdx : IntKind.i64.wrap (d + 1) = d + 1 := by rw [IntKind.wrap_i64]; omega
        go_upto_block 0 with fail
        go_cut [6] from 103 to 125 (fun s6 wc => ∃ p1 q1 b1, Phase n v.list W wc g (p + 1) q5 (b = false ∧ Wish1 v ∧ Wish2 v ∧ Lib.validD v.text.data.toList = true) (if b1 = false then v.list.length else 0) p1 q1 b1)
        case first =>
          go_wp2_with fail
          go_loopw [6] (fun s6 wr => ∃ (j : Nat) (p1 q1 : Int) (b1 : Bool), s6 = .int .i64 j ∧ j ≤ v.list.length ∧ Phase n v.list W wr g (p + 1) q5 (b = false ∧ Wish1 v ∧ Wish2 v ∧ Lib.validD v.text.data.toList = true) j p1 q1 b1) (fun i _ => v.list.length - (intOf i).toNat)
          case atStart => exact ⟨0, p + 1, q5, b5, rfl, Nat.zero_le _, h5.out, o5'.out, by omega, by omega, fun e => ⟨by omega, hgood.out.out e, fun i x hi => absurd hi (by omega), by simp, by simp, hq5b.out e⟩⟩
          case round =>
            obtain ⟨j, p1, q1, b1, rfl, hj, hP⟩ := hrel
            obtain ⟨hr1, hr2, hr3, hr4, hr5⟩ := hP
            have hkr := hide (hr2.blk hk.out (by exact hgk))
            have hTr := hide ((hT.out.only oW.out (by intro k hk; omega) hBw).only hr2 (by intro k hk; omega) hsW)
            have hsr := Nat.le_trans hsW hr2.size
            have kc3 := hkr.out.cell 3
            have lc2 := hr1.cell 2
            simp at kc3 lc2
            replace hr1 := hide hr1
            replace hr2 := hide hr2
            replace hr5 := hide hr5
            by_cases hjl : j < v.list.length
            · obtain ⟨bk, ofs, rfl, hbk, hcs⟩ := hla.out (by omega)
              obtain ⟨x, hxj⟩ : ∃ x, v.list[j]? = some x := ⟨_, List.getElem?_eq_getElem hjl⟩
              obtain ⟨c0, c1, c2, c3, c4, c5, e0, e1, e2, e3, e4, e5, hxx⟩ := hcs j x hxj
              have hfr : ∀ p : Addr, p.block < B → wr.cell? p = w.cell? p := fun p hp => (hr2.out.cells (by intro k hk; omega) hsW p hp).trans (oW.out.cells (by intro k hk; omega) hBw p hp)
              have e0 := (hfr _ hbk).trans e0
              have e1 := (hfr _ hbk).trans e1
              have e2 := (hfr _ hbk).trans e2
              have e3 := (hfr _ hbk).trans e3
              have e4 := (hfr _ hbk).trans e4
              have e5 := (hfr _ hbk).trans e5
              have hxx := hide (JAt.keep hfr (Nat.le_refl _) n _ _ hxx)
              replace hfr := hide hfr
              replace hcs := hide hcs
              cases b1
              · obtain ⟨h400, k3, k4, k5, k6, k7⟩ := hr5.out rfl
                have hq1 : 0 ≤ q1 := by omega
                have s1 := sum_take (JV.parts n) v.list j x hxj
                have s2 := sum_take (JV.bytes n) v.list j x hxj
                have lix := hide (li2.out x (List.mem_of_getElem? hxj))
                replace s1 := hide s1
                replace s2 := hide s2
                replace k5 := hide k5
                replace k6 := hide k6
                replace k3 := hide k3
                replace k4 := hide k4
                clear hr5
                go_wp2_with (go_at_call 41; refine (ih.out (d + 1) wr B g p1 q1 false _ x (by omega) (by omega) hr1.out hTr.out hB hsr hxx.out lix.out ⟨by omega, h400⟩ hq1).mono ?_; rintro e W' ⟨p', q', b', rfl, hL', ho', hp1, hp2, hb'⟩; have hL' := hide hL'; have ho' := hide ho'; have hb' := hide hb')
                go_roundw
                case rel =>
                  refine ⟨j + 1, p', q', b', by go_num, by omega, hL'.out, hr2.out.trans ho'.out, by omega, by omega, fun e => ?_⟩
                  obtain ⟨-, k1, k2, k8, k9, k10⟩ := hb'.out e
                  have z1 := s1.out
                  have z2 := s2.out
                  have z3 := k5.out
                  have z4 := k6.out
                  refine ⟨k1, k3.out, fun i y hi hy => ?_, by rw [z1]; omega, by rw [z2]; omega, k10⟩
                  rcases Nat.lt_or_ge i j with hlt | hge
                  · exact k4.out i y hlt hy
                  · obtain rfl : i = j := by omega
                    rw [hxj] at hy
                    cases hy
                    exact k2
                case measure => simp [intOf]; omega
              · go_wp2_with fail
                go_meet
                exact ⟨p1, q1, true, hr1.out, hr2.out, by simp; omega, hr4, by simp⟩
            · go_wp2_with fail
              go_meet
              exact ⟨p1, q1, b1, hr1.out, hr2.out, by cases b1 <;> simp <;> omega, hr4, fun e => by subst e; obtain ⟨k1, k3, k4, k5, k6, k7⟩ := hr5.out rfl; obtain rfl : j = v.list.length := (by omega); simp only [if_true]; exact ⟨k1, k3, k4, k5, k6, k7⟩⟩
        case rest =>
          obtain ⟨p6, q6, b6, h6, o6, hp6, hp6', hg6⟩ := hcut
          replace hg6 : Hid (b6 = false → p6 ≤ 400 ∧ v.list.length ≤ 400 ∧ (b = false ∧ Wish1 v ∧ Wish2 v ∧ Lib.validD v.text.data.toList = true) ∧ (∀ x ∈ v.list, Good n x) ∧ p6 = p + 1 + ((v.list.map (JV.parts n)).sum : Nat) ∧ q6 = q5 + ((v.list.map (JV.bytes n)).sum : Nat) ∧ q6 ≤ 2000) := hide fun e => by
            subst e
            obtain ⟨k1, k2, k3, k4, k5, k6⟩ := hg6 rfl
            simp at hp6 k3
            simp only [if_true, List.take_length] at k4 k5
            refine ⟨k1, by omega, k2, fun x hx => ?_, k4, k5, k6⟩
            obtain ⟨i, hi, rfl⟩ := List.getElem_of_mem hx
            exact k3 i _ hi (List.getElem?_eq_getElem hi)
          replace hp6 : p + 1 ≤ p6 := by split at hp6 <;> omega
          replace h6 := hide h6
          replace o6 := hide o6
          have fin : ∀ X p1 q1 b1, Lk X g p1 q1 b1 → Only (· = g) W X → p6 ≤ p1 → p1 ≤ 401 → (b1 = false → p1 ≤ 400 ∧ Rows2 n v g p6 q6 b6 v.keys.length p1 q1) →
              (∃ p' q' b', Lk X g p' q' b' ∧ Only (· = g) w X ∧ p < p' ∧ p' ≤ 401 ∧ (b' = false → b = false ∧ p' ≤ 400 ∧ Good (n + 1) v ∧ p' = p + (JV.parts (n + 1) v : Nat) ∧ q' = q + (JV.bytes (n + 1) v : Nat) ∧ q' ≤ 2000)) := by
            intro X p1 q1 b1 k1 k2 k3 k4 k5
            refine ⟨p1, q1, b1, k1, oW.out.trans k2, by omega, k4, fun e => ?_⟩
            obtain ⟨a1, a2, ⟨a31, a32, a33, a34⟩, a4, a5, a6⟩ := k5 e
            obtain ⟨c1, c2, ⟨c3, ⟨d1, d2, d3, d4, d5, d6⟩, ⟨d7, d8⟩, d9⟩, c4, c5, c6, c7⟩ := hg6.out a2
            rw [d6, List.take_length] at a31
            rw [List.take_length, d6, List.take_length] at a32
            have hq5' := hq5.out
            refine ⟨c3, a1, ⟨d1, d2, d3, d4, d5, d6, d7, d8, d9, c2, by omega, c4, fun k hk => ?_, fun i x y hx hy => ?_, fun x hx => ?_⟩, by rw [JV.parts]; omega, by rw [JV.bytes]; omega, a33⟩
            · obtain ⟨i, hi, rfl⟩ := List.getElem_of_mem hk
              exact a5 i _ hi (List.getElem?_eq_getElem hi)
            · have hi := (List.getElem?_eq_some_iff.1 hy).1
              exact a6 i x y hi hx hy
            · obtain ⟨i, hi, rfl⟩ := List.getElem_of_mem hx
              exact a4 i _ (by omega) (List.getElem?_eq_getElem hi)
          replace fin := hide fin
          go_wp2_with fail
          go_loopw [7] (fun s7 wr => ∃ (j : Nat) (p1 q1 : Int) (b1 : Bool), s7 = .int .i64 j ∧ j ≤ v.keys.length ∧ Lk wr g p1 q1 b1 ∧ Only (· = g) W wr ∧ p6 + j ≤ p1 ∧ p1 ≤ 401 ∧ (b1 = false → p1 ≤ 400 ∧ Rows2 n v g p6 q6 b6 j p1 q1)) (fun i _ => v.keys.length - (intOf i).toNat)
          case atStart => exact ⟨0, p6, q6, b6, rfl, Nat.zero_le _, h6.out, o6.out, by omega, by omega, fun e => ⟨(hg6.out e).1, e, ⟨by simp, by simp, (hg6.out e).2.2.2.2.2.2, by omega⟩, fun i x hi => absurd hi (by omega), fun i x hi => absurd hi (by omega), fun i x y hi => absurd hi (by omega)⟩⟩
          case round =>
            obtain ⟨j, p1, q1, b1, rfl, hj, hr1, hr2, hr3, hr4, hr5⟩ := hrel
            have hkr := hide (hr2.blk hk.out (by exact hgk))
            have hTr := hide ((hT.out.only oW.out (by intro k hk; omega) hBw).only hr2 (by intro k hk; omega) hsW)
            have hsr := Nat.le_trans hsW hr2.size
            have kc4 := hkr.out.cell 4
            have lc2 := hr1.cell 2
            simp at kc4 lc2
            replace hr1 := hide hr1
            replace hr2 := hide hr2
            replace hr5 := hide hr5
            by_cases hjl : j < v.keys.length
            · have hfr : ∀ X, Only (· = g) W X → ∀ p : Addr, p.block < B → X.cell? p = w.cell? p := fun X hX p hp => (hX.cells (by intro k hk; omega) hsW p hp).trans (oW.out.cells (by intro k hk; omega) hBw p hp)
              obtain ⟨bs, os, rfl, hbs, hsc⟩ := hka.out.2 (by omega)
              obtain ⟨sj, hsj⟩ : ∃ s, v.keys[j]? = some s := ⟨_, List.getElem?_eq_getElem hjl⟩
              have hsjs : sj.size ≤ 140737488351232 := li3.out _ (List.mem_of_getElem? hsj)
              have es := (hfr wr hr2.out _ hbs).trans (hsc j sj hsj)
              replace hsc := hide hsc
              replace hfr := hide hfr
              cases b1
              · obtain ⟨h400, k3⟩ := hr5.out rfl
                have hq1 : 0 ≤ q1 ∧ q1 ≤ 2000 := by
                  obtain ⟨z1, ⟨z2, z3, z4, z5⟩, -⟩ := k3
                  obtain ⟨-, -, -, -, -, z6, -⟩ := hg6.out z1
                  omega
                replace k3 := hide k3
                clear hr5
                go_upto_region 13 with (go_at_call 66; refine (str_any wr B g p1 q1 false sj hr1.out hTr.out hB hsr hsjs hq1).mono ?_; rintro e W7 ⟨b7, rfl, h7, o7, hv7⟩; obtain ⟨q7, hq7⟩ : ∃ q7, q1 + (sj.size : Int) = q7 := ⟨_, rfl⟩; rw [hq7] at h7 hv7; have hq70 : 0 ≤ q7 := (by omega); replace hq7 := hide hq7; have o7' := hide (hr2.out.trans o7); replace h7 := hide h7; replace hv7 := hide hv7; clear o7)
                obtain ⟨W1, hW1⟩ : ∃ W1, W1 = W7.drew := ⟨_, rfl⟩
                replace o7' : Hid (Only (· = g) W W1) := hide (by rw [hW1]; exact o7'.out.drew)
                have h7d : Lk W1 g p1 q7 b7 := by rw [hW1]; exact Blk.drew h7.out
                clear h7
                have hk7 := hide (o7'.out.blk hk.out (by exact hgk))
                have kc47 := hk7.out.cell 4
                simp at kc47
                have es7 := (hfr.out W1 o7'.out _ hbs).trans (hsc.out j sj hsj)
                have hT7 := hide ((hT.out.only oW.out (by intro k hk; omega) hBw).only o7'.out (by intro k hk; omega) hsW)
                have hs7 := Nat.le_trans hsW o7'.out.size
                replace h7d := hide h7d
                clear hkr hTr hr1 es kc4 lc2
                obtain ⟨k30, ⟨k35, k36, k37, k31⟩, k32, k33, k34⟩ := k3.out
                replace k35 := hide k35
                replace k36 := hide k36
                have hlen : v.keys.length = v.vals.length := by
                  obtain ⟨c1, c2, ⟨c3, ⟨d1, d2, d3, d4, d5, d6⟩, -⟩, c4⟩ := hg6.out k30
                  exact d6
                replace k32 := hide k32
                replace k33 := hide k33
                replace k34 := hide k34
                clear k3
                obtain ⟨bv, ov, rfl, hbv, hvc⟩ := hva.out (by omega)
                obtain ⟨x, hxj⟩ : ∃ x, v.vals[j]? = some x := ⟨_, List.getElem?_eq_getElem (by omega)⟩
                have s1 := hide (sum_take (JV.parts n) v.vals j x hxj)
                have s2 := hide (sum_take (JV.bytes n) v.vals j x hxj)
                have s3 := hide (sum_take (fun k : ByteArray => k.size) v.keys j sj hsj)
                have lix := hide (li4.out x (List.mem_of_getElem? hxj))
                replace hvc := hide hvc
                have hjv : j < v.vals.length := by omega
                by_cases hj0 : j = 0
                · have hjb : ((j : Int) == 0) = true := by simp [hj0]
                  replace hj0 := hide hj0
                  refine region_tail 17 W1 hW1 (by kernel_rfl) (by kernel_rfl) ?_
                  clear hW1
                  simp only [List.take_succ_cons, List.take_zero, List.drop_succ_cons, List.drop_zero]
                  repeat (go_big_quiet_step (fail))
                  refine wpQuiet_nil ?_
                  go_upto_region 14 with (go_at_call 65; refine (want_any _ g p1 q7 b7 _ h7d.out).mono ?_; rintro e W8 ⟨rfl, h8, o8⟩; have o8' := hide (o7'.out.trans o8); replace h8 := hide h8; clear o8)
                  have hk8 := hide (o8'.out.blk hk.out (by exact hgk))
                  have kc58 := hk8.out.cell 5
                  simp at kc58
                  have hT8 := hide ((hT.out.only oW.out (by intro k hk; omega) hBw).only o8'.out (by intro k hk; omega) hsW)
                  have hs8 := Nat.le_trans hsW o8'.out.size
                  obtain ⟨c0, c1, c2, c3, c4, c5, e0, e1, e2, e3, e4, e5, hxx⟩ := hvc.out j x hxj
                  replace e0 := (hfr.out W8 o8'.out _ hbv).trans e0
                  replace e1 := (hfr.out W8 o8'.out _ hbv).trans e1
                  replace e2 := (hfr.out W8 o8'.out _ hbv).trans e2
                  replace e3 := (hfr.out W8 o8'.out _ hbv).trans e3
                  replace e4 := (hfr.out W8 o8'.out _ hbv).trans e4
                  replace e5 := (hfr.out W8 o8'.out _ hbv).trans e5
                  replace hxx := hide (JAt.keep (hfr.out W8 o8'.out) (Nat.le_refl _) n _ _ hxx)
                  go_wp2_with (go_at_call 41; refine (ih.out (d + 1) W8 B g p1 q7 _ _ x (by omega) (by omega) h8.out hT8.out hB hs8 hxx.out lix.out ⟨by omega, h400⟩ hq70).mono ?_; rintro e W' ⟨p', q', b', rfl, hL', ho', hp1, hp2, hb'⟩; replace hL' := hide hL'; replace ho' := hide ho'; replace hb' := hide hb')
                  go_roundw
                  case rel =>
                    refine ⟨j + 1, p', q', b', by go_num, by omega, hL'.out, o8'.out.trans ho'.out, by omega, by omega, fun e => ?_⟩
                    obtain ⟨k1, k2, k3, k8, k9, k10⟩ := hb'.out e
                    have k7 : b7 = false := by cases b7 <;> simp at k1 ⊢
                    obtain ⟨-, kv, -⟩ := hv7.out k7
                    have z1 := s1.out
                    have z2 := s2.out
                    have z3 := s3.out
                    have z5 := k35.out
                    have z6 := k36.out
                    have z7 := hq7.out
                    refine ⟨k2, k30, ⟨by rw [z1]; omega, by rw [z2, z3]; omega, k10, by omega⟩, fun i y hi hy => ?_, fun i y hi hy => ?_, fun i y z hi hy hz => ?_⟩
                    · rcases Nat.lt_or_ge i j with hlt | hge
                      · exact k32.out i y hlt hy
                      · obtain rfl : i = j := by omega
                        rw [hxj] at hy
                        cases hy
                        exact k3
                    · rcases Nat.lt_or_ge i j with hlt | hge
                      · exact k33.out i y hlt hy
                      · obtain rfl : i = j := by omega
                        rw [hsj] at hy
                        cases hy
                        exact kv
                    · rcases Nat.lt_or_ge (i + 1) j with hlt | hge
                      · exact k34.out i y z hlt hy hz
                      · exact absurd hj0.out (by omega)
                  case measure => simp [intOf]; omega
                · have hjb : ((j : Int) == 0) = false := by simp [hj0]
                  have hj1 : IntKind.i64.wrap ((j : Int) - 1) = ((j - 1 : Nat) : Int) := by rw [IntKind.wrap_i64]; omega
                  have hjm : j - 1 < v.keys.length := by omega
                  obtain ⟨sp, hsp⟩ : ∃ s, v.keys[j - 1]? = some s := ⟨_, List.getElem?_eq_getElem hjm⟩
                  have ep7 := (hfr.out W1 o7'.out _ hbs).trans (hsc.out (j - 1) sp hsp)
                  replace hj0 := hide hj0
                  refine region_tail 17 W1 hW1 (by kernel_rfl) (by kernel_rfl) ?_
                  clear hW1
                  simp only [List.take_succ_cons, List.take_zero, List.drop_succ_cons, List.drop_zero]
                  repeat (go_big_quiet_step (fail))
                  refine wpQuiet_nil ?_
                  go_upto_region 14 with (go_at_call 65; refine (want_any _ g p1 q7 b7 _ h7d.out).mono ?_; rintro e W8 ⟨rfl, h8, o8⟩; have o8' := hide (o7'.out.trans o8); replace h8 := hide h8; clear o8)
                  have hk8 := hide (o8'.out.blk hk.out (by exact hgk))
                  have kc58 := hk8.out.cell 5
                  simp at kc58
                  have hT8 := hide ((hT.out.only oW.out (by intro k hk; omega) hBw).only o8'.out (by intro k hk; omega) hsW)
                  have hs8 := Nat.le_trans hsW o8'.out.size
                  obtain ⟨c0, c1, c2, c3, c4, c5, e0, e1, e2, e3, e4, e5, hxx⟩ := hvc.out j x hxj
                  replace e0 := (hfr.out W8 o8'.out _ hbv).trans e0
                  replace e1 := (hfr.out W8 o8'.out _ hbv).trans e1
                  replace e2 := (hfr.out W8 o8'.out _ hbv).trans e2
                  replace e3 := (hfr.out W8 o8'.out _ hbv).trans e3
                  replace e4 := (hfr.out W8 o8'.out _ hbv).trans e4
                  replace e5 := (hfr.out W8 o8'.out _ hbv).trans e5
                  replace hxx := hide (JAt.keep (hfr.out W8 o8'.out) (Nat.le_refl _) n _ _ hxx)
                  go_wp2_with (go_at_call 41; refine (ih.out (d + 1) W8 B g p1 q7 _ _ x (by omega) (by omega) h8.out hT8.out hB hs8 hxx.out lix.out ⟨by omega, h400⟩ hq70).mono ?_; rintro e W' ⟨p', q', b', rfl, hL', ho', hp1, hp2, hb'⟩; replace hL' := hide hL'; replace ho' := hide ho'; replace hb' := hide hb')
                  go_roundw
                  case rel =>
                    refine ⟨j + 1, p', q', b', by go_num, by omega, hL'.out, o8'.out.trans ho'.out, by omega, by omega, fun e => ?_⟩
                    obtain ⟨k1, k2, k3, k8, k9, k10⟩ := hb'.out e
                    have k7 : b7 = false := by cases b7 <;> simp at k1 ⊢
                    obtain ⟨-, kv, -⟩ := hv7.out k7
                    have z1 := s1.out
                    have z2 := s2.out
                    have z3 := s3.out
                    have z5 := k35.out
                    have z6 := k36.out
                    have z7 := hq7.out
                    refine ⟨k2, k30, ⟨by rw [z1]; omega, by rw [z2, z3]; omega, k10, by omega⟩, fun i y hi hy => ?_, fun i y hi hy => ?_, fun i y z hi hy hz => ?_⟩
                    · rcases Nat.lt_or_ge i j with hlt | hge
                      · exact k32.out i y hlt hy
                      · obtain rfl : i = j := by omega
                        rw [hxj] at hy
                        cases hy
                        exact k3
                    · rcases Nat.lt_or_ge i j with hlt | hge
                      · exact k33.out i y hlt hy
                      · obtain rfl : i = j := by omega
                        rw [hsj] at hy
                        cases hy
                        exact kv
                    · rcases Nat.lt_or_ge (i + 1) j with hlt | hge
                      · exact k34.out i y z hlt hy hz
                      · have hij : j - 1 = i := by omega
                        rw [hij, hy] at hsp
                        cases hsp
                        have hij' : i + 1 = j := by omega
                        rw [hij', hsj] at hz
                        cases hz
                        rw [k7] at k1
                        simpa using k1
                  case measure => simp [intOf]; omega
              · go_wp2_with fail
                go_end0
                obtain ⟨x1, x2, x3, x4⟩ := fin.out _ p1 q1 true hr1.out hr2.out (by omega) hr4 (by simp)
                exact ⟨x1, x2, x3, rfl, x4⟩
            · go_wp2_with fail
              go_end0
              obtain rfl : j = v.keys.length := by omega
              obtain ⟨x1, x2, x3, x4⟩ := fin.out _ p1 q1 b1 hr1.out hr2.out (by omega) hr4 (fun e => hr5.out (by first | exact e | (subst e; trivial)))
              exact ⟨x1, x2, x3, rfl, x4⟩
  · replace h2 := hide h2
    clear hb2
    go_wp2_with fail
    refine bodyPost_ret (results_none rfl _ _ _) rfl ?_
    exact ⟨p + 1, q, true, rfl, h2.out, oW.out.trans o2, by omega, by omega, by simp⟩

theorem value_any : ∀ n : Nat, 1 ≤ n → ValueSays n
  | 0, h => absurd h (by omega)
  | n + 1, _ => value_step n (value_any n)
end Go.Proofs.YtbnbemacljjimaaGreatDoor

namespace Go.Proofs.YtbnbemacljjimaaGreatDoor
open Go.RowKit
set_option linter.unusedVariables false

set_option maxHeartbeats 1000000 in
set_option maxRecDepth 100000 in
theorem fit_any (w : World) (B : Nat) (x : Value) (v : JV) (hT : Tabs w B) (hB : B ≤ w.heap.size) (hx : JAt w B 62 x v) (hli : Light 62 v) :
    Calls Tryz.prog 19 #[x] w fun e w' => ∃ b, e = .returned (.bool b) ∧ Below w.heap.size w w' ∧ (b = true → Good 62 v ∧ JV.parts 62 v ≤ 400 ∧ JV.bytes 62 v ≤ 2000) := by
  have hx' := hide hx
  obtain ⟨la, lc, ka, kc, va, vc, rfl, -⟩ := hx
  obtain ⟨W, hW⟩ : ∃ W, W = (w.alloc (.cells #[.int .i64 v.kind, .int .i64 v.half, .string v.text, .slice la v.list.length lc, .slice ka v.keys.length kc, .slice va v.vals.length vc] 26)).alloc (.cells #[.int .i64 0, .int .i64 0, .bool false] 79) := ⟨_, rfl⟩
  have hl : Lk W (w.heap.size + 1) 0 0 false := by
    rw [hW]
    have h2 := Blk.new (w.alloc (.cells #[.int .i64 v.kind, .int .i64 v.half, .string v.text, .slice la v.list.length lc, .slice ka v.keys.length kc, .slice va v.vals.length vc] 26)) 79 #[.int .i64 0, .int .i64 0, .bool false]
    have hsz : (w.alloc (.cells #[.int .i64 v.kind, .int .i64 v.half, .string v.text, .slice la v.list.length lc, .slice ka v.keys.length kc, .slice va v.vals.length vc] 26)).heap.size = w.heap.size + 1 := by simp
    rw [hsz] at h2
    exact h2
  have oW : Only (· = w.heap.size + 1) w W := by rw [hW]; exact ((Only.refl _ w).alloc _).alloc _
  have hTW : Tabs W B := hT.only oW (by intro k hk; omega) hB
  have hxW : JAt W B 62 _ v := hx'.out.only oW (by intro k hk; omega) hB
  have hsW := Nat.le_trans hB oW.size
  replace hl := hide hl
  replace oW := hide oW
  replace hTW := hide hTW
  replace hxW := hide hxW
  clear hT
  go_enter Tryz.func19, Tryz.ntmps19
  go_wp2_with fail
  rw [← hW]
  clear hW
  refine (value_any 62 (by omega) 0 W B (w.heap.size + 1) 0 0 false _ v (by omega) (by omega) hl.out hTW.out (by omega) hsW hxW.out hli (by omega) (by omega)).mono ?_
  rintro e W' ⟨p', q', b', rfl, hL', ho', hp1, hp2, hb'⟩
  have c2 := hL'.cell 2
  simp at c2
  replace hL' := hide hL'
  replace ho' := hide ho'
  replace hb' := hide hb'
  go_wp2
  go_ret
  refine ⟨!b', by simp, ((oW.out.trans ho'.out).below (by intro k hk; omega) (by omega)), fun e => by
    obtain ⟨-, y1, y2, y3, y4, y5⟩ := hb'.out (by cases b' <;> simp at e ⊢)
    exact ⟨y2, by omega, by omega⟩⟩

set_option maxHeartbeats 1000000 in
set_option maxRecDepth 100000 in
theorem fine_any (w : World) (B : Nat) (A : Option Addr) (c : Nat) (xs : List JV) (hT : Tabs w B) (hB : B ≤ w.heap.size) (hc : xs.length ≤ c) (hm : c ≤ 9223372036854775807) (hx : VecAt (JAt w B 62) w B A xs) (hli : ∀ x ∈ xs, Light 62 x) :
    Calls Tryz.prog 7 #[.slice A xs.length c] w fun e w' => ∃ b, e = .returned (.bool b) ∧ Below w.heap.size w w' ∧ (b = true → ∀ x ∈ xs, (Good 62 x ∧ JV.parts 62 x ≤ 400 ∧ JV.bytes 62 x ≤ 2000) ∧ x.text.size ≤ 4096) := by
  replace hT := hide hT
  replace hx := hide hx
  replace hli := hide hli
  go_enter Tryz.func7, Tryz.ntmps7
  go_wp2
  go_loopw [3] (fun i wr => ∃ j : Nat, i = .int .i64 j ∧ j ≤ xs.length ∧ Below w.heap.size w wr ∧ ∀ i x, i < j → xs[i]? = some x → (Good 62 x ∧ JV.parts 62 x ≤ 400 ∧ JV.bytes 62 x ≤ 2000) ∧ x.text.size ≤ 4096) (fun i _ => xs.length - (intOf i).toNat)
  case atStart => exact ⟨0, rfl, Nat.zero_le _, Below.refl _ _, fun i x hi => absurd hi (by omega)⟩
  case round =>
    obtain ⟨j, rfl, hj, hbw, hg⟩ := hrel
    replace hg := hide hg
    by_cases hjl : j < xs.length
    · obtain ⟨bk, ofs, rfl, hbk, hcs⟩ := hx.out (by omega)
      obtain ⟨x, hxj⟩ : ∃ x, xs[j]? = some x := ⟨_, List.getElem?_eq_getElem hjl⟩
      obtain ⟨c0, c1, c2, c3, c4, c5, e0, e1, e2, e3, e4, e5, hxx⟩ := hcs j x hxj
      have hfr : ∀ p : Addr, p.block < B → wr.cell? p = w.cell? p := fun p hp => hbw.cell (by omega)
      replace e0 := (hfr _ hbk).trans e0
      replace e1 := (hfr _ hbk).trans e1
      replace e2 := (hfr _ hbk).trans e2
      replace e3 := (hfr _ hbk).trans e3
      replace e4 := (hfr _ hbk).trans e4
      replace e5 := (hfr _ hbk).trans e5
      replace hxx := JAt.keep hfr (Nat.le_refl _) 62 _ _ hxx
      have hTr := hide (hT.out.keep hfr)
      have hsr := Nat.le_trans hB hbw.size
      have hxx' := hide hxx
      obtain ⟨la, lc, ka, kc, va, vc, hagg, -, -, -, -, -, -, h7, -⟩ := hxx
      have hagg' := hide hagg
      have e2' : c2 = .string x.text := by injection hagg with hagg; injection hagg with hagg; simp at hagg; exact hagg.2.2.1
      subst e2'
      clear hagg hcs hfr
      replace hbw := hide hbw
      have hlx := hide (hli.out x (List.mem_of_getElem? hxj))
      by_cases h4 : x.text.size ≤ 4096
      · have h4i : ¬ ((4096 : Int) < (x.text.size : Int)) := by omega
        go_wp2_with (go_at_call 19; refine (fit_any wr B _ x hTr.out hsr hxx'.out hlx.out).mono ?_; rintro e W' ⟨b', rfl, hb1, hb2⟩; replace hb1 := hide hb1; replace hb2 := hide hb2)
        · go_ret
          exact ⟨false, rfl, hbw.out.trans (hb1.out.mono hbw.out.size), by simp⟩
        · have hb' : b' = true := by cases b' <;> simp_all
          go_roundw
          case rel =>
            refine ⟨j + 1, by go_num, by omega, hbw.out.trans (hb1.out.mono hbw.out.size), fun i y hi hy => ?_⟩
            rcases Nat.lt_or_ge i j with hlt | hge
            · exact hg.out i y hlt hy
            · obtain rfl : i = j := by omega
              rw [hxj] at hy
              cases hy
              exact ⟨hb2.out hb', h4⟩
          case measure => simp [intOf]; omega
      · have h4i : ((4096 : Int) < (x.text.size : Int)) := by omega
        go_wp2_with fail
        go_ret
        exact ⟨false, rfl, hbw.out, by simp⟩
    · go_wp2
      go_ret
      exact ⟨true, rfl, hbw, fun _ x hx => by
        obtain ⟨i, hi, rfl⟩ := List.getElem_of_mem hx
        exact hg.out i _ (by omega) (List.getElem?_eq_getElem hi)⟩

theorem bytes_any (w : World) (B : Nat) (A : Option Addr) (c : Nat) (xs : List ByteArray) (hB : B ≤ w.heap.size) (hc : xs.length ≤ c) (hm : c ≤ 9223372036854775807) (hx : StrsAt w B A xs) :
    Calls Tryz.prog 18 #[.slice A xs.length c] w fun e w' => ∃ b, e = .returned (.bool b) ∧ Below w.heap.size w w' := by
  replace hx := hide hx
  by_cases hbig : (2147483647 : Int) < (xs.length : Int)
  · go_enter Tryz.func18, Tryz.ntmps18
    go_wp2
    go_ret
    exact ⟨false, rfl, Below.refl _ _⟩
  go_enter Tryz.func18, Tryz.ntmps18
  go_wp2
  go_loopw [4, 10] (fun s4 i wr => ∃ j : Nat, i = .int .i64 j ∧ j ≤ xs.length ∧ Below w.heap.size w wr) (fun _ i _ => xs.length - (intOf i).toNat)
  case atStart => exact ⟨0, rfl, Nat.zero_le _, Below.refl _ _⟩
  case round =>
    obtain ⟨j, rfl, hj, hbw⟩ := hrel
    by_cases hjl : j < xs.length
    · obtain ⟨hsz, hx2⟩ := hx.out
      obtain ⟨bk, ofs, rfl, hbk, hcs⟩ := hx2 (by omega)
      obtain ⟨s, hsj⟩ : ∃ x, xs[j]? = some x := ⟨_, List.getElem?_eq_getElem hjl⟩
      have e0 := (hbw.cell (by show bk < _; omega)).trans (hcs j s hsj)
      clear hcs hx2 hsz
      replace hbw := hide hbw
      by_cases hb : (2147483647 : Int) < (s.size : Int)
      · go_wp2
        go_ret
        exact ⟨false, rfl, hbw.out⟩
      · go_wp2
        go_roundw
        case rel => exact ⟨j + 1, by go_num, by omega, hbw.out⟩
        case measure => simp [intOf]; omega
    · go_wp2
      go_ret
      exact ⟨true, rfl, hbw⟩

set_option maxHeartbeats 1000000 in
set_option maxRecDepth 100000 in
theorem zzfits_any (w : World) (B n : Nat) (x : Value) (v : JV) (hB : B ≤ w.heap.size) (hx : JAt w B (n + 1) x v) :
    Calls Tryz.prog 6 #[x] w fun e w' => ∃ b, e = .returned (.bool b) ∧ Below w.heap.size w w' := by
  obtain ⟨la, lc, ka, kc, va, vc, rfl, hl1, hl2, hl3, hl4, hl5, hl6, hl7, hl8, hl9, hla, hka, hva⟩ := hx
  obtain ⟨W, hW⟩ : ∃ W, W = w.alloc (.cells #[.int .i64 v.kind, .int .i64 v.half, .string v.text, .slice la v.list.length lc, .slice ka v.keys.length kc, .slice va v.vals.length vc] 26) := ⟨_, rfl⟩
  have bW : Below w.heap.size w W := by rw [hW]; exact Below.alloc (Below.refl _ _) (Nat.le_refl _) _
  have hk : Blk W w.heap.size 26 #[.int .i64 v.kind, .int .i64 v.half, .string v.text, .slice la v.list.length lc, .slice ka v.keys.length kc, .slice va v.vals.length vc] := by rw [hW]; exact Blk.new w _ _
  have hkW : StrsAt W B ka v.keys := hka.keep (fun p hp => bW.cell (by omega)) (Nat.le_refl _)
  have hsW := Nat.le_trans hB bW.size
  have hlt := hk.lt
  replace hkW := hide hkW
  replace bW := hide bW
  replace hk := hide hk
  clear hla hka hva
  go_enter Tryz.func6, Tryz.ntmps6
  go_wp2_with (go_at_call 18; rw [← hW]; clear hW; refine (bytes_any W B ka kc v.keys hsW hl2 hl5 hkW.out).mono ?_; rintro e W' ⟨b', rfl, hb1⟩; have hk' := hk.out.below hb1 hlt; have kc5 := hk'.cell 5; simp at kc5; replace hk' := hide hk'; replace hb1 := hide (bW.out.trans (hb1.mono bW.out.size)))
  all_goals go_ret
  all_goals first
  | exact ⟨_, rfl, hb1.out⟩
  | (subst hW; exact ⟨_, rfl, bW.out⟩)
end Go.Proofs.YtbnbemacljjimaaGreatDoor

namespace Go.Proofs.YtbnbemacljjimaaGreatDoor
open Ieee

theorem read_small (s : Bool) (r : Nat) (hr : r ≤ double.infRung) : ∀ neg fr, double.read (double.word s r) ≠ .nan neg fr := by
  intro neg fr
  have hi : double.infRung = 9218868437227405312 := by decide
  have hw : double.signWeight = 9223372036854775808 := by decide
  have hb : double.binade = 4503599627370496 := by decide
  have h1 : double.word s r % double.signWeight = r := by
    unfold Format.word
    split <;> rw [hw] <;> omega
  unfold Format.read
  simp only [h1]
  split
  · simp
  · split
    · simp
    · split
      · simp
      · omega

theorem read_nearest (s : Bool) (m : Nat) (p : Int) : ∀ neg fr, double.read (double.nearest s m p) ≠ .nan neg fr := by
  unfold Format.nearest
  split
  · exact read_small s 0 (Nat.zero_le _)
  · exact read_small s _ (Nat.min_le_right _ _)

theorem two_read : double.read 4611686018427387904 = .number false 4503599627370496 (-51) := by decide

theorem half_bits (h : Int) : ∃ r, floatBits .quo .f64 (floatOfInt .f64 h) 4611686018427387904 = some r := by
  show ∃ r, double.div (double.nearest (h < 0) h.natAbs 0) 4611686018427387904 = some r
  unfold Format.div
  rw [two_read]
  have hn := read_nearest (h < 0) h.natAbs 0
  cases hd : double.read (double.nearest (h < 0) h.natAbs 0) with
  | number s m e => simp [Datum.quotient]
  | infinity s => simp [Datum.quotient]
  | nan s f => exact absurd hd (hn s f)

/-- A half as a float's bits. -/
def halfBits (h : Int) : Nat := (floatBits .quo .f64 (floatOfInt .f64 h) 4611686018427387904).getD 0
theorem half_eq (h : Int) : floatBits .quo .f64 (floatOfInt .f64 h) 4611686018427387904 = some (halfBits h) := by
  obtain ⟨r, hr⟩ := half_bits h
  unfold halfBits
  rw [hr]
  rfl
end Go.Proofs.YtbnbemacljjimaaGreatDoor
