/- Fit, fine and the bounds of the statements' arguments. -/
import Derived.Test.YtbnbemacljjimaaGreatDoorLookC
namespace Go.Proofs.YtbnbemacljjimaaGreatDoor
open Go.RowKit
set_option linter.unusedVariables false

set_option maxHeartbeats 1000000 in
set_option maxRecDepth 100000 in
theorem fit_any (w : World) (B : Nat) (x : Value) (v : JV) (hT : Tabs w B) (hB : B ≤ w.heap.size) (hx : JAt w B 62 x v) (hli : Light 62 v) :
    Calls Tryz.prog 19 #[x] w fun e w' => ∃ b, e = .returned (.bool b) ∧ Below w.heap.size w w' ∧ (b = true → Good 62 v ∧ JV.parts 62 v ≤ 400 ∧ JV.bytes 62 v ≤ 2000) := by
  have hx' := hide hx
  obtain ⟨la, lc, ka, kc, va, vc, rfl, -⟩ := hx
  obtain ⟨W, hW⟩ : ∃ W, W = (w.alloc (.cells #[.int .i64 v.kind, .int .i64 v.half, .string v.text, .slice la v.list.length lc, .slice ka v.keys.length kc, .slice va v.vals.length vc] 26)).alloc (.cells #[.int .i64 0, .int .i64 0, .bool false] 79) := ⟨_, rfl⟩
  have hl : Lk W (w.heap.size + 1) 0 0 false := by
    rw [hW]
    have h2 := Blk.new (w.alloc (.cells #[.int .i64 v.kind, .int .i64 v.half, .string v.text, .slice la v.list.length lc, .slice ka v.keys.length kc, .slice va v.vals.length vc] 26)) 79 #[.int .i64 0, .int .i64 0, .bool false]
    have hsz : (w.alloc (.cells #[.int .i64 v.kind, .int .i64 v.half, .string v.text, .slice la v.list.length lc, .slice ka v.keys.length kc, .slice va v.vals.length vc] 26)).heap.size = w.heap.size + 1 := by simp
    rw [hsz] at h2
    exact h2
  have oW : Only (· = w.heap.size + 1) w W := by rw [hW]; exact ((Only.refl _ w).alloc _).alloc _
  have hTW : Tabs W B := hT.only oW (by intro k hk; omega) hB
  have hxW : JAt W B 62 _ v := hx'.out.only oW (by intro k hk; omega) hB
  have hsW := Nat.le_trans hB oW.size
  replace hl := hide hl
  replace oW := hide oW
  replace hTW := hide hTW
  replace hxW := hide hxW
  clear hT
  go_enter Tryz.func19, Tryz.ntmps19
  go_wp2_with fail
  rw [← hW]
  clear hW
  refine (value_any 62 (by omega) 0 W B (w.heap.size + 1) 0 0 false _ v (by omega) (by omega) hl.out hTW.out (by omega) hsW hxW.out hli (by omega) (by omega)).mono ?_
  rintro e W' ⟨p', q', b', rfl, hL', ho', hp1, hp2, hb'⟩
  have c2 := hL'.cell 2
  simp at c2
  replace hL' := hide hL'
  replace ho' := hide ho'
  replace hb' := hide hb'
  go_wp2
  go_ret
  refine ⟨!b', by simp, ((oW.out.trans ho'.out).below (by intro k hk; omega) (by omega)), fun e => by
    obtain ⟨-, y1, y2, y3, y4, y5⟩ := hb'.out (by cases b' <;> simp at e ⊢)
    exact ⟨y2, by omega, by omega⟩⟩

set_option maxHeartbeats 1000000 in
set_option maxRecDepth 100000 in
theorem fine_any (w : World) (B : Nat) (A : Option Addr) (c : Nat) (xs : List JV) (hT : Tabs w B) (hB : B ≤ w.heap.size) (hc : xs.length ≤ c) (hm : c ≤ 9223372036854775807) (hx : VecAt (JAt w B 62) w B A xs) (hli : ∀ x ∈ xs, Light 62 x) :
    Calls Tryz.prog 7 #[.slice A xs.length c] w fun e w' => ∃ b, e = .returned (.bool b) ∧ Below w.heap.size w w' ∧ (b = true → ∀ x ∈ xs, (Good 62 x ∧ JV.parts 62 x ≤ 400 ∧ JV.bytes 62 x ≤ 2000) ∧ x.text.size ≤ 4096) := by
  replace hT := hide hT
  replace hx := hide hx
  replace hli := hide hli
  go_enter Tryz.func7, Tryz.ntmps7
  go_wp2
  go_loopw [3] (fun i wr => ∃ j : Nat, i = .int .i64 j ∧ j ≤ xs.length ∧ Below w.heap.size w wr ∧ ∀ i x, i < j → xs[i]? = some x → (Good 62 x ∧ JV.parts 62 x ≤ 400 ∧ JV.bytes 62 x ≤ 2000) ∧ x.text.size ≤ 4096) (fun i _ => xs.length - (intOf i).toNat)
  case atStart => exact ⟨0, rfl, Nat.zero_le _, Below.refl _ _, fun i x hi => absurd hi (by omega)⟩
  case round =>
    obtain ⟨j, rfl, hj, hbw, hg⟩ := hrel
    replace hg := hide hg
    by_cases hjl : j < xs.length
    · obtain ⟨bk, ofs, rfl, hbk, hcs⟩ := hx.out (by omega)
      obtain ⟨x, hxj⟩ : ∃ x, xs[j]? = some x := ⟨_, List.getElem?_eq_getElem hjl⟩
      obtain ⟨c0, c1, c2, c3, c4, c5, e0, e1, e2, e3, e4, e5, hxx⟩ := hcs j x hxj
      have hfr : ∀ p : Addr, p.block < B → wr.cell? p = w.cell? p := fun p hp => hbw.cell (by omega)
      replace e0 := (hfr _ hbk).trans e0
      replace e1 := (hfr _ hbk).trans e1
      replace e2 := (hfr _ hbk).trans e2
      replace e3 := (hfr _ hbk).trans e3
      replace e4 := (hfr _ hbk).trans e4
      replace e5 := (hfr _ hbk).trans e5
      replace hxx := JAt.keep hfr (Nat.le_refl _) 62 _ _ hxx
      have hTr := hide (hT.out.keep hfr)
      have hsr := Nat.le_trans hB hbw.size
      have hxx' := hide hxx
      obtain ⟨la, lc, ka, kc, va, vc, hagg, -, -, -, -, -, -, h7, -⟩ := hxx
      have hagg' := hide hagg
      have e2' : c2 = .string x.text := by injection hagg with hagg; injection hagg with hagg; simp at hagg; exact hagg.2.2.1
      subst e2'
      clear hagg hcs hfr
      replace hbw := hide hbw
      have hlx := hide (hli.out x (List.mem_of_getElem? hxj))
      by_cases h4 : x.text.size ≤ 4096
      · have h4i : ¬ ((4096 : Int) < (x.text.size : Int)) := by omega
        go_wp2_with (go_at_call 19; refine (fit_any wr B _ x hTr.out hsr hxx'.out hlx.out).mono ?_; rintro e W' ⟨b', rfl, hb1, hb2⟩; replace hb1 := hide hb1; replace hb2 := hide hb2)
        · go_ret
          exact ⟨false, rfl, hbw.out.trans (hb1.out.mono hbw.out.size), by simp⟩
        · have hb' : b' = true := by cases b' <;> simp_all
          go_roundw
          case rel =>
            refine ⟨j + 1, by go_num, by omega, hbw.out.trans (hb1.out.mono hbw.out.size), fun i y hi hy => ?_⟩
            rcases Nat.lt_or_ge i j with hlt | hge
            · exact hg.out i y hlt hy
            · obtain rfl : i = j := by omega
              rw [hxj] at hy
              cases hy
              exact ⟨hb2.out hb', h4⟩
          case measure => simp [intOf]; omega
      · have h4i : ((4096 : Int) < (x.text.size : Int)) := by omega
        go_wp2_with fail
        go_ret
        exact ⟨false, rfl, hbw.out, by simp⟩
    · go_wp2
      go_ret
      exact ⟨true, rfl, hbw, fun _ x hx => by
        obtain ⟨i, hi, rfl⟩ := List.getElem_of_mem hx
        exact hg.out i _ (by omega) (List.getElem?_eq_getElem hi)⟩

theorem bytes_any (w : World) (B : Nat) (A : Option Addr) (c : Nat) (xs : List ByteArray) (hB : B ≤ w.heap.size) (hc : xs.length ≤ c) (hm : c ≤ 9223372036854775807) (hx : StrsAt w B A xs) :
    Calls Tryz.prog 18 #[.slice A xs.length c] w fun e w' => ∃ b, e = .returned (.bool b) ∧ Below w.heap.size w w' := by
  replace hx := hide hx
  by_cases hbig : (2147483647 : Int) < (xs.length : Int)
  · go_enter Tryz.func18, Tryz.ntmps18
    go_wp2
    go_ret
    exact ⟨false, rfl, Below.refl _ _⟩
  go_enter Tryz.func18, Tryz.ntmps18
  go_wp2
  go_loopw [4, 10] (fun s4 i wr => ∃ j : Nat, i = .int .i64 j ∧ j ≤ xs.length ∧ Below w.heap.size w wr) (fun _ i _ => xs.length - (intOf i).toNat)
  case atStart => exact ⟨0, rfl, Nat.zero_le _, Below.refl _ _⟩
  case round =>
    obtain ⟨j, rfl, hj, hbw⟩ := hrel
    by_cases hjl : j < xs.length
    · obtain ⟨hsz, hx2⟩ := hx.out
      obtain ⟨bk, ofs, rfl, hbk, hcs⟩ := hx2 (by omega)
      obtain ⟨s, hsj⟩ : ∃ x, xs[j]? = some x := ⟨_, List.getElem?_eq_getElem hjl⟩
      have e0 := (hbw.cell (by show bk < _; omega)).trans (hcs j s hsj)
      clear hcs hx2 hsz
      replace hbw := hide hbw
      by_cases hb : (2147483647 : Int) < (s.size : Int)
      · go_wp2
        go_ret
        exact ⟨false, rfl, hbw.out⟩
      · go_wp2
        go_roundw
        case rel => exact ⟨j + 1, by go_num, by omega, hbw.out⟩
        case measure => simp [intOf]; omega
    · go_wp2
      go_ret
      exact ⟨true, rfl, hbw⟩

set_option maxHeartbeats 1000000 in
set_option maxRecDepth 100000 in
theorem zzfits_any (w : World) (B n : Nat) (x : Value) (v : JV) (hB : B ≤ w.heap.size) (hx : JAt w B (n + 1) x v) :
    Calls Tryz.prog 6 #[x] w fun e w' => ∃ b, e = .returned (.bool b) ∧ Below w.heap.size w w' := by
  obtain ⟨la, lc, ka, kc, va, vc, rfl, hl1, hl2, hl3, hl4, hl5, hl6, hl7, hl8, hl9, hla, hka, hva⟩ := hx
  obtain ⟨W, hW⟩ : ∃ W, W = w.alloc (.cells #[.int .i64 v.kind, .int .i64 v.half, .string v.text, .slice la v.list.length lc, .slice ka v.keys.length kc, .slice va v.vals.length vc] 26) := ⟨_, rfl⟩
  have bW : Below w.heap.size w W := by rw [hW]; exact Below.alloc (Below.refl _ _) (Nat.le_refl _) _
  have hk : Blk W w.heap.size 26 #[.int .i64 v.kind, .int .i64 v.half, .string v.text, .slice la v.list.length lc, .slice ka v.keys.length kc, .slice va v.vals.length vc] := by rw [hW]; exact Blk.new w _ _
  have hkW : StrsAt W B ka v.keys := hka.keep (fun p hp => bW.cell (by omega)) (Nat.le_refl _)
  have hsW := Nat.le_trans hB bW.size
  have hlt := hk.lt
  replace hkW := hide hkW
  replace bW := hide bW
  replace hk := hide hk
  clear hla hka hva
  go_enter Tryz.func6, Tryz.ntmps6
  go_wp2_with (go_at_call 18; rw [← hW]; clear hW; refine (bytes_any W B ka kc v.keys hsW hl2 hl5 hkW.out).mono ?_; rintro e W' ⟨b', rfl, hb1⟩; have hk' := hk.out.below hb1 hlt; have kc5 := hk'.cell 5; simp at kc5; replace hk' := hide hk'; replace hb1 := hide (bW.out.trans (hb1.mono bW.out.size)))
  all_goals go_ret
  all_goals first
  | exact ⟨_, rfl, hb1.out⟩
  | (subst hW; exact ⟨_, rfl, bW.out⟩)
end Go.Proofs.YtbnbemacljjimaaGreatDoor
