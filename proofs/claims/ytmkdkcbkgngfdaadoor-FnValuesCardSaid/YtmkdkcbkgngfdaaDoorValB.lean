/- fits: every value is one of JSON and not too large. -/
import Derived.Test.YtmkdkcbkgngfdaaDoorValA
namespace Go.Proofs.YtmkdkcbkgngfdaaDoor
open Go.RowKit
set_option linter.unusedVariables false

set_option maxHeartbeats 1000000 in
set_option maxRecDepth 100000 in
theorem fits_any (w : World) (B : Nat) (A : Option Addr) (c : Nat) (xs : List JV) (hT : Tabs w B) (hB : B ≤ w.heap.size) (hc : xs.length ≤ c) (hm : c ≤ 9223372036854775807) (hx : VecAt (JAt w B 62) w B A xs) :
    Calls Tryd.prog 18 #[.slice A xs.length c] w fun e w' => ∃ b, e = .returned (.bool b) ∧ Below w.heap.size w w' ∧ (b = true → ∀ x ∈ xs, Good 62 x) := by
  replace hT := hide hT
  replace hx := hide hx
  go_enter Tryd.func18, Tryd.ntmps18
  go_wp2
  go_loopw [7] (fun i wr => ∃ j : Nat, i = .int .i64 j ∧ j ≤ xs.length ∧ Below w.heap.size w wr ∧ ∀ i x, i < j → xs[i]? = some x → Good 62 x) (fun i _ => xs.length - (intOf i).toNat)
  case atStart => exact ⟨0, rfl, Nat.zero_le _, Below.refl _ _, fun i x hi => absurd hi (by omega)⟩
  case round =>
    obtain ⟨j, rfl, hj, hbw, hg⟩ := hrel
    replace hg := hide hg
    by_cases hjl : j < xs.length
    · obtain ⟨bk, ofs, rfl, hbk, hcs⟩ := hx.out (by omega)
      obtain ⟨x, hxj⟩ : ∃ x, xs[j]? = some x := ⟨_, List.getElem?_eq_getElem hjl⟩
      obtain ⟨c0, c1, c2, c3, c4, c5, e0, e1, e2, e3, e4, e5, hxx⟩ := hcs j x hxj
      have hfr : ∀ p : Addr, p.block < B → wr.cell? p = w.cell? p := fun p hp => hbw.cell (by omega)
      replace e0 := (hfr _ hbk).trans e0
      replace e1 := (hfr _ hbk).trans e1
      replace e2 := (hfr _ hbk).trans e2
      replace e3 := (hfr _ hbk).trans e3
      replace e4 := (hfr _ hbk).trans e4
      replace e5 := (hfr _ hbk).trans e5
      replace hxx := JAt.keep hfr (Nat.le_refl _) 62 _ _ hxx
      have hTr := hT.out.keep hfr
      have hsr := Nat.le_trans hB hbw.size
      have hxx' := hxx
      obtain ⟨la, lc, ka, kc, va, vc, hagg, -⟩ := hxx
      injection hagg with hagg
      injection hagg with hagg
      simp at hagg
      obtain ⟨rfl, rfl, rfl, rfl, rfl, rfl⟩ := hagg
      obtain ⟨W1, hW1⟩ : ∃ W1, W1 = wr.alloc (.cells #[.int .i64 x.kind, .int .i64 x.half, .string x.text, .slice la x.list.length lc, .slice ka x.keys.length kc, .slice va x.vals.length vc] 26) := ⟨_, rfl⟩
      have b1 : Below wr.heap.size wr W1 := by rw [hW1]; exact Below.alloc (Below.refl _ _) (Nat.le_refl _) _
      have hf := hide (fit_any W1 B _ x (hTr.keep (fun p hp => b1.cell (by omega))) (Nat.le_trans hsr b1.size) (JAt.keep (fun p hp => b1.cell (by omega)) (Nat.le_refl _) 62 _ _ hxx'))
      have hb01 := hide (hbw.trans (b1.mono hbw.size))
      clear hcs hfr hTr hxx' hbw b1
      go_wp2_with fail
      rw [← hW1]
      clear hW1
      refine hf.out.mono ?_
      rintro e W' ⟨b', rfl, hb1, hb2⟩
      have hb' := hide (hb01.out.trans (hb1.mono hb01.out.size))
      replace hb2 := hide hb2
      clear hb1
      cases b'
      · go_wp2_with fail
        go_ret
        exact ⟨false, rfl, hb'.out, by simp⟩
      · go_wp2_with fail
        go_roundw
        case rel =>
          refine ⟨j + 1, by go_num, by omega, hb'.out, fun i y hi hy => ?_⟩
          rcases Nat.lt_or_ge i j with hlt | hge
          · exact hg.out i y hlt hy
          · obtain rfl : i = j := by omega
            rw [hxj] at hy
            cases hy
            exact hb2.out trivial
        case measure => simp [intOf]; omega
    · obtain rfl : j = xs.length := by omega
      go_wp2_with fail
      go_ret
      refine ⟨true, rfl, hbw, fun _ x hx => ?_⟩
      obtain ⟨i, hi⟩ := List.getElem?_of_mem hx
      have : i < xs.length := by
        rcases Nat.lt_or_ge i xs.length with h | h
        · exact h
        · rw [List.getElem?_eq_none h] at hi; cases hi
      exact hg.out i x this hi
end Go.Proofs.YtmkdkcbkgngfdaaDoor
