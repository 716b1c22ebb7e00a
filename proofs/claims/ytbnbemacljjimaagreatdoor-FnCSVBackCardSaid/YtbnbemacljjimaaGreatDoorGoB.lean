/- A list of values as the program takes it. -/
import Derived.Test.YtbnbemacljjimaaGreatDoorGoA
namespace Go.Proofs.YtbnbemacljjimaaGreatDoor
open Go.RowKit
set_option linter.unusedVariables false

theorem Tryz.infoAny : (Tryz.prog.info? 20).map (fun i => (i.zero, i.size, i.bytes)) = some (some .nilIface, 1, 16) := by kernel_rfl

theorem GAt.form {w : World} {lo n : Nat} {y : Value} {v : JV} (h : GAt w lo n y v) : y = .nilIface ∨ ∃ t u, y = .iface t u := by
  cases n with
  | zero => exact absurd h (fun h => h)
  | succ n =>
    rcases h with h | h | h | h | h | h | h | h
    · exact Or.inl h.2
    · exact Or.inr ⟨_, _, h.2⟩
    · exact Or.inr ⟨_, _, h.2⟩
    · exact Or.inr ⟨_, _, h.2.2⟩
    · exact Or.inr ⟨_, _, h.2.2⟩
    · exact Or.inr ⟨_, _, h.2⟩
    · obtain ⟨-, b, o, c, h, -⟩ := h
      exact Or.inr ⟨_, _, h⟩
    · obtain ⟨-, b, ents, h, -⟩ := h
      exact Or.inr ⟨_, _, h⟩

def Lst (n : Nat) (xs : List JV) (w wr : World) (S j : Nat) (cs : Array Value) : Prop :=
  Below w.heap.size w wr ∧ Blk wr S 20 cs ∧ cs.size = xs.length ∧ ∀ (i : Nat) y, i < j → xs[i]? = some y → ∃ z, cs[i]? = some z ∧ GAt wr (S + 1) n z y

theorem Lst.next {n : Nat} {xs : List JV} {w wr W2 : World} {S j : Nat} {cs : Array Value} (h : Lst n xs w wr S j cs) (hw : w.heap.size = S) (hb : Below wr.heap.size wr W2) {x : JV} (hx : xs[j]? = some x) {y : Value} {lo : Nat} (hl : S + 1 ≤ lo) (hy : GAt W2 lo n y x) :
    Lst n xs w (W2.setCell ⟨S, j, none⟩ y) S (j + 1) (cs.setIfInBounds j y) := by
  obtain ⟨h1, h2, h3, h4⟩ := h
  have hlt := h2.lt
  have hj : j < xs.length := (List.getElem?_eq_some_iff.1 hx).1
  have h2' : Blk W2 S _ cs := h2.below hb hlt
  have o1 : Only (· = S) wr (W2.setCell ⟨S, j, none⟩ y) := (Only.of_below (P := (· = S)) hb (fun k hk _ => hk)).setCell (p := ⟨S, j, none⟩) (Or.inl rfl) y
  have o2 : Only (· = S) W2 (W2.setCell ⟨S, j, none⟩ y) := (Only.refl (· = S) W2).setCell (p := ⟨S, j, none⟩) (Or.inl rfl) y
  refine ⟨?_, h2'.set_ j y, by simpa using h3, fun i z hi hz => ?_⟩
  · exact h1.trans (o1.below (by intro k hk; omega) (by omega))
  · rcases Nat.lt_or_ge i j with hlt' | hge
    · obtain ⟨u, hu, hg⟩ := h4 i z hlt' hz
      exact ⟨u, by rw [Array.getElem?_setIfInBounds_ne (by omega)]; exact hu, GAt.only o1 (by intro k hk; omega) n _ _ hg⟩
    · obtain rfl : i = j := by omega
      rw [hx] at hz
      cases hz
      exact ⟨y, by rw [Array.getElem?_setIfInBounds_self_of_lt (by omega)], GAt.low hl n _ _ (GAt.only o2 (by intro k hk; omega) n _ _ hy)⟩

set_option maxHeartbeats 2000000 in
set_option maxRecDepth 100000 in
theorem list_step (n : Nat) (hT : TG n) : LG n := by
  intro w B A c xs hx hg hc hm hlen hB
  obtain ⟨i0, hi0, hz0, hz1, hz2⟩ := info_parts Tryz.infoAny
  have hmk := fun W => run_make_rowN (P := Tryz.prog) 83 20 i0 _ Tryz.underlying83 hi0 hz0 .i64 .i64 xs.length xs.length (Nat.le_refl _) (by rw [hz2]; omega) (by omega) W
  rw [hz1] at hmk
  obtain ⟨cs0, hcs0⟩ : ∃ cs0, madeCells (Value.cells .nilIface) (xs.length * 1) = cs0 := ⟨_, rfl⟩
  have hsz0 : cs0.size = xs.length := by rw [← hcs0, size_madeCells]; omega
  rw [hcs0] at hmk
  clear hcs0 hi0 hz0 hz1 hz2
  have h0 : Lst n xs w (w.alloc (.cells cs0 20)) w.heap.size 0 cs0 := ⟨Below.alloc (Below.refl _ _) (Nat.le_refl _) _, Blk.new _ _ _, hsz0, fun i y hi => absurd hi (by omega)⟩
  replace hx := hide hx
  replace hg := hide hg
  replace h0 := hide h0
  go_enter Tryz.func43, Tryz.ntmps43
  go_wp2
  go_loopw [14] (fun s14 wr => ∃ (j : Nat) (cs : Array Value), s14 = .int .i64 j ∧ j ≤ xs.length ∧ Lst n xs w wr w.heap.size j cs) (fun i _ => xs.length - (intOf i).toNat)
  case atStart => exact ⟨0, cs0, rfl, Nat.zero_le _, h0.out⟩
  case round =>
    obtain ⟨j, cs, rfl, hj, hl⟩ := hrel
    have hbl := hl.2.1
    have hfz := hbl.frozen j
    have hbw := hl.1
    have hltS := hbl.lt
    by_cases hjl : j < xs.length
    · obtain ⟨bk, ofs, rfl, hbk, hcs⟩ := hx.out (by omega)
      obtain ⟨x, hxj⟩ : ∃ x, xs[j]? = some x := ⟨_, List.getElem?_eq_getElem hjl⟩
      obtain ⟨c0, c1, c2, c3, c4, c5, e0, e1, e2, e3, e4, e5, hxx⟩ := hcs j x hxj
      have hfr : ∀ p : Addr, p.block < B → wr.cell? p = w.cell? p := fun p hp => hbw.cell (by omega)
      replace e0 := (hfr _ hbk).trans e0
      replace e1 := (hfr _ hbk).trans e1
      replace e2 := (hfr _ hbk).trans e2
      replace e3 := (hfr _ hbk).trans e3
      replace e4 := (hfr _ hbk).trans e4
      replace e5 := (hfr _ hbk).trans e5
      replace hxx := JAt.keep hfr (Nat.le_refl _) n _ _ hxx
      have hgx := hg.out x (List.mem_of_getElem? hxj)
      have hcj : cs[j]? = some (cs[j]'(by rw [hl.2.2.1]; exact hjl)) := Array.getElem?_eq_getElem _
      rcases n with _ | m
      · exact absurd hgx (fun h => h)
      have hxx' := hxx
      obtain ⟨la, lc, ka, kc, va, vc, hagg, -⟩ := hxx'
      simp at hagg
      obtain ⟨rfl, rfl, rfl, rfl, rfl, rfl⟩ := hagg
      obtain ⟨W1, hW1⟩ : ∃ W1, W1 = wr.alloc (.cells #[.int .i64 x.kind, .int .i64 x.half, .string x.text, .slice la x.list.length lc, .slice ka x.keys.length kc, .slice va x.vals.length vc] 26) := ⟨_, rfl⟩
      have b1 : Below wr.heap.size wr W1 := by rw [hW1]; exact Below.alloc (Below.refl _ _) (Nat.le_refl _) _
      have hxx1 := JAt.keep (fun p (hp : p.block < B) => b1.cell (by have := hbw.size; omega)) (Nat.le_refl _) (m + 1) _ _ hxx
      have hBW : B ≤ W1.heap.size := by have := b1.size; have := hbw.size; omega
      replace hl := hide hl
      replace hbl := hide hbl
      replace hbw := hide hbw
      replace b1 := hide b1
      replace hxx1 := hide hxx1
      replace hgx := hide hgx
      clear hcs hfr hxx hfz
      go_wp2_with fail
      rw [← hW1]
      clear hW1
      refine (hT W1 B _ x hxx1.out hgx.out hBW).mono ?_
      rintro e W2 ⟨y, rfl, b2, hy⟩
      have hbl2 := (hbl.out.below b1.out hltS).below b2 (by have := b1.out.size; omega)
      have hfz := hbl2.frozen j
      have hcj2 : W2.cell? ⟨w.heap.size, j, none⟩ = some (cs[j]'(by rw [hl.out.2.2.1]; exact hjl)) := (hbl2.cell j).trans hcj
      have hnext := hide (hl.out.next rfl (b1.out.trans (b2.mono b1.out.size)) hxj (by have := b1.out.size; omega) hy)
      have hform := hy.form
      replace hbl2 := hide hbl2
      replace b2 := hide b2
      replace hy := hide hy
      rcases hform with rfl | ⟨t, u, rfl⟩
      · go_wp2_with fail
        go_roundw
        case rel => exact ⟨j + 1, _, by go_num, by omega, hnext.out⟩
        case measure => simp [intOf]; omega
      · go_wp2_with fail
        go_roundw
        case rel => exact ⟨j + 1, _, by go_num, by omega, hnext.out⟩
        case measure => simp [intOf]; omega
    · go_wp2
      go_ret2
      obtain ⟨h1, h2, h3, h4⟩ := hl
      refine ⟨w.heap.size, xs.length, by simp, h1, Nat.le_refl _, hltS, Nat.le_refl _, by omega, fun i y hy => ?_⟩
      have hi := (List.getElem?_eq_some_iff.1 hy).1
      obtain ⟨z, hz, hg⟩ := h4 i y (by omega) hy
      exact ⟨z, by rw [Nat.zero_add, h2.cell]; exact hz, GAt.low (by omega) n _ _ hg⟩
end Go.Proofs.YtbnbemacljjimaaGreatDoor
