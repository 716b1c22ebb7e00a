/- Lists longer than a value within the bounds has: as the program takes them, and @csv of them (printed by mkbig.py). -/
import Derived.Test.YtbnbemacljjimaaGreatDoorCsvD
import Derived.Test.YtbnbemacljjimaaGreatDoorGoC
namespace Go.Proofs.YtbnbemacljjimaaGreatDoor
open Go.RowKit Go.Lib
set_option linter.unusedVariables false

def LGb (n : Nat) : Prop := ∀ (w : World) (B : Nat) (A : Option Addr) (c : Nat) (xs : List JV), VecAt (JAt w B n) w B A xs → (∀ x ∈ xs, Good n x) → xs.length ≤ c → c ≤ 9223372036854775807 → xs.length ≤ 2147483648 → B ≤ w.heap.size →
  Calls Tryz.prog 43 #[.slice A xs.length c] w fun e w' => ∃ b c', e = .returned (.tuple #[.slice (some ⟨b, 0, none⟩) xs.length c', .bool true]) ∧ Below w.heap.size w w' ∧ w.heap.size ≤ b ∧ b < w'.heap.size ∧
    xs.length ≤ c' ∧ c' ≤ 9223372036854775807 ∧ ∀ (i : Nat) y, xs[i]? = some y → ∃ z, w'.cell? ⟨b, 0 + i, none⟩ = some z ∧ GAt w' w.heap.size n z y

set_option maxHeartbeats 2000000 in
set_option maxRecDepth 100000 in
theorem list_big (n : Nat) (hT : TG n) : LGb n := by
  intro w B A c xs hx hg hc hm hlen hB
  obtain ⟨i0, hi0, hz0, hz1, hz2⟩ := info_parts Tryz.infoAny
  have hmk := fun W => run_make_rowN (P := Tryz.prog) 83 20 i0 _ Tryz.underlying83 hi0 hz0 .i64 .i64 xs.length xs.length (Nat.le_refl _) (by rw [hz2]; omega) (by omega) W
  rw [hz1] at hmk
  obtain ⟨cs0, hcs0⟩ : ∃ cs0, madeCells (Value.cells .nilIface) (xs.length * 1) = cs0 := ⟨_, rfl⟩
  have hsz0 : cs0.size = xs.length := by rw [← hcs0, size_madeCells]; omega
  rw [hcs0] at hmk
  clear hcs0 hi0 hz0 hz1 hz2
  have h0 : Lst n xs w (w.alloc (.cells cs0 20)) w.heap.size 0 cs0 := ⟨Below.alloc (Below.refl _ _) (Nat.le_refl _) _, Blk.new _ _ _, hsz0, fun i y hi => absurd hi (by omega)⟩
  replace hx := hide hx
  replace hg := hide hg
  replace h0 := hide h0
  go_enter Tryz.func43, Tryz.ntmps43
  go_wp2
  go_loopw [14] (fun s14 wr => ∃ (j : Nat) (cs : Array Value), s14 = .int .i64 j ∧ j ≤ xs.length ∧ Lst n xs w wr w.heap.size j cs) (fun i _ => xs.length - (RowKit.intOf i).toNat)
  case atStart => exact ⟨0, cs0, rfl, Nat.zero_le _, h0.out⟩
  case round =>
    obtain ⟨j, cs, rfl, hj, hl⟩ := hrel
    have hbl := hl.2.1
    have hfz := hbl.frozen j
    have hbw := hl.1
    have hltS := hbl.lt
    by_cases hjl : j < xs.length
    · obtain ⟨bk, ofs, rfl, hbk, hcs⟩ := hx.out (by omega)
      obtain ⟨x, hxj⟩ : ∃ x, xs[j]? = some x := ⟨_, List.getElem?_eq_getElem hjl⟩
      obtain ⟨c0, c1, c2, c3, c4, c5, e0, e1, e2, e3, e4, e5, hxx⟩ := hcs j x hxj
      have hfr : ∀ p : Addr, p.block < B → wr.cell? p = w.cell? p := fun p hp => hbw.cell (by omega)
      replace e0 := (hfr _ hbk).trans e0
      replace e1 := (hfr _ hbk).trans e1
      replace e2 := (hfr _ hbk).trans e2
      replace e3 := (hfr _ hbk).trans e3
      replace e4 := (hfr _ hbk).trans e4
      replace e5 := (hfr _ hbk).trans e5
      replace hxx := JAt.keep hfr (Nat.le_refl _) n _ _ hxx
      have hgx := hg.out x (List.mem_of_getElem? hxj)
      have hcj : cs[j]? = some (cs[j]'(by rw [hl.2.2.1]; exact hjl)) := Array.getElem?_eq_getElem _
      rcases n with _ | m
      · exact absurd hgx (fun h => h)
      have hxx' := hxx
      obtain ⟨la, lc, ka, kc, va, vc, hagg, -⟩ := hxx'
      simp at hagg
      obtain ⟨rfl, rfl, rfl, rfl, rfl, rfl⟩ := hagg
      obtain ⟨W1, hW1⟩ : ∃ W1, W1 = wr.alloc (.cells #[.int .i64 x.kind, .int .i64 x.half, .string x.text, .slice la x.list.length lc, .slice ka x.keys.length kc, .slice va x.vals.length vc] 26) := ⟨_, rfl⟩
      have b1 : Below wr.heap.size wr W1 := by rw [hW1]; exact Below.alloc (Below.refl _ _) (Nat.le_refl _) _
      have hxx1 := JAt.keep (fun p (hp : p.block < B) => b1.cell (by have := hbw.size; omega)) (Nat.le_refl _) (m + 1) _ _ hxx
      have hBW : B ≤ W1.heap.size := by have := b1.size; have := hbw.size; omega
      replace hl := hide hl
      replace hbl := hide hbl
      replace hbw := hide hbw
      replace b1 := hide b1
      replace hxx1 := hide hxx1
      replace hgx := hide hgx
      clear hcs hfr hxx hfz
      go_wp2_with fail
      rw [← hW1]
      clear hW1
      refine (hT W1 B _ x hxx1.out hgx.out hBW).mono ?_
      rintro e W2 ⟨y, rfl, b2, hy⟩
      have hbl2 := (hbl.out.below b1.out hltS).below b2 (by have := b1.out.size; omega)
      have hfz := hbl2.frozen j
      have hcj2 : W2.cell? ⟨w.heap.size, j, none⟩ = some (cs[j]'(by rw [hl.out.2.2.1]; exact hjl)) := (hbl2.cell j).trans hcj
      have hnext := hide (hl.out.next rfl (b1.out.trans (b2.mono b1.out.size)) hxj (by have := b1.out.size; omega) hy)
      have hform := hy.form
      replace hbl2 := hide hbl2
      replace b2 := hide b2
      replace hy := hide hy
      rcases hform with rfl | ⟨t, u, rfl⟩
      · go_wp2_with fail
        go_roundw
        case rel => exact ⟨j + 1, _, by go_num, by omega, hnext.out⟩
        case measure => simp [RowKit.intOf]; omega
      · go_wp2_with fail
        go_roundw
        case rel => exact ⟨j + 1, _, by go_num, by omega, hnext.out⟩
        case measure => simp [RowKit.intOf]; omega
    · go_wp2
      go_ret2
      obtain ⟨h1, h2, h3, h4⟩ := hl
      refine ⟨w.heap.size, xs.length, by simp, h1, Nat.le_refl _, hltS, Nat.le_refl _, by omega, fun i y hy => ?_⟩
      have hi := (List.getElem?_eq_some_iff.1 hy).1
      obtain ⟨z, hz, hg⟩ := h4 i y (by omega) hy
      exact ⟨z, by rw [Nat.zero_add, h2.cell]; exact hz, GAt.low (by omega) n _ _ hg⟩

set_option maxHeartbeats 2000000 in
set_option maxRecDepth 100000 in
theorem toGo_big (n : Nat) (w : World) (B : Nat) (x : Value) (v : JV) (hx : JAt w B (n + 1) x v) (hk : v.kind = 5) (hlist : ∀ x ∈ v.list, Good n x) (hlen : v.list.length ≤ 2147483648) (hB : B ≤ w.heap.size) :
    Calls Tryz.prog 22 #[x] w fun e w' => ∃ y, e = .returned (.tuple #[y, .bool true]) ∧ Below w.heap.size w w' ∧ GAt w' w.heap.size (n + 1) y v := by
  have hL := list_big n (toGo_any n)
  have hx' := hide hx
  obtain ⟨la, lc, ka, kc, va, vc, rfl, hl1, hl2, hl3, hl4, hl5, hl6, hl7, hl8, hl9, hla, hka, hva⟩ := hx
  obtain ⟨W, hW⟩ : ∃ W, W = w.alloc (.cells #[.int .i64 v.kind, .int .i64 v.half, .string v.text, .slice la v.list.length lc, .slice ka v.keys.length kc, .slice va v.vals.length vc] 26) := ⟨_, rfl⟩
  have bW : Below w.heap.size w W := by rw [hW]; exact Below.alloc (Below.refl _ _) (Nat.le_refl _) _
  have sW : W.heap.size = w.heap.size + 1 := by rw [hW]; simp
  have hfr : ∀ p : Addr, p.block < B → W.cell? p = w.cell? p := fun p hp => bW.cell (by omega)
  have hla' := hide (hla.keep (R' := JAt W B n) hfr (Nat.le_refl _) (fun x v h => JAt.keep hfr (Nat.le_refl _) n x v h))
  have hxW := hide (JAt.keep hfr (Nat.le_refl _) (n + 1) _ _ hx'.out)
  replace hlist := hide hlist
  replace bW := hide bW
  replace hW := hide hW
  clear hla hka hva hfr
  have hW2 := hW.out
  rw [hk] at hW2
  go_enter Tryz.func22, Tryz.ntmps22
  go_wp2_with fail
  rw [← hW2]
  clear hW2
  refine (hL W B la lc v.list hla'.out hlist.out hl1 hl4 hlen (by omega)).mono ?_
  rintro e W' ⟨b, c', rfl, h1, h2, h3, h4, h5, h6⟩
  replace h1 := hide h1
  replace h6 := hide h6
  go_wp2
  go_ret2
  exact ⟨.iface 83 (.slice (some ⟨b, 0, none⟩) v.list.length c'), by simp, bW.out.trans (h1.out.mono bW.out.size), Or.inr (Or.inr (Or.inr (Or.inr (Or.inr (Or.inr (Or.inl ⟨hk, b, 0, c', rfl, by omega, h3, h4, h5, fun i y hy => by
    obtain ⟨z, hz, hg⟩ := h6.out i y hy
    exact ⟨z, hz, GAt.low bW.out.size n _ _ hg⟩⟩))))))⟩

set_option maxHeartbeats 4000000 in
set_option maxRecDepth 100000 in
theorem join_big (n : Nat) (w : World) (lo b o c : Nat) (xs : List JV) (hlen : xs.length ≤ 2147483648) (hbw : b < w.heap.size) (hc1 : xs.length ≤ c) (hc2 : c ≤ 9223372036854775807)
    (hx : ∀ (i : Nat) y, xs[i]? = some y → ∃ z, w.cell? ⟨b, o + i, none⟩ = some z ∧ GAt w lo (n + 1) z y) (he : ∀ y ∈ xs, Elem y) :
    Calls Tryz.prog 80 #[.string ⟨#[99, 115, 118]⟩, .iface 83 (.slice (some ⟨b, o, none⟩) xs.length c), .string ⟨#[44]⟩, .func (Fn.func 81) #[] #[]] w fun e w' => JoinSays xs e ∧ Below w.heap.size w w' := by
  obtain ⟨i0, hi0, hz0, hz1, hz2⟩ := info_parts Tryz.infoStr
  have hmk := fun W => run_make_rowN (P := Tryz.prog) 24 9 i0 _ Tryz.underlying24 hi0 hz0 .i64 .i64 xs.length xs.length (Nat.le_refl _) (by rw [hz2]; omega) (by omega) W
  rw [hz1] at hmk
  obtain ⟨cs0, hcs0⟩ : ∃ cs0, madeCells (Value.cells (.string ⟨#[]⟩)) (xs.length * 1) = cs0 := ⟨_, rfl⟩
  have hsz0 : cs0.size = xs.length := by rw [← hcs0, size_madeCells]; show xs.length * 1 = _; omega
  have hst0 : ∀ i, i < xs.length → cs0[i]? = some (.string ⟨#[]⟩) := by
    intro i hi
    rw [← hcs0, Nat.mul_one, ← Array.getElem?_toList]
    show (madeCells #[Value.string ⟨#[]⟩] xs.length).toList[i]? = _
    rw [toList_madeCells_one, List.getElem?_replicate, if_pos hi]
  rw [hcs0] at hmk
  clear hcs0 hi0 hz0 hz1 hz2
  have h0 : Jn xs w (w.alloc (.cells cs0 9)) 0 cs0 := ⟨Below.alloc (Below.refl _ _) (Nat.le_refl _) _, Blk.new _ _ _, hsz0, fun i y hi => absurd hi (by omega), fun i _ hi => hst0 i hi, fun i y hi => absurd hi (by omega)⟩
  replace hx := hide hx
  replace he := hide he
  replace h0 := hide h0
  clear hst0
  go_enter Tryz.func80, Tryz.ntmps80
  go_wp2
  go_loopw [36] (fun s36 wr => ∃ (j : Nat) (cs : Array Value), s36 = .int .i64 j ∧ j ≤ xs.length ∧ Jn xs w wr j cs) (fun i _ => xs.length - (RowKit.intOf i).toNat)
  case atStart => exact ⟨0, cs0, rfl, Nat.zero_le _, h0.out⟩
  case round =>
    obtain ⟨j, cs, rfl, hj, hl⟩ := hrel
    have hltS := hl.blk.lt
    by_cases hjl : j < xs.length
    · obtain ⟨y, hyj⟩ : ∃ x, xs[j]? = some x := ⟨_, List.getElem?_eq_getElem hjl⟩
      obtain ⟨z, hz, hg⟩ := hx.out j y hyj
      have e0 := (hl.bel.cell (p := ⟨b, o + j, none⟩) hbw).trans hz
      have hgr : GAt wr lo (n + 1) z y := GAt.ext hl.bel _ _ _ hg
      have hey := he.out y (List.mem_of_getElem? hyj)
      have hcj := hl.rest j (Nat.le_refl _) hjl
      replace hl := hide hl
      have hgh := hide hgr
      clear hz hg
      rcases hgr with ⟨k, rfl⟩ | ⟨k, rfl⟩ | ⟨k, rfl⟩ | ⟨k, hm, rfl⟩ | ⟨k, hm, rfl⟩ | ⟨k, rfl⟩ | ⟨k, b2, o2, c2, rfl, -⟩ | ⟨k, b2, ents, rfl, -⟩
      · have hM := hide (marshal_scalar wr lo n _ y hgh.out (by omega) hey.1 hey.2.1)
        have nn := yes_null k
        have hk := hide k
        replace hey := hide hey
        clear k
        go_wp2_with (go_at_call 70; refine hM.out.mono ?_; rintro e w1 ⟨rfl, hb1⟩; have hn1 := hide ((hl.out.ext hb1).skip hyj hk.out); clear hb1)
        go_roundw
        case rel => exact ⟨j + 1, _, by go_num, by omega, hn1.out⟩
        case measure => simp [RowKit.intOf]; omega
      · have hM := hide (marshal_scalar wr lo n _ y hgh.out (by omega) hey.1 hey.2.1)
        have nn := not_null (y := y) (by omega)
        have hfl : Hid (fld y = stxt y) := hide (by unfold fld; rw [if_neg (by omega), if_neg (by omega)])
        have hk4 : Hid (y.kind ≤ 4) := hide (by omega)
        replace hey := hide hey
        clear k
        go_wp2_with (go_at_call 70; refine hM.out.mono ?_; rintro e w1 ⟨rfl, hb1⟩; have hl1 := hl.out.ext hb1; have d0 := hl1.blk.cell j; rw [hcj] at d0; have f0 := hl1.blk.frozen j; have hn1 := hl1.next hyj hk4.out; rw [hfl.out] at hn1; replace hn1 := hide hn1; replace hl1 := hide hl1; clear hb1)
        go_roundw
        case rel => exact ⟨j + 1, _, by go_num, by omega, hn1.out⟩
        case measure => simp [RowKit.intOf]; omega
      · have hM := hide (marshal_scalar wr lo n _ y hgh.out (by omega) hey.1 hey.2.1)
        have nn := not_null (y := y) (by omega)
        have hfl : Hid (fld y = stxt y) := hide (by unfold fld; rw [if_neg (by omega), if_neg (by omega)])
        have hk4 : Hid (y.kind ≤ 4) := hide (by omega)
        replace hey := hide hey
        clear k
        go_wp2_with (go_at_call 70; refine hM.out.mono ?_; rintro e w1 ⟨rfl, hb1⟩; have hl1 := hl.out.ext hb1; have d0 := hl1.blk.cell j; rw [hcj] at d0; have f0 := hl1.blk.frozen j; have hn1 := hl1.next hyj hk4.out; rw [hfl.out] at hn1; replace hn1 := hide hn1; replace hl1 := hide hl1; clear hb1)
        go_roundw
        case rel => exact ⟨j + 1, _, by go_num, by omega, hn1.out⟩
        case measure => simp [RowKit.intOf]; omega
      · have hM := hide (marshal_scalar wr lo n _ y hgh.out (by omega) hey.1 hey.2.1)
        have nn := not_null (y := y) (by omega)
        have hfl : Hid (fld y = stxt y) := hide (by unfold fld; rw [if_neg (by omega), if_neg (by omega)])
        have hk4 : Hid (y.kind ≤ 4) := hide (by omega)
        replace hey := hide hey
        clear k hm
        go_wp2_with (go_at_call 70; refine hM.out.mono ?_; rintro e w1 ⟨rfl, hb1⟩; have hl1 := hl.out.ext hb1; have d0 := hl1.blk.cell j; rw [hcj] at d0; have f0 := hl1.blk.frozen j; have hn1 := hl1.next hyj hk4.out; rw [hfl.out] at hn1; replace hn1 := hide hn1; replace hl1 := hide hl1; clear hb1)
        go_roundw
        case rel => exact ⟨j + 1, _, by go_num, by omega, hn1.out⟩
        case measure => simp [RowKit.intOf]; omega
      · have hM := hide (marshal_scalar wr lo n _ y hgh.out (by omega) hey.1 hey.2.1)
        have nn := not_null (y := y) (by omega)
        have hfl : Hid (fld y = stxt y) := hide (by unfold fld; rw [if_neg (by omega), if_neg (by omega)])
        have hk4 : Hid (y.kind ≤ 4) := hide (by omega)
        replace hey := hide hey
        clear k
        replace hm := hide hm
        generalize halfBits y.half = X at *
        go_wp2_with (go_at_call 70; refine hM.out.mono ?_; rintro e w1 ⟨rfl, hb1⟩; have hl1 := hl.out.ext hb1; have d0 := hl1.blk.cell j; rw [hcj] at d0; have f0 := hl1.blk.frozen j; have hn1 := hl1.next hyj hk4.out; rw [hfl.out] at hn1; replace hn1 := hide hn1; replace hl1 := hide hl1; clear hb1)
        go_roundw
        case rel => exact ⟨j + 1, _, by go_num, by omega, hn1.out⟩
        case measure => simp [RowKit.intOf]; omega
      · have hM := hide (quo_any wr y.text (by have := hey.2.2; omega))
        have hfl : Hid (fld y = quo y.text) := hide (by unfold fld; rw [if_neg (by omega), if_pos k])
        have hk4 : Hid (y.kind ≤ 4) := hide (by omega)
        replace hey := hide hey
        clear k
        go_wp2_with (go_at_call 81; refine hM.out.mono ?_; rintro e w1 ⟨rfl, hb1⟩; have hl1 := hl.out.ext hb1; have d0 := hl1.blk.cell j; rw [hcj] at d0; have f0 := hl1.blk.frozen j; have hn1 := hl1.next hyj hk4.out; rw [hfl.out] at hn1; replace hn1 := hide hn1; replace hl1 := hide hl1; clear hb1)
        go_roundw
        case rel => exact ⟨j + 1, _, by go_num, by omega, hn1.out⟩
        case measure => simp [RowKit.intOf]; omega
      · have hbd := hide (And.intro hl.out.bel (show ∃ y ∈ xs, 5 ≤ y.kind from ⟨y, List.mem_of_getElem? hyj, by omega⟩))
        clear k
        go_wp2
        go_ret
        exact ⟨Or.inl ⟨_, rfl, hbd.out.2⟩, hbd.out.1.alloc hbd.out.1.size _⟩
      · have hbd := hide (And.intro hl.out.bel (show ∃ y ∈ xs, 5 ≤ y.kind from ⟨y, List.mem_of_getElem? hyj, by omega⟩))
        clear k
        go_wp2
        go_ret
        exact ⟨Or.inl ⟨_, rfl, hbd.out.2⟩, hbd.out.1.alloc hbd.out.1.size _⟩
    · obtain rfl : j = xs.length := by omega
      have hall : ∀ y ∈ xs, y.kind ≤ 4 := fun y hy => by
        obtain ⟨i, hi, rfl⟩ := List.getElem_of_mem hy
        exact hl.plain i _ hi (List.getElem?_eq_getElem hi)
      have hbel := hl.bel
      by_cases h0 : xs.length = 0
      · have hx0 := List.eq_nil_of_length_eq_zero h0
        subst hx0
        have hl2 := hide hl
        replace hall := hide hall
        clear hl
        go_wp2_with (go_at_call 95; refine (Tryz.strings_Join_none _ _ _ _).mono ?_; rintro e w1 ⟨rfl, rfl⟩)
        go_ret
        exact ⟨Or.inr ⟨rfl, hall.out⟩, hbel⟩
      · have hJ := Tryz.strings_Join w.heap.size 0 xs.length (xs.map fld) ⟨#[44]⟩ wr (fun i x hi => by
          obtain ⟨y, hy, rfl⟩ := List.getElem?_map ▸ hi |> Option.map_eq_some_iff.1
          have hil := (List.getElem?_eq_some_iff.1 hy).1
          rw [Nat.zero_add, hl.blk.cell]
          exact hl.made i y hil hy) hltS (by simp; omega) (by simp) (Nat.le_trans (row_len xs he.out) (by omega))
        rw [List.length_map] at hJ
        replace hJ : Hid (Calls Tryz.prog 95 #[.slice (some ⟨w.heap.size, 0, none⟩) xs.length xs.length, .string ⟨#[44]⟩] wr fun e w' => e = .returned (.string (rowT xs)) ∧ Below wr.heap.size wr w') := hide hJ
        replace hl := hide hl
        replace hall := hide hall
        go_wp2_with (go_at_call 95; refine hJ.out.mono ?_; rintro e w1 ⟨rfl, hb1⟩; replace hb1 := hide hb1)
        go_ret
        exact ⟨Or.inr ⟨rfl, hall.out⟩, hbel.trans (hb1.out.mono hbel.size)⟩

theorem zzCSV_big (n : Nat) (w : World) (lo : Nat) (x : Value) (v : JV) (hx : GAt w lo (n + 2) x v) (hl : v.list.length ≤ 2147483648) (he : ∀ y ∈ v.list, Elem y) :
    Calls Tryz.prog 38 #[x] w fun e w' => CsvEnds v e ∧ Below w.heap.size w w' := by
  have hc : Calls Tryz.prog 80 #[.string ⟨#[99, 115, 118]⟩, x, .string ⟨#[44]⟩, .func (Fn.func 81) #[] #[]] w fun e w' => CsvEnds v e ∧ Below w.heap.size w w' := by
    by_cases hk : v.kind = 5
    · rcases hx with h | h | h | h | h | h | h | h
      · exact absurd h.1 (by omega)
      · exact absurd h.1 (by omega)
      · exact absurd h.1 (by omega)
      · exact absurd h.1 (by omega)
      · exact absurd h.1 (by omega)
      · exact absurd h.1 (by omega)
      · obtain ⟨-, b, o, c, rfl, h1, h2, h3, h4, h5⟩ := h
        refine (join_big n w lo b o c v.list hl h2 h3 h4 h5 he).mono ?_
        rintro e w' ⟨hj, hb⟩
        refine ⟨?_, hb⟩
        rcases hj with ⟨t, rfl, y, hy, h5⟩ | ⟨rfl, hall⟩
        · exact Or.inr ⟨fun hok => by have := hok.2 y hy; omega, Or.inr ⟨t, rfl⟩⟩
        · exact Or.inl ⟨⟨hk, hall⟩, rfl⟩
      · exact absurd h.1 (by omega)
    · refine (join_no w x (hx.nolist hk) hx.form).mono ?_
      rintro e w' ⟨ht, hb⟩
      exact ⟨Or.inr ⟨fun hok => hk hok.1, Or.inl ht⟩, hb⟩
  have hc57 : Calls Tryz.prog 57 #[x] w fun e w' => CsvEnds v e ∧ Below w.heap.size w w' := by
    clear hx he hl
    replace hc := hide hc
    go_enter Tryz.func57, Tryz.ntmps57
    go_wp2_with fail
    refine hc.out.mono ?_
    rintro e w1 ⟨hj, hb⟩
    rcases hj with ⟨hk, rfl⟩ | ⟨hk, ⟨t, rfl⟩ | ⟨t, rfl⟩⟩
    all_goals
      replace hk := hide hk
      replace hb := hide hb
      go_wp2
      go_ret
    · exact ⟨Or.inl ⟨hk.out, rfl⟩, hb.out⟩
    · exact ⟨Or.inr ⟨hk.out, Or.inl ⟨t, rfl⟩⟩, hb.out⟩
    · exact ⟨Or.inr ⟨hk.out, Or.inr ⟨t, rfl⟩⟩, hb.out⟩
  clear hx he hl hc
  replace hc57 := hide hc57
  go_enter Tryz.func38, Tryz.ntmps38
  go_wp2_with fail
  refine hc57.out.mono ?_
  rintro e w1 ⟨hj, hb⟩
  rcases hj with ⟨hk, rfl⟩ | ⟨hk, ⟨t, rfl⟩ | ⟨t, rfl⟩⟩
  all_goals
    replace hk := hide hk
    replace hb := hide hb
    go_wp2
    go_ret
  · exact ⟨Or.inl ⟨hk.out, rfl⟩, hb.out⟩
  · exact ⟨Or.inr ⟨hk.out, Or.inl ⟨t, rfl⟩⟩, hb.out⟩
  · exact ⟨Or.inr ⟨hk.out, Or.inr ⟨t, rfl⟩⟩, hb.out⟩

set_option maxHeartbeats 2000000 in
set_option maxRecDepth 100000 in
theorem doorCSV_big (n : Nat) (w : World) (B : Nat) (x : Value) (v : JV) (hx : JAt w B (n + 2) x v) (hv5 : v.kind = 5) (hg : ∀ x ∈ v.list, Good (n + 1) x) (hl : v.list.length ≤ 2147483648) (he : ∀ y ∈ v.list, Elem y) (hB : B ≤ w.heap.size) :
    Calls Tryz.prog 16 #[x] w fun e w' => DoorSays (n + 1) v w w' e := by
  have hx' := hide hx
  obtain ⟨la, lc, ka, kc, va, vc, rfl, -⟩ := hx
  obtain ⟨W, hW⟩ : ∃ W, W = (w.alloc (.cells #[.int .i64 v.kind, .int .i64 v.half, .string v.text, .slice la v.list.length lc, .slice ka v.keys.length kc, .slice va v.vals.length vc] 26)).alloc (.cells #[.int .i64 0, .int .i64 0, .string ⟨#[]⟩, .slice none 0 0, .slice none 0 0, .slice none 0 0, .int .i64 0] 35) := ⟨_, rfl⟩
  have bW : Below w.heap.size w W := by rw [hW]; exact Below.alloc (Below.alloc (Below.refl _ _) (Nat.le_refl _) _) (by simp) _
  have sW : W.heap.size = w.heap.size + 2 := by rw [hW]; simp
  have kW : Blk W (w.heap.size + 1) 35 #[.int .i64 0, .int .i64 0, .string ⟨#[]⟩, .slice none 0 0, .slice none 0 0, .slice none 0 0, .int .i64 0] := by
    rw [hW]
    have h2 := Blk.new (w.alloc (.cells #[.int .i64 v.kind, .int .i64 v.half, .string v.text, .slice la v.list.length lc, .slice ka v.keys.length kc, .slice va v.vals.length vc] 26)) 35 #[.int .i64 0, .int .i64 0, .string ⟨#[]⟩, .slice none 0 0, .slice none 0 0, .slice none 0 0, .int .i64 0]
    have hsz : (w.alloc (.cells #[.int .i64 v.kind, .int .i64 v.half, .string v.text, .slice la v.list.length lc, .slice ka v.keys.length kc, .slice va v.vals.length vc] 26)).heap.size = w.heap.size + 1 := by simp
    rw [hsz] at h2
    exact h2
  have hxW : JAt W B (n + 2) _ v := JAt.keep (fun p hp => bW.cell (by omega)) (Nat.le_refl _) (n + 2) _ _ hx'.out
  replace hxW := hide hxW
  replace bW := hide bW
  replace kW := hide kW
  replace sW := hide sW
  replace hg := hide hg
  replace hv5 := hide hv5
  replace he := hide he
  go_enter Tryz.func16, Tryz.ntmps16
  go_wp2_with fail
  rw [← hW]
  clear hW
  refine (toGo_big (n + 1) W B _ v hxW.out hv5.out hg.out hl (by have := sW.out; omega)).mono ?_
  rintro e W1 ⟨y, rfl, b1, hy⟩
  have kW1 := hide (kW.out.below b1 (by have := sW.out; omega))
  have b2 := hide (bW.out.trans (b1.mono bW.out.size))
  have hz := hide (zzCSV_big n W1 _ y v hy hl he.out)
  have hlo : w.heap.size + 1 < W1.heap.size := kW1.out.lt
  clear b1 hy
  go_wp2_with fail
  refine hz.out.mono ?_
  rintro e W2 ⟨hj, b3⟩
  have kW2 := hide (kW1.out.below b3 hlo)
  have b4 := hide (b2.out.trans (b3.mono b2.out.size))
  have hs23 := b3.size
  clear b3
  rcases hj with ⟨hk, rfl⟩ | ⟨hk, ⟨t, rfl⟩ | ⟨t, rfl⟩⟩
  · have hsz : (rowT v.list).size ≤ 9223372036854775807 := by
      have h1 := row_len v.list he.out
      show (Lib.join ((v.list.map fld).map (·.data.toList)) [44]).toArray.size ≤ _
      rw [List.size_toArray]
      omega
    have hR := hide (result_of (n + 1) W2 0 _ (strJ (rowT v.list)) (str_gat W2 0 (n + 1) (rowT v.list)) (fun W _ => str_fg W (n + 1) _ hsz))
    obtain ⟨u, hu⟩ : ∃ u, u = strJ (rowT v.list) := ⟨_, rfl⟩
    rw [← hu] at hR
    replace hu := hide hu
    replace hk := hide hk
    go_wp2_with (first
      | (go_at_call 23; refine hR.out.mono ?_; rintro e W3 ⟨la', lc', ka', kc', va', vc', rfl, b5, hr⟩; have kW3 := hide (kW2.out.below b5 kW2.out.lt); have b5' := hide (b4.out.trans (b5.mono b4.out.size)); have hr' := hide hr; clear b5 hr)
      | (refine wpList_store_blk rfl 35 (.tmp 2) (.tmp 15) rfl (w.heap.size + 1) _ rfl rfl 35 _ kW3.out res_size rfl (res_one _ _ _ _ _ _ _ _ _ _ _ _ _) ?_; intro W4 k4 o4 s4; have k4' := hide k4; have o4' := hide o4; have s4' := hide s4; clear k4 o4 s4))
    obtain ⟨q0, q1, q2, q3, q4, q5, q6⟩ := blk_seven k4'.out
    obtain ⟨r1, r2⟩ := door_end (z := 0) (by omega) b5'.out hr'.out o4'.out s4'.out (by omega)
    exact bodyPost_ret (v := .agg #[.int .i64 u.kind, .int .i64 u.half, .string u.text, .slice la' u.list.length lc', .slice ka' u.keys.length kc', .slice va' u.vals.length vc', .int .i64 0]) (by simp [results, Tryz.results16, go_sem, q0, q1, q2, q3, q4, q5, q6]) rfl ⟨_, rfl, r1, Or.inl ⟨hk.out, by rw [← hu.out]; exact r2⟩⟩
  all_goals
    have hR := hide (result_err W2 t)
    have hR2 := hide (result_err2 W2 t)
    replace hk := hide hk
    go_wp2_with (first
      | (go_at_call 23; (first | ((with_reducible refine hR.out.mono ?_); skip) | ((with_reducible refine hR2.out.mono ?_); skip)); rintro e W3 ⟨rfl, b5⟩; have kW3 := hide (kW2.out.below b5 kW2.out.lt); have b5' := hide (b4.out.trans (b5.mono b4.out.size)); clear b5)
      | (refine wpList_store_blk rfl 35 (.tmp 2) (.tmp 15) rfl (w.heap.size + 1) _ rfl rfl 35 _ kW3.out res_size rfl (res_one _ _ _ _ _ _ _ _ _ _ _ _ _) ?_; intro W4 k4 o4 s4; have k4' := hide k4; have o4' := hide o4; have s4' := hide s4; clear k4 o4 s4))
    obtain ⟨q0, q1, q2, q3, q4, q5, q6⟩ := blk_seven k4'.out
    refine bodyPost_ret (v := .agg #[.int .i64 0, .int .i64 0, .string ⟨#[]⟩, .slice none 0 0, .slice none 0 0, .slice none 0 0, .int .i64 1]) (by simp [results, Tryz.results16, go_sem, q0, q1, q2, q3, q4, q5, q6]) rfl ⟨_, rfl, ?_, Or.inr ⟨hk.out, ⟨_, _, _, _, _, _, rfl, zero_jat _ _ _⟩⟩⟩
    exact b5'.out.trans (o4'.out.below (by intro k hk; omega) b5'.out.size)

end Go.Proofs.YtbnbemacljjimaaGreatDoor
