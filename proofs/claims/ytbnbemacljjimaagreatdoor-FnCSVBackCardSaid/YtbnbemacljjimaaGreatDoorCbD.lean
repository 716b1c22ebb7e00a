/- FnCSVBack, walked. -/
import Derived.Test.YtbnbemacljjimaaGreatDoorCbA
namespace Go.Proofs.YtbnbemacljjimaaGreatDoor
open Go.RowKit Go.Lib
set_option linter.unusedVariables false

def listV (l : List JV) : JV := .mk 5 0 ⟨#[]⟩ l [] []

theorem jat_listV {w : World} {B n : Nat} {A : Option Addr} {c : Nat} {xs : List JV} (hx : VecAt (JAt w B n) w B A xs) (hc : xs.length ≤ c) (hm : c ≤ 9223372036854775807) :
    JAt w B (n + 1) (.agg #[.int .i64 5, .int .i64 0, .string ⟨#[]⟩, .slice A xs.length c, .slice none 0 0, .slice none 0 0]) (listV xs) :=
  ⟨A, c, none, 0, none, 0, rfl, hc, Nat.le_refl _, Nat.le_refl _, hm, by omega, by omega, by show (⟨#[]⟩ : ByteArray).size ≤ 9223372036854775807; decide, by show (-9223372036854775808 : Int) ≤ 5 ∧ (5 : Int) ≤ 9223372036854775807; decide, by show (-9223372036854775808 : Int) ≤ 0 ∧ (0 : Int) ≤ 9223372036854775807; decide, hx, ⟨fun s hs => absurd hs List.not_mem_nil, fun h => absurd h (by show ¬ 0 < 0; omega)⟩, fun h => absurd h (by show ¬ 0 < 0; omega)⟩

theorem elem_good {n : Nat} {y : JV} (hg : Good (n + 1) y) (hb : JV.bytes (n + 1) y ≤ 2000) : Elem y := by
  refine ⟨hg.2.2.2.2.2.2.1, hg.2.2.2.2.2.2.2.1, ?_⟩
  rw [JV.bytes] at hb
  omega

set_option maxHeartbeats 1000000 in
set_option maxRecDepth 100000 in
theorem csvBack_any (w : World) (B : Nat) (A : Option Addr) (c : Nat) (xs : List JV) (hT : Tabs w B) (hB : B ≤ w.heap.size) (hc : xs.length ≤ c) (hm : c ≤ 9223372036854775807) (hx : VecAt (JAt w B 62) w B A xs) (hli : ∀ x ∈ xs, Light 62 x) :
    Calls Tryz.prog 4 #[.slice A xs.length c] w fun e w' => e = .returned (.bool true) ∧ Below w.heap.size w w' := by
  have hF := hide (fine_any w B A c xs hT hB hc hm hx hli)
  replace hx := hide hx
  clear hT hli
  by_cases hbig : 2147483647 < xs.length
  · have hbi : (2147483647 : Int) < ((xs.length : Nat) : Int) := by omega
    go_enter Tryz.func4, Tryz.ntmps4
    go_wp2
    go_ret
    exact ⟨rfl, Below.refl _ _⟩
  have hbi : ¬ (2147483647 : Int) < ((xs.length : Nat) : Int) := by omega
  go_enter Tryz.func4, Tryz.ntmps4
  go_wp2_with fail
  refine hF.out.mono ?_
  rintro e w1 ⟨b, rfl, b1, hg⟩
  cases b
  · replace b1 := hide b1
    clear hg
    go_wp2
    go_ret
    exact ⟨rfl, b1.out⟩
  replace hg := hg rfl
  have hx1 : VecAt (JAt w1 B 62) w1 B A xs := hx.out.keep (fun p hp => b1.cell (by omega)) (Nat.le_refl _) (fun x v h => JAt.keep (fun p hp => b1.cell (by omega)) (Nat.le_refl _) 62 x v h)
  have hs1 := b1.size
  have hP := hide (plainRow_any w1 B A c xs (by omega) (by omega) hc hm hx1 (fun x hx => (hg x hx).1))
  have hE : Hid (∀ y ∈ xs, Elem y) := hide (fun y hy => elem_good (hg y hy).1.1 (hg y hy).1.2.2)
  have hGd : Hid (∀ y ∈ xs, Good 62 y) := hide (fun y hy => (hg y hy).1.1)
  replace hx1 := hide hx1
  replace b1 := hide b1
  replace hg := hide hg
  go_wp2_with fail
  refine hP.out.mono ?_
  rintro e w2 ⟨hps, b2⟩
  have b02 := hide (b1.out.trans (b2.mono hs1))
  rcases hps with ⟨x, rfl⟩ | ⟨x, rfl, h0, hpl⟩
  · replace b2 := hide b2
    go_wp2
    go_ret
    exact ⟨rfl, b02.out⟩
  obtain ⟨A', cap, rfl, hcap, hcm⟩ := own_sl hpl.own
  have hs2 := b2.size
  have hx2 : VecAt (JAt w2 B 62) w2 B A xs := hx1.out.keep (fun p hp => b2.cell (by omega)) (Nat.le_refl _) (fun x v h => JAt.keep (fun p hp => b2.cell (by omega)) (Nat.le_refl _) 62 x v h)
  have hD := hide (doorCSV_big 61 w2 B _ (listV xs) (jat_listV hx2 hc hm) rfl hGd.out (show xs.length ≤ 2147483648 by omega) hE.out (by omega))
  replace hpl := hide hpl
  replace b2 := hide b2
  clear hx2
  go_wp2_with fail
  refine hD.out.mono ?_
  rintro e w3 ⟨r, rfl, b3, hr⟩
  have hok : CsvOk (listV xs) := ⟨rfl, fun y hy => by
    obtain ⟨i, hi, rfl⟩ := List.getElem_of_mem hy
    exact (hpl.out.all i _ hi (List.getElem?_eq_getElem hi)).1⟩
  replace hr := (hr.resolve_right (fun h => h.1 hok)).2
  obtain ⟨c0, c1, c2, c3, c4, c5, rfl, hj⟩ := hr
  obtain ⟨la, lc, ka, kc, va, vc, hagg, -⟩ := hj
  simp at hagg
  obtain ⟨rfl, rfl, rfl, rfl, rfl, rfl⟩ := hagg
  have hTx := hide (textL_any w3 (rowT xs) 0 la ka va 0 lc 0 kc 0 vc)
  have b03 := hide (b02.out.trans (b3.mono b02.out.size))
  have hown3 := hide (own_below hpl.out.own b3)
  have hs3 := b3.size
  clear hok
  replace b3 := hide b3
  go_wp2_with fail
  refine hTx.out.mono ?_
  rintro e w4 ⟨rfl, b4⟩
  have b04 := hide (b03.out.trans (b4.mono b03.out.size))
  have hown4 := hide (own_below hown3.out b4)
  replace b4 := hide b4
  -- the loops
  obtain ⟨g, cap', hv, hg1, hglt⟩ := hown4.out.form h0
  injection hv with hA
  subst hA
  have hcell : Hid (∀ (i : Nat) y, xs[i]? = some y → w4.cell? ⟨g, i, none⟩ = some (.string (bareT y))) := hide (fun i y hy => by
    have hi := (List.getElem?_eq_some_iff.1 hy).1
    rw [hown4.out.cellAt i (by omega), List.getElem?_map, List.take_of_length_le (Nat.le_refl _), hy]
    rfl)
  have hkn := hide hpl.out.all
  have hq1 := hide (fun i y (h : xs[i]? = some y) => end_at h)
  have hq2 := hide (fun i y (h : xs[i]? = some y) (h4 : y.kind = 4) => quo_ends h h4)
  have hq3 := hide (fun i y (h : xs[i]? = some y) (h4 : y.kind = 4) (hn : NoNul y.text) k (hk : k < y.text.size) => quo_at h h4 hn hk)
  have hq4 := hide (fun i y (h : xs[i]? = some y) (hk : 0 ≤ y.kind ∧ y.kind ≤ 3) => bare_at h hk)
  have hSz : (rowT xs).size ≤ 4101 * xs.length := by
    have h1 := row_len xs hE.out
    show (Lib.join ((xs.map fld).map (·.data.toList)) [44]).toArray.size ≤ _
    rw [List.size_toArray]
    exact h1
  obtain ⟨S, hS⟩ : ∃ S, rowT xs = S := ⟨_, rfl⟩
  have hS0 := hide hS
  rw [hS] at hq1 hq2 hq3 hq4 hSz ⊢
  clear hS hD hP hF hTx hg hx hx1 hpl hown3 hown4
  go_wp2
  go_loop [7, 8] (fun s7 s8 => ∃ i : Nat, s8 = .int .i64 i ∧ i ≤ xs.length ∧ s7 = .int .i64 (st xs i)) (fun _ i => xs.length - (RowKit.intOf i).toNat)
  case atStart => exact ⟨0, rfl, Nat.zero_le _, by rw [st_zero]; rfl⟩
  case round =>
    obtain ⟨i, rfl, hi, rfl⟩ := hrel
    by_cases hil : i < xs.length
    · obtain ⟨y, hy⟩ : ∃ y, xs[i]? = some y := ⟨_, List.getElem?_eq_getElem hil⟩
      have hw := hcell.out i y hy
      obtain ⟨hk4, hnn⟩ := hkn.out i y hil hy
      have hgy := hGd.out y (List.mem_of_getElem? hy)
      have hey := hE.out y (List.mem_of_getElem? hy)
      have hk0 := hgy.1.1
      have hfs := fld_size y hey
      have hst := hide (st_next hy)
      have hend := hq1.out i y hy
      by_cases h4 : y.kind = 4
      · have hbt : bareT y = y.text := by unfold bareT; rw [if_neg (by omega), if_pos h4]
        rw [hbt] at hw
        obtain ⟨⟨hp0, e0⟩, hz0, ⟨hpe, ee⟩, hze⟩ := hq2.out i y hy h4
        have hq := hq3.out i y hy h4 hnn
        have hts : y.text.size ≤ 2000 := hey.2.2
        have hqz : (qp xs i y 0) ≤ S.size := by omega
        generalize qp xs i y = f at *
        generalize st xs i = p at *
        have e0i : (((S[p].toNat : Nat) : Int) == 34) = true := by rw [e0]; rfl
        replace hq := hide hq
        replace hend := hide hend
        replace ee := hide ee
        replace hgy := hide hgy
        replace hey := hide hey
        replace e0 := hide e0
        replace hnn := hide hnn
        replace hbt := hide hbt
        go_wp2
        go_loop [7, 9] (fun s7 s9 => ∃ k : Nat, k ≤ y.text.size ∧ f k ≤ S.size ∧ s7 = .int .i64 (f k) ∧ s9 = .string ⟨(y.text.data.toList.take k).toArray⟩) (fun a _ => S.size - (RowKit.intOf a).toNat)
        case atStart => exact ⟨0, Nat.zero_le _, hqz, by rw [hz0]; rfl, by simp⟩
        case round =>
          obtain ⟨k, hk, hfk, rfl, rfl⟩ := hrel
          have hDs : (⟨(y.text.data.toList.take k).toArray⟩ : ByteArray).size ≤ 2000 := by
            show (y.text.data.toList.take k).toArray.size ≤ 2000
            rw [List.size_toArray, List.length_take, toL_len]
            omega
          by_cases hkl : k < y.text.size
          · have hnext : ∀ X : ByteArray, X.data.toList = [y.text[k]] → (⟨(y.text.data.toList.take k).toArray⟩ : ByteArray) ++ X = ⟨(y.text.data.toList.take (k + 1)).toArray⟩ := fun X hX => by
              apply ByteArray.ext
              apply Array.toList_inj.1
              rw [ByteArray.data_append, Array.toList_append, hX]
              show y.text.data.toList.take k ++ [y.text[k]] = (y.text.data.toList.take (k + 1))
              rw [List.take_succ_eq_append_getElem (by rw [toL_len]; exact hkl)]
              rfl
            obtain ⟨D, hD⟩ : ∃ D, (⟨(y.text.data.toList.take k).toArray⟩ : ByteArray) = D := ⟨_, rfl⟩
            rw [hD] at hDs hnext ⊢
            clear hD
            have hqk := hq.out k hkl
            rcases hqk with ⟨hc, hpp, ec, hf1⟩ | ⟨hc, hpp, hpp1, ec, ec1, hf1⟩
            · generalize f k = P at *
              have hx1 := cut_one hpp
              have hci : (((S[P].toNat : Nat) : Int) == 34) = false := by rw [ec]; simp; omega
              have hcn : (((S[P].toNat : Nat) : Int) != 34) = true := by rw [ec]; simp; omega
              have hcz : ¬ ((S[P].toNat : Nat) : Int) = 34 := by rw [ec]; omega
              obtain ⟨X, hX⟩ : ∃ X, S.extract P (P + 1) = X := ⟨_, rfl⟩
              rw [hX] at hx1
              have hxs := size_of_one hx1
              have hfin := hide (hnext X (by rw [hx1, ec]))
              have zz : ¬ 9223372036854775807 < D.size + X.size := by omega
              replace hxs := hide hxs
              replace ec := hide ec
              clear hnext hx1 hc
              go_wp2
              go_round
              case rel => exact ⟨k + 1, by omega, by omega, by rw [hf1]; go_num, by rw [← hfin.out]⟩
              case measure => simp [RowKit.intOf]; omega
            · generalize f k = P at *
              have hx1 := cut_one hpp1
              have hci : (((S[P].toNat : Nat) : Int) == 34) = true := by rw [ec]; rfl
              have hcn : (((S[P].toNat : Nat) : Int) != 34) = false := by rw [ec]; rfl
              have hci1 : (((S[P + 1].toNat : Nat) : Int) == 34) = true := by rw [ec1, hc]; rfl
              obtain ⟨X, hX⟩ : ∃ X, S.extract (P + 1) (P + 1 + 1) = X := ⟨_, rfl⟩
              rw [hX] at hx1
              have hxs := size_of_one hx1
              have hfin := hide (hnext X (by rw [hx1, ec1]))
              have zz : ¬ 9223372036854775807 < D.size + X.size := by omega
              replace hxs := hide hxs
              replace ec := hide ec
              replace ec1 := hide ec1
              clear hnext hx1 hc
              go_wp2
              go_round
              case rel => exact ⟨k + 1, by omega, by omega, by rw [hf1]; go_num, by rw [← hfin.out]⟩
              case measure => simp [RowKit.intOf]; omega
          · obtain rfl : k = y.text.size := by omega
            have hD : (⟨(y.text.data.toList.take y.text.size).toArray⟩ : ByteArray) = y.text := by
              apply ByteArray.ext
              apply Array.toList_inj.1
              show y.text.data.toList.take y.text.size = y.text.data.toList
              exact List.take_of_length_le (by rw [toL_len]; exact Nat.le_refl _)
            rw [hD] at hDs ⊢
            clear hD
            have ee2 := ee.out
            have hstx := hst.out
            generalize f y.text.size = P at *
            have hci : (((S[P].toNat : Nat) : Int) == 34) = true := by rw [ee2]; rfl
            have hcn : (((S[P].toNat : Nat) : Int) != 34) = false := by rw [ee2]; rfl
            clear ee2
            have hTx : Hid (P + 1 = p + (fld y).size) := hide hze
            have hst2 : Hid (st xs (i + 1) = P + 1 + 1) := hide (by omega)
            have hend2 := hend.out
            rw [← hze] at hend2
            clear hze hstx
            obtain ⟨T, hT⟩ : ∃ T, T = y.text := ⟨_, rfl⟩
            rw [← hT] at hw hDs ⊢
            clear hT
            by_cases hla : i + 1 = xs.length
            · have hS := hend2.1 hla
              have hls : ¬ ((i : Nat) : Int) < (xs.length : Int) - 1 := by omega
              clear hend2
              replace hla := hide hla
              go_wp2
              go_round
              case rel => exact ⟨i + 1, by go_num, by omega, by rw [hst2.out]; go_num⟩
              case measure => simp [RowKit.intOf]; omega
            · obtain ⟨hS, ec⟩ := hend2.2 (by omega)
              have hls : ((i : Nat) : Int) < (xs.length : Int) - 1 := by omega
              have h44 : (((S[P + 1].toNat : Nat) : Int) == 44) = true := by rw [ec]; rfl
              have h44n : (((S[P + 1].toNat : Nat) : Int) != 44) = false := by rw [ec]; rfl
              have h34 : (((S[P + 1].toNat : Nat) : Int) == 34) = false := by rw [ec]; rfl
              clear hend2
              replace ec := hide ec
              go_wp2
              go_round
              case rel => exact ⟨i + 1, by go_num, by omega, by rw [hst2.out]; go_num⟩
              case measure => simp [RowKit.intOf]; omega
      · obtain ⟨hfb, hq⟩ := hq4.out i y hy (by omega)
        rw [← hfb] at hw
        have hep := endAt hy
        rw [hS0.out] at hep
        clear hfb
        generalize fld y = F at *
        generalize st xs i = p at *
        have hqz : p ≤ S.size := by
          rcases hep with h | ⟨h, -⟩ <;> omega
        have hstx := hst
        replace hend := hide hend
        replace hgy := hide hgy
        replace hey := hide hey
        replace hnn := hide hnn
        -- at the start there is no quote
        have h34 : p < S.size → ∃ hp : p < S.size, ¬ (S[p]).toNat = 34 := fun hp => ⟨hp, by
          by_cases hF0 : F.size = 0
          · rcases hep with h | ⟨h, e⟩
            · omega
            · simp only [hF0, Nat.add_zero] at e
              omega
          · obtain ⟨h, e, -, e34⟩ := hq 0 (by omega)
            simp only [Nat.add_zero] at e
            rw [e]
            exact e34⟩
        replace hq := hide hq
        replace hep := hide hep
        have hgo : ∀ (hp : p < S.size), ((((S[p].toNat : Nat) : Int) == 34) = false) := fun hp => by
          obtain ⟨_, h⟩ := h34 hp
          simp
          omega
        clear h34
        replace hgo := hide hgo
        clear hstx
        by_cases hps : p < S.size
        · have h34 := hgo.out hps
          go_wp2
          go_loop [7, 9] (fun s7 s9 => ∃ k : Nat, k ≤ F.size ∧ s7 = .int .i64 ((p + k : Nat)) ∧ s9 = .string ⟨(F.data.toList.take k).toArray⟩) (fun a _ => S.size - (RowKit.intOf a).toNat)
          case atStart => exact ⟨0, Nat.zero_le _, rfl, by simp⟩
          case round =>
            obtain ⟨k, hk, rfl, rfl⟩ := hrel
            have hDs : (⟨(F.data.toList.take k).toArray⟩ : ByteArray).size ≤ 4100 := by
              show (F.data.toList.take k).toArray.size ≤ 4100
              rw [List.size_toArray, List.length_take, toL_len]
              omega
            by_cases hkl : k < F.size
            · have hnext : ∀ X : ByteArray, X.data.toList = [F[k]] → (⟨(F.data.toList.take k).toArray⟩ : ByteArray) ++ X = ⟨(F.data.toList.take (k + 1)).toArray⟩ := fun X hX => by
                apply ByteArray.ext
                apply Array.toList_inj.1
                rw [ByteArray.data_append, Array.toList_append, hX]
                show F.data.toList.take k ++ [F[k]] = (F.data.toList.take (k + 1))
                rw [List.take_succ_eq_append_getElem (by rw [toL_len]; exact hkl)]
                rfl
              obtain ⟨D, hD⟩ : ∃ D, (⟨(F.data.toList.take k).toArray⟩ : ByteArray) = D := ⟨_, rfl⟩
              rw [hD] at hDs hnext ⊢
              clear hD
              obtain ⟨hpp, ec, e44, -⟩ := hq.out k hkl
              have hP1 : ((p + (k + 1) : Nat) : Int) = ((p + k : Nat) : Int) + 1 := by omega
              replace hP1 := hide hP1
              generalize p + k = P at *
              have hx1 := cut_one hpp
              have hci : (((S[P].toNat : Nat) : Int) == 44) = false := by rw [ec]; simp; omega
              have hcn : (((S[P].toNat : Nat) : Int) != 44) = true := by rw [ec]; simp; omega
              obtain ⟨X, hX⟩ : ∃ X, S.extract P (P + 1) = X := ⟨_, rfl⟩
              rw [hX] at hx1
              have hxs := size_of_one hx1
              have hfin := hide (hnext X (by rw [hx1, ec]))
              have zz : ¬ 9223372036854775807 < D.size + X.size := by omega
              replace hxs := hide hxs
              replace ec := hide ec
              clear hnext hx1 e44
              go_wp2
              go_round
              case rel => exact ⟨k + 1, by omega, by rw [hP1.out], by rw [← hfin.out]⟩
              case measure => simp [RowKit.intOf]; omega
            · obtain rfl : k = F.size := by omega
              have hD : (⟨(F.data.toList.take F.size).toArray⟩ : ByteArray) = F := by
                apply ByteArray.ext
                apply Array.toList_inj.1
                show F.data.toList.take F.size = F.data.toList
                exact List.take_of_length_le (by rw [toL_len]; exact Nat.le_refl _)
              rw [hD] at hDs ⊢
              clear hD
              have hend2 := hend.out
              have hst2 := hst.out
              generalize p + F.size = P at *
              have hst3 := hide hst2
              clear hst2
              by_cases hla : i + 1 = xs.length
              · have hS := hend2.1 hla
                have hls : ¬ ((i : Nat) : Int) < (xs.length : Int) - 1 := by omega
                clear hend2
                replace hla := hide hla
                go_wp2
                go_round
                case rel => exact ⟨i + 1, by go_num, by omega, by rw [hst3.out]; go_num⟩
                case measure => simp [RowKit.intOf]; omega
              · obtain ⟨hS, ec⟩ := hend2.2 (by omega)
                have hls : ((i : Nat) : Int) < (xs.length : Int) - 1 := by omega
                have h44 : (((S[P].toNat : Nat) : Int) == 44) = true := by rw [ec]; rfl
                have h44n : (((S[P].toNat : Nat) : Int) != 44) = false := by rw [ec]; rfl
                clear hend2
                replace ec := hide ec
                go_wp2
                go_round
                case rel => exact ⟨i + 1, by go_num, by omega, by rw [hst3.out]; go_num⟩
                case measure => simp [RowKit.intOf]; omega
        · have hps2 : ¬ ((p : Nat) : Int) < (S.size : Int) := by omega
          go_wp2
          go_loop [7, 9] (fun s7 s9 => ∃ k : Nat, k ≤ F.size ∧ s7 = .int .i64 ((p + k : Nat)) ∧ s9 = .string ⟨(F.data.toList.take k).toArray⟩) (fun a _ => S.size - (RowKit.intOf a).toNat)
          case atStart => exact ⟨0, Nat.zero_le _, rfl, by simp⟩
          case round =>
            obtain ⟨k, hk, rfl, rfl⟩ := hrel
            have hDs : (⟨(F.data.toList.take k).toArray⟩ : ByteArray).size ≤ 4100 := by
              show (F.data.toList.take k).toArray.size ≤ 4100
              rw [List.size_toArray, List.length_take, toL_len]
              omega
            by_cases hkl : k < F.size
            · have hnext : ∀ X : ByteArray, X.data.toList = [F[k]] → (⟨(F.data.toList.take k).toArray⟩ : ByteArray) ++ X = ⟨(F.data.toList.take (k + 1)).toArray⟩ := fun X hX => by
                apply ByteArray.ext
                apply Array.toList_inj.1
                rw [ByteArray.data_append, Array.toList_append, hX]
                show F.data.toList.take k ++ [F[k]] = (F.data.toList.take (k + 1))
                rw [List.take_succ_eq_append_getElem (by rw [toL_len]; exact hkl)]
                rfl
              obtain ⟨D, hD⟩ : ∃ D, (⟨(F.data.toList.take k).toArray⟩ : ByteArray) = D := ⟨_, rfl⟩
              rw [hD] at hDs hnext ⊢
              clear hD
              obtain ⟨hpp, ec, e44, -⟩ := hq.out k hkl
              have hP1 : ((p + (k + 1) : Nat) : Int) = ((p + k : Nat) : Int) + 1 := by omega
              replace hP1 := hide hP1
              generalize p + k = P at *
              have hx1 := cut_one hpp
              have hci : (((S[P].toNat : Nat) : Int) == 44) = false := by rw [ec]; simp; omega
              have hcn : (((S[P].toNat : Nat) : Int) != 44) = true := by rw [ec]; simp; omega
              obtain ⟨X, hX⟩ : ∃ X, S.extract P (P + 1) = X := ⟨_, rfl⟩
              rw [hX] at hx1
              have hxs := size_of_one hx1
              have hfin := hide (hnext X (by rw [hx1, ec]))
              have zz : ¬ 9223372036854775807 < D.size + X.size := by omega
              replace hxs := hide hxs
              replace ec := hide ec
              clear hnext hx1 e44
              go_wp2
              go_round
              case rel => exact ⟨k + 1, by omega, by rw [hP1.out], by rw [← hfin.out]⟩
              case measure => simp [RowKit.intOf]; omega
            · obtain rfl : k = F.size := by omega
              have hD : (⟨(F.data.toList.take F.size).toArray⟩ : ByteArray) = F := by
                apply ByteArray.ext
                apply Array.toList_inj.1
                show F.data.toList.take F.size = F.data.toList
                exact List.take_of_length_le (by rw [toL_len]; exact Nat.le_refl _)
              rw [hD] at hDs ⊢
              clear hD
              have hend2 := hend.out
              have hst2 := hst.out
              generalize p + F.size = P at *
              have hst3 := hide hst2
              clear hst2
              by_cases hla : i + 1 = xs.length
              · have hS := hend2.1 hla
                have hls : ¬ ((i : Nat) : Int) < (xs.length : Int) - 1 := by omega
                clear hend2
                replace hla := hide hla
                go_wp2
                go_round
                case rel => exact ⟨i + 1, by go_num, by omega, by rw [hst3.out]; go_num⟩
                case measure => simp [RowKit.intOf]; omega
              · obtain ⟨hS, ec⟩ := hend2.2 (by omega)
                have hls : ((i : Nat) : Int) < (xs.length : Int) - 1 := by omega
                have h44 : (((S[P].toNat : Nat) : Int) == 44) = true := by rw [ec]; rfl
                have h44n : (((S[P].toNat : Nat) : Int) != 44) = false := by rw [ec]; rfl
                clear hend2
                replace ec := hide ec
                go_wp2
                go_round
                case rel => exact ⟨i + 1, by go_num, by omega, by rw [hst3.out]; go_num⟩
                case measure => simp [RowKit.intOf]; omega
    · obtain rfl : i = xs.length := by omega
      obtain ⟨y, hy⟩ : ∃ y, xs[xs.length - 1]? = some y := ⟨_, List.getElem?_eq_getElem (by omega)⟩
      have h1 := st_next hy
      have h2 := (hq1.out _ y hy).1 (by omega)
      rw [show xs.length - 1 + 1 = xs.length by omega] at h1
      obtain ⟨p, hp⟩ : ∃ p, p = st xs xs.length := ⟨_, rfl⟩
      have hpS : p = S.size + 1 := by omega
      rw [← hp]
      replace hp := hide hp
      subst hpS
      clear h1 h2
      go_wp2
      go_ret
      exact ⟨rfl, b04.out⟩
end Go.Proofs.YtbnbemacljjimaaGreatDoor
