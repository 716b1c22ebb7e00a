/- Keys and values of an object without short forms (printed by mknqf.py). -/
import Derived.Test.YtbnbemacljjimaaGreatDoorJc27
namespace Go.Proofs.YtbnbemacljjimaaGreatDoor
open Go.RowKit Go.Lib
set_option linter.unusedVariables false

theorem nv_all : ∀ (n : Nat) (v : JV), Good n v → NvSays n v
  | 0, v, h => h.elim
  | n + 1, v, h => by
    have h1 := h.2.2.2.2.2.2.2.2.2.2.2.1
    have h2 := h.2.2.2.2.2.2.2.2.2.2.2.2.2.2
    by_cases hk : v.kind = 3 ∧ v.half < 0
    · exact nv_neg h hk.1 hk.2
    · by_cases h5 : v.kind = 5
      · cases hl : v.list with
        | nil => exact nv_none h5 hl
        | cons a l => exact nv_list (m := l.length) (fun x hx => nv_all n x (h1 x hx)) h5 (by rw [hl]; rfl)
      · by_cases h6 : v.kind = 6
        · exact nv_map (N := v.vals.length) (fun x hx => nv_all n x (h2 x hx)) h6 h.2.2.2.2.2.1 rfl h.2.2.2.2.2.2.2.2.2.2.1
        · exact nv_val h hk h5 h6

def opText : ByteArray := ⟨#[116, 101, 120, 116]⟩
def opNone : ByteArray := ⟨#[110, 111, 110, 101]⟩

/-- Two new blocks that are filled with two rows. -/
structure DbW (W : World) (y0 y1 : List Value) (listed : Array Bool) (w : World) (s5 s6 : Value) : Prop where
  onl : Only (fun _ => False) W w
  e1 : Up listed 11 → Up listed 9
  e2 : Up listed 12 → Up listed 10
  f9 : Up listed 9 → ∃ K cs, s5 = .pointer (some ⟨K, 0, none⟩) ∧ W.heap.size ≤ K ∧ Blk w K 41 cs ∧ cs.size = 12 ∧ (Up listed 11 → cs = y0.toArray)
  f10 : Up listed 10 → ∃ K cs, s6 = .pointer (some ⟨K, 0, none⟩) ∧ W.heap.size ≤ K ∧ Blk w K 41 cs ∧ cs.size = 12 ∧ (Up listed 12 → cs = y1.toArray)
  ne : Up listed 9 → Up listed 10 → s5 ≠ s6
section
variable {W : World} {y0 y1 : List Value} {listed : Array Bool} {w : World} {s5 s6 : Value}
theorem DbW.put (H : DbW W y0 y1 listed w s5 s6) (i : Nat) (h9 : (i == 9) = false) (h10 : (i == 10) = false) (h11 : (i == 11) = false) (h12 : (i == 12) = false) : DbW W y0 y1 (listed.setIfInBounds i true) w s5 s6 :=
  ⟨H.onl, fun h => Up.more (H.e1 (Up.ne_put h11 h)), fun h => Up.more (H.e2 (Up.ne_put h12 h)), fun h => by
      obtain ⟨K, cs, a, b, c, d, e⟩ := H.f9 (Up.ne_put h9 h)
      exact ⟨K, cs, a, b, c, d, fun k => e (Up.ne_put h11 k)⟩, fun h => by
      obtain ⟨K, cs, a, b, c, d, e⟩ := H.f10 (Up.ne_put h10 h)
      exact ⟨K, cs, a, b, c, d, fun k => e (Up.ne_put h12 k)⟩, fun h k => H.ne (Up.ne_put h9 h) (Up.ne_put h10 k)⟩
theorem DbW.c9 (H : DbW W y0 y1 listed w s5 s6) (hun : listed.getD 9 true = false) : DbW W y0 y1 (listed.setIfInBounds 9 true) (w.alloc (.cells zC 41)) (.pointer (some ⟨w.heap.size, 0, none⟩)) s6 := by
  have n9 := Up.no hun
  have n11 : ¬ Up listed 11 := fun h => n9 (H.e1 h)
  have ho : Only (fun _ => False) w (w.alloc (.cells zC 41)) := (Only.refl _ w).alloc _
  refine ⟨H.onl.trans ho, fun h => absurd (Up.ne_put rfl h) n11, fun h => Up.more (H.e2 (Up.ne_put rfl h)), fun _ => ⟨_, zC, rfl, H.onl.size, Blk.new w _ _, rfl, fun h => absurd (Up.ne_put rfl h) n11⟩, fun h => ?_, fun _ h => ?_⟩
  · obtain ⟨K, cs, a, b, c, d, e⟩ := H.f10 (Up.ne_put rfl h)
    exact ⟨K, cs, a, b, ho.blk c (fun h => h), d, fun k => e (Up.ne_put rfl k)⟩
  · obtain ⟨K, cs, a, b, c, -⟩ := H.f10 (Up.ne_put rfl h)
    rw [a]
    have := c.lt
    intro e
    injection e with e
    injection e with e
    injection e with e
    omega
theorem DbW.c10 (H : DbW W y0 y1 listed w s5 s6) (hun : listed.getD 10 true = false) : DbW W y0 y1 (listed.setIfInBounds 10 true) (w.alloc (.cells zC 41)) s5 (.pointer (some ⟨w.heap.size, 0, none⟩)) := by
  have n10 := Up.no hun
  have n12 : ¬ Up listed 12 := fun h => n10 (H.e2 h)
  have ho : Only (fun _ => False) w (w.alloc (.cells zC 41)) := (Only.refl _ w).alloc _
  refine ⟨H.onl.trans ho, fun h => Up.more (H.e1 (Up.ne_put rfl h)), fun h => absurd (Up.ne_put rfl h) n12, fun h => ?_, fun _ => ⟨_, zC, rfl, H.onl.size, Blk.new w _ _, rfl, fun h => absurd (Up.ne_put rfl h) n12⟩, fun h _ => ?_⟩
  · obtain ⟨K, cs, a, b, c, d, e⟩ := H.f9 (Up.ne_put rfl h)
    exact ⟨K, cs, a, b, ho.blk c (fun h => h), d, fun k => e (Up.ne_put rfl k)⟩
  · obtain ⟨K, cs, a, b, c, -⟩ := H.f9 (Up.ne_put rfl h)
    rw [a]
    have := c.lt
    intro e
    injection e with e
    injection e with e
    injection e with e
    omega
theorem DbW.c11 {K : Nat} (H : DbW W y0 y1 listed w (.pointer (some ⟨K, 0, none⟩)) s6) (hun : listed.getD 11 true = false) (u9 : Up listed 9) (hs : y0.toArray.size = 12) {w2 : World} (ho : Only (· = K) w w2) (hk : Blk w2 K 41 y0.toArray) : DbW W y0 y1 (listed.setIfInBounds 11 true) w2 (.pointer (some ⟨K, 0, none⟩)) s6 := by
  have hK : W.heap.size ≤ K := by
    obtain ⟨K', cs, a, b, -⟩ := H.f9 u9
    cases a
    exact b
  refine ⟨H.onl.fresh (ho.mono (fun k h => by have h' : k = K := h; show W.heap.size ≤ k; omega)), fun _ => Up.more u9, fun h => Up.more (H.e2 (Up.ne_put rfl h)), fun _ => ⟨K, _, rfl, hK, hk, hs, fun _ => rfl⟩, fun h => ?_, fun h k => H.ne u9 (Up.ne_put rfl k)⟩
  obtain ⟨K', cs, a, b, c, d, e⟩ := H.f10 (Up.ne_put rfl h)
  refine ⟨K', cs, a, b, ho.blk c (fun h' => ?_), d, fun k => e (Up.ne_put rfl k)⟩
  have hn := H.ne u9 (Up.ne_put rfl h)
  rw [a] at hn
  have h'' : K' = K := h'
  rw [h''] at hn
  exact hn rfl
theorem DbW.c12 {K : Nat} (H : DbW W y0 y1 listed w s5 (.pointer (some ⟨K, 0, none⟩))) (hun : listed.getD 12 true = false) (u10 : Up listed 10) (hs : y1.toArray.size = 12) {w2 : World} (ho : Only (· = K) w w2) (hk : Blk w2 K 41 y1.toArray) : DbW W y0 y1 (listed.setIfInBounds 12 true) w2 s5 (.pointer (some ⟨K, 0, none⟩)) := by
  have hK : W.heap.size ≤ K := by
    obtain ⟨K', cs, a, b, -⟩ := H.f10 u10
    cases a
    exact b
  refine ⟨H.onl.fresh (ho.mono (fun k h => by have h' : k = K := h; show W.heap.size ≤ k; omega)), fun h => Up.more (H.e1 (Up.ne_put rfl h)), fun _ => Up.more u10, fun h => ?_, fun _ => ⟨K, _, rfl, hK, hk, hs, fun _ => rfl⟩, fun h k => H.ne (Up.ne_put rfl h) u10⟩
  obtain ⟨K', cs, a, b, c, d, e⟩ := H.f9 (Up.ne_put rfl h)
  refine ⟨K', cs, a, b, ho.blk c (fun h' => ?_), d, fun k => e (Up.ne_put rfl k)⟩
  have hn := H.ne (Up.ne_put rfl h) u10
  rw [a] at hn
  have h'' : K' = K := h'
  rw [h''] at hn
  exact hn rfl
end

/-- A row of queries of its own, whose queries' rows lie among P. -/
def RwAt (w : World) (Z : Nat) (P : Nat → Prop) (A : Option Addr) (c : Nat) (l : List QV) : Prop := ∃ xs, w.ownsRow Z 41 12 (.slice A l.length c) l.length xs ∧ QRow w P xs l
theorem two_take {qs : List QV} {j : Nat} {a b : QV} (h1 : qs[2 * j]? = some a) (h2 : qs[2 * j + 1]? = some b) : qs.take (2 * (j + 1)) = qs.take (2 * j) ++ [a, b] := by
  rw [show 2 * (j + 1) = 2 * j + 1 + 1 by omega, List.take_add_one, List.take_add_one, h1, h2]
  simp

set_option maxHeartbeats 16000000 in
set_option maxRecDepth 100000 in
theorem full_any {qs : List QV} {M : Nat} (hM : qs.length = 2 * M) (hlen : qs.length ≤ 1000000) (hop : ∀ q ∈ qs, ¬ q.op = opText ∧ ¬ q.op = opNone) (w : World) (P : Nat → Prop) (hP : ∀ b, P b → b < w.heap.size) (A0 : Option Addr) (c0 : Nat) (hc0 : qs.length ≤ c0) (hcm : c0 ≤ 9223372036854775807) (hv : VecQ w P A0 qs) :
    Calls Tryz.prog 34 #[.slice A0 qs.length c0] w fun e w' => ∃ A c, e = .returned (.slice A qs.length c) ∧ RwAt w' w.heap.size P A c qs ∧ Below w.heap.size w w' := by
  obtain ⟨i0, hi0, hz0, hz1, hz2⟩ := info_parts Tryz.infoQ
  obtain ⟨N, hN⟩ : ∃ N, qs.length = N := ⟨_, rfl⟩
  rw [hN] at hM hlen hc0 ⊢
  replace hv := hide hv
  replace hP := hide hP
  replace hop := hide hop
  replace hN := hide hN
  replace hi0 := hide hi0
  replace hz0 := hide hz0
  replace hz1 := hide hz1
  replace hz2 := hide hz2
  go_enter Tryz.func34, Tryz.ntmps34
  go_wp2_with fail
  go_loopw [3, 4] (fun s3 s4 wr => ∃ (j : Nat) (A : Option Addr) (c : Nat) (xs : List Value), s3 = .slice A (2 * j) c ∧ s4 = .int .i64 ((2 * j : Nat) : Int) ∧ 2 * j ≤ N ∧ wr.ownsRow w.heap.size 41 12 (.slice A (2 * j) c) (2 * j) xs ∧ QRow wr P xs (qs.take (2 * j)) ∧ Only (fun _ => False) w wr) (fun _ i _ => N - (Lib.intOf i).toNat)
  case atStart => exact ⟨0, none, 0, [], rfl, rfl, Nat.zero_le _, World.ownsRow_nil _ _ _ _, rfl, Only.refl _ _⟩
  case round =>
    obtain ⟨j, A, c, xs, rfl, rfl, hj, hown, hrow, ho⟩ := hrel
    have hwr : w.heap.size ≤ wr.heap.size := ho.size
    by_cases hjN : 2 * j < N
    · obtain ⟨b0, p0, rfl, hb0, hb0w, hvr⟩ := hv.out (by rw [hN.out]; omega)
      obtain ⟨qa, hqa⟩ : ∃ q, qs[2 * j]? = some q := ⟨_, List.getElem?_eq_getElem (by rw [hN.out]; omega)⟩
      obtain ⟨qb, hqb⟩ : ∃ q, qs[2 * j + 1]? = some q := ⟨_, List.getElem?_eq_getElem (by rw [hN.out]; omega)⟩
      obtain ⟨y0, hy0, hcy0⟩ := hvr _ qa hqa
      obtain ⟨y1, hy1, hcy1⟩ := hvr _ qb hqb
      have hoa := hop.out qa (List.mem_of_getElem? hqa)
      have hob := hop.out qb (List.mem_of_getElem? hqb)
      obtain ⟨J, hJ⟩ : ∃ J, 2 * j = J := ⟨_, rfl⟩
      have hJ1 : J + 1 < N := by omega
      have htk := hide (two_take hqa hqb)
      rw [hJ] at hown hrow hcy0 hcy1 hj hjN ⊢
      replace hqa := hide hqa
      replace hqb := hide hqb
      replace hcy0 := hide hcy0
      replace hcy1 := hide hcy1
      have hp0 : y0.toArray[0]? = some (.string qa.op) := by obtain ⟨_, _, _, _, _, _, _, _, e, -⟩ := hy0.parts; rw [e]; rfl
      have hp1 : y1.toArray[0]? = some (.string qb.op) := by obtain ⟨_, _, _, _, _, _, _, _, e, -⟩ := hy1.parts; rw [e]; rfl
      replace hp0 := hide hp0
      replace hp1 := hide hp1
      have hs0 := hide hy0.sz
      have hs1 := hide hy1.sz
      have ha0 := hide hy0.all
      have ha1 := hide hy1.all
      replace hy0 := hide hy0
      replace hy1 := hide hy1
      have hba := ba_ne hoa.1
      have hbb := ba_ne hob.2
      rw [show opText.toList = [116, 101, 120, 116] from Lib.toList_data _] at hba
      rw [show opNone.toList = [110, 111, 110, 101] from Lib.toList_data _] at hbb
      replace hoa := hide hoa
      replace hob := hide hob
      replace hown := hide hown
      replace hrow := hide hrow
      replace ho := hide ho
      replace hJ := hide hJ
      have hdec : decide ((J : Int) + 1 < (N : Int)) = true := decide_eq_true (by omega)
      replace hM := hide hM
      clear hvr
      go_upto_region 5 with fail
      refine wp_region_inv (by kernel_rfl) (fun listed a w' => ∃ (s14 s15 s16 s17 s18 s19 s20 s21 s22 s5 s6 : Value), a = ⟨#[.slice (some ⟨b0, p0, none⟩) N c0, undef, .slice none 0 0, .slice A J c, .int .i64 ↑J, s5, s6, .int .i64 ↑J, .int .i64 (↑J + 1), .slice (some ⟨b0, p0, none⟩) N c0, .int .i64 ↑N, .bool true, u12, u13, s14, s15, s16, s17, s18, s19, s20, s21, s22, u23, u24, u25, u26, u27, u28, u29, u30, u31, u32, u33, u34, u35, u36, u37, u38, u39, u40, u41, u42, u43, u44, u45, u46, u47, u48, u49, u50, u51, u52, u53, u54, u55, u56, u57, u58, u59, u60, u61, u62, undef], []⟩ ∧ listed.size = 13 ∧ Lv listed [s14, s15, s16, s17, s18, s19, s20, s21, s22, .bool true, .bool true, .bool true, .bool true] [.slice (some ⟨b0, p0, none⟩) N c0, .int .i64 ↑J, .pointer (some ⟨b0, p0 + J * 12, none⟩), .agg y0.toArray, .slice (some ⟨b0, p0, none⟩) N c0, .int .i64 ↑J, .int .i64 (↑J + 1), .pointer (some ⟨b0, p0 + (J + 1) * 12, none⟩), .agg y1.toArray, .bool true, .bool true, .bool true, .bool true] ∧ DbW wr y0 y1 listed w' s5 s6) ?start ?step ?stop
      case start => exact ⟨_, _, _, _, _, _, _, _, _, _, _, rfl, rfl, Lv.start, ⟨(Only.refl _ wr).drew, fun h => (Up.start h).elim, fun h => (Up.start h).elim, fun h => (Up.start h).elim, fun h => (Up.start h).elim, fun h => (Up.start h).elim⟩⟩
      case step =>
        rintro listed a w' i ⟨s14, s15, s16, s17, s18, s19, s20, s21, s22, s5, s6, rfl, hsz, HL, H⟩ hi
        have hun := Up.un hi
        have hltn : i < 13 := by
          obtain ⟨-, o, ho, -⟩ := mem_ready.1 hi
          rcases Nat.lt_or_ge i 13 with h | h
          · exact h
          · rw [Array.getElem?_eq_none (by exact h)] at ho
            cases ho
        have hsz2 : ∀ i, (listed.setIfInBounds i true).size = 13 := fun i => by rw [Array.size_setIfInBounds]; exact hsz
        replace hsz2 := hide hsz2
        have hin : i = 0 ∨ i = 1 ∨ i = 2 ∨ i = 3 ∨ i = 4 ∨ i = 5 ∨ i = 6 ∨ i = 7 ∨ i = 8 ∨ i = 9 ∨ i = 10 ∨ i = 11 ∨ i = 12 := by omega
        clear hltn
        rcases hin with rfl | rfl | rfl | rfl | rfl | rfl | rfl | rfl | rfl | rfl | rfl | rfl | rfl
        · replace H := hide H
          replace HL := hide HL
          replace hi := hide hi
          replace hun := hide hun
          replace hsz := hide hsz
          refine wpOp_of_list rfl ?_
          go_wp2_with fail
          exact Then.normal ⟨_, _, _, _, _, _, _, _, _, _, _, rfl, (by first | exact hsz2.out _ | exact hsz.out), HL.out.put 0 rfl, H.out.put 0 rfl rfl rfl rfl⟩
        · replace H := hide H
          replace HL := hide HL
          replace hi := hide hi
          replace hun := hide hun
          replace hsz := hide hsz
          refine wpOp_of_list rfl ?_
          go_wp2_with fail
          exact Then.normal ⟨_, _, _, _, _, _, _, _, _, _, _, rfl, (by first | exact hsz2.out _ | exact hsz.out), HL.out.put 1 rfl, H.out.put 1 rfl rfl rfl rfl⟩
        · obtain rfl := HL.get 0 rfl rfl (Up.waits hi 0 (by kernel_rfl))
          obtain rfl := HL.get 1 rfl rfl (Up.waits hi 1 (by kernel_rfl))
          replace H := hide H
          replace HL := hide HL
          replace hi := hide hi
          replace hun := hide hun
          replace hsz := hide hsz
          refine wpOp_of_list rfl ?_
          go_wp2_with fail
          exact Then.normal ⟨_, _, _, _, _, _, _, _, _, _, _, rfl, (by first | exact hsz2.out _ | exact hsz.out), HL.out.put 2 rfl, H.out.put 2 rfl rfl rfl rfl⟩
        · obtain rfl := HL.get 2 rfl rfl (Up.waits hi 2 (by kernel_rfl))
          have hcl : ∀ j' z, y0[j']? = some z → w'.cell? ((⟨b0, p0 + J * 12, none⟩ : Addr).add j') = some z := fun j' z hz => by rw [add_flat, only_cell (ho.out.trans H.onl) (⟨b0, p0 + J * 12 + j', none⟩ : Addr) (fun h => h) hb0w]; exact hcy0.out j' z hz
          replace hcl := hide hcl
          replace H := hide H
          replace HL := hide HL
          replace hi := hide hi
          replace hun := hide hun
          replace hsz := hide hsz
          refine wpOp_of_list rfl ?_
          go_wp2_with (refine wpList_load_at rfl _ _ rfl ⟨b0, p0 + J * 12, none⟩ rfl y0 _ hcl.out Tryz.underlying41 rfl (by have := hs0.out; rw [List.size_toArray] at this; rw [this]; exact q_size) ?_)
          exact Then.normal ⟨_, _, _, _, _, _, _, _, _, _, _, rfl, (by first | exact hsz2.out _ | exact hsz.out), HL.out.put 3 rfl, H.out.put 3 rfl rfl rfl rfl⟩
        · replace H := hide H
          replace HL := hide HL
          replace hi := hide hi
          replace hun := hide hun
          replace hsz := hide hsz
          refine wpOp_of_list rfl ?_
          go_wp2_with fail
          exact Then.normal ⟨_, _, _, _, _, _, _, _, _, _, _, rfl, (by first | exact hsz2.out _ | exact hsz.out), HL.out.put 4 rfl, H.out.put 4 rfl rfl rfl rfl⟩
        · replace H := hide H
          replace HL := hide HL
          replace hi := hide hi
          replace hun := hide hun
          replace hsz := hide hsz
          refine wpOp_of_list rfl ?_
          go_wp2_with fail
          exact Then.normal ⟨_, _, _, _, _, _, _, _, _, _, _, rfl, (by first | exact hsz2.out _ | exact hsz.out), HL.out.put 5 rfl, H.out.put 5 rfl rfl rfl rfl⟩
        · obtain rfl := HL.get 5 rfl rfl (Up.waits hi 5 (by kernel_rfl))
          replace H := hide H
          replace HL := hide HL
          replace hi := hide hi
          replace hun := hide hun
          replace hsz := hide hsz
          refine wpOp_of_list rfl ?_
          go_wp2_with fail
          exact Then.normal ⟨_, _, _, _, _, _, _, _, _, _, _, rfl, (by first | exact hsz2.out _ | exact hsz.out), HL.out.put 6 rfl, H.out.put 6 rfl rfl rfl rfl⟩
        · obtain rfl := HL.get 4 rfl rfl (Up.waits hi 4 (by kernel_rfl))
          obtain rfl := HL.get 6 rfl rfl (Up.waits hi 6 (by kernel_rfl))
          replace H := hide H
          replace HL := hide HL
          replace hi := hide hi
          replace hun := hide hun
          replace hsz := hide hsz
          refine wpOp_of_list rfl ?_
          go_wp2_with fail
          exact Then.normal ⟨_, _, _, _, _, _, _, _, _, _, _, rfl, (by first | exact hsz2.out _ | exact hsz.out), HL.out.put 7 rfl, H.out.put 7 rfl rfl rfl rfl⟩
        · obtain rfl := HL.get 7 rfl rfl (Up.waits hi 7 (by kernel_rfl))
          have hcl : ∀ j' z, y1[j']? = some z → w'.cell? ((⟨b0, p0 + (J + 1) * 12, none⟩ : Addr).add j') = some z := fun j' z hz => by rw [add_flat, only_cell (ho.out.trans H.onl) (⟨b0, p0 + (J + 1) * 12 + j', none⟩ : Addr) (fun h => h) hb0w]; exact hcy1.out j' z hz
          replace hcl := hide hcl
          replace H := hide H
          replace HL := hide HL
          replace hi := hide hi
          replace hun := hide hun
          replace hsz := hide hsz
          refine wpOp_of_list rfl ?_
          go_wp2_with (refine wpList_load_at rfl _ _ rfl ⟨b0, p0 + (J + 1) * 12, none⟩ rfl y1 _ hcl.out Tryz.underlying41 rfl (by have := hs1.out; rw [List.size_toArray] at this; rw [this]; exact q_size) ?_)
          exact Then.normal ⟨_, _, _, _, _, _, _, _, _, _, _, rfl, (by first | exact hsz2.out _ | exact hsz.out), HL.out.put 8 rfl, H.out.put 8 rfl rfl rfl rfl⟩
        · replace H := hide H
          replace HL := hide HL
          replace hi := hide hi
          replace hun := hide hun
          replace hsz := hide hsz
          refine wpOp_of_list rfl ?_
          go_wp2_with fail
          exact Then.normal ⟨_, _, _, _, _, _, _, _, _, _, _, rfl, (by first | exact hsz2.out _ | exact hsz.out), HL.out.put 9 rfl, H.out.c9 hun.out⟩
        · replace H := hide H
          replace HL := hide HL
          replace hi := hide hi
          replace hun := hide hun
          replace hsz := hide hsz
          refine wpOp_of_list rfl ?_
          go_wp2_with fail
          exact Then.normal ⟨_, _, _, _, _, _, _, _, _, _, _, rfl, (by first | exact hsz2.out _ | exact hsz.out), HL.out.put 10 rfl, H.out.c10 hun.out⟩
        · obtain rfl := HL.get 3 rfl rfl (Up.waits hi 3 (by kernel_rfl))
          have u9 := hide (Up.waits hi 9 (by kernel_rfl))
          obtain ⟨K, cs, rfl, -, kc, kcs, -⟩ := H.f9 u9.out
          replace kc := hide kc
          replace kcs := hide kcs
          replace H := hide H
          replace HL := hide HL
          replace hi := hide hi
          replace hun := hide hun
          replace hsz := hide hsz
          refine wpOp_of_list rfl ?_
          go_wp2_with (refine wpList_store_blk rfl _ _ _ rfl K y0.toArray rfl rfl 41 _ kc.out (by rw [hs0.out]; exact q_size) (by rw [hs0.out, kcs.out]) ha0.out ?_; intro W5 k5 o5 s5x)
          exact Then.normal ⟨_, _, _, _, _, _, _, _, _, _, _, rfl, (by first | exact hsz2.out _ | exact hsz.out), HL.out.put 11 rfl, H.out.c11 hun.out u9.out hs0.out o5 k5⟩
        · obtain rfl := HL.get 8 rfl rfl (Up.waits hi 8 (by kernel_rfl))
          have u10 := hide (Up.waits hi 10 (by kernel_rfl))
          obtain ⟨K, cs, rfl, -, kc, kcs, -⟩ := H.f10 u10.out
          replace kc := hide kc
          replace kcs := hide kcs
          replace H := hide H
          replace HL := hide HL
          replace hi := hide hi
          replace hun := hide hun
          replace hsz := hide hsz
          refine wpOp_of_list rfl ?_
          go_wp2_with (refine wpList_store_blk rfl _ _ _ rfl K y1.toArray rfl rfl 41 _ kc.out (by rw [hs1.out]; exact q_size) (by rw [hs1.out, kcs.out]) ha1.out ?_; intro W5 k5 o5 s5x)
          exact Then.normal ⟨_, _, _, _, _, _, _, _, _, _, _, rfl, (by first | exact hsz2.out _ | exact hsz.out), HL.out.put 12 rfl, H.out.c12 hun.out u10.out hs1.out o5 k5⟩
      case stop =>
        rintro listed a w' ⟨s14, s15, s16, s17, s18, s19, s20, s21, s22, s5, s6, rfl, hsz, HL, H⟩ hi
        have hall := Up.all hsz (by kernel_rfl) hi
        obtain ⟨K, csk, rfl, hK, bK, -, eK⟩ := H.f9 (hall 9 (by decide))
        obtain rfl := eK (hall 11 (by decide))
        obtain ⟨L, csl, rfl, hL, bL, -, eL⟩ := H.f10 (hall 10 (by decide))
        obtain rfl := eL (hall 12 (by decide))
        have ho5 := H.onl
        clear H HL hall hi eK eL
        have q0 := (bK.cell 0).trans hp0.out
        have q1 := (bL.cell 0).trans hp1.out
        have hown5 := hide (ho5.own hown.out (fun _ _ h => h))
        have hrow5 := hide (hrow.out.only ho5 (fun _ _ _ h => h) (P' := P) (fun b _ h => h))
        have hPb : ∀ b, P b → b < wr.heap.size := fun b hb => by have := hP.out b hb; omega
        have hQP : ∀ (z : List Value) (q : QV), QAt w P z q → QAt w' P z q := fun z q h => h.only (ho.out.trans ho5) (fun _ _ _ h => h) (fun b _ h => h)
        have hr2 := (QRow.one (hQP _ _ hy0.out)).append (QRow.one (hQP _ _ hy1.out))
        replace hr2 := hide hr2
        have hw5 := ho5.size
        replace hQP := hide hQP
        replace hPb := hide hPb
        replace bK := hide bK
        replace bL := hide bL
        replace ho5 := hide ho5
        have hbs : ∀ W6 : World, Blk W6 w'.heap.size 41 (y0 ++ y1).toArray → Only (fun _ => False) w' W6 → W6.heap.size = w'.heap.size + 1 → Hid (W6.ownsRow w.heap.size 41 12 (.slice A J c) J xs) ∧ Hid (QRow W6 P xs (qs.take J)) ∧ Hid (QRow W6 P (y0 ++ y1) ([qa] ++ [qb])) ∧ Hid (∀ j' u, (y0 ++ y1)[j']? = some u → W6.cell? ((⟨w'.heap.size, 0, none⟩ : Addr).add j') = some u) ∧ w.heap.size ≤ W6.heap.size := by
          intro W6 k6 o6 s6
          refine ⟨hide (o6.own hown5.out (fun _ _ h => h)), hide (hrow5.out.only o6 (fun _ _ _ h => h) (P' := P) (fun b _ h => h)), hide (hr2.out.only o6 (fun _ _ _ h => h) (P' := P) (fun b _ h => h)), hide (fun j' u hu => ?_), by omega⟩
          rw [add_flat, Nat.zero_add, k6.cell]
          simpa using hu
        replace hbs := hide hbs
        go_wp2_with (first
          | (refine wpList_load_row rfl _ _ rfl K rfl 41 y0.toArray (0, 0) _ bK.out Tryz.underlying41 rfl (by rw [hs0.out]; exact q_size) ?_)
          | (refine wpList_load_row rfl _ _ rfl L rfl 41 y1.toArray (0, 0) _ bL.out Tryz.underlying41 rfl (by rw [hs1.out]; exact q_size) ?_)
          | (refine wpList_bs2 rfl _ _ rfl y0 y1 rfl rfl hs0.out hs1.out ?_; intro W6 k6 o6 s6; obtain ⟨hown6, hr6, hr26, hyc, hZw⟩ := hbs.out W6 k6 o6 s6; have hyl := hide hr26.out.length; have hyo := hide hr26.out.ones; replace o6 := hide o6; replace k6 := hide k6; replace s6 := hide s6)
          | (refine wpList_append_fresh rfl _ _ 37 rfl w.heap.size 41 i0 (.agg zC) 12 232 Tryz.underlying37 hi0.out hz0.out hz1.out hz2.out rfl (by decide) (.slice A J c) J xs rfl hown6.out ⟨w'.heap.size, 0, none⟩ 2 2 (y0 ++ y1) rfl hyl.out (by decide) hyc.out hyo.out (by unfold maxLen; omega) (by omega) hZw ?_; intro v7 W7 own7 g7 f7; obtain ⟨A', c', rfl, -, -⟩ := own_sl own7; replace own7 := hide own7; replace g7 := hide g7; replace f7 := hide f7))
        have hJ' := hJ.out
        subst hJ'
        have ho7 : Only (fun k => w.heap.size ≤ k) W6 W7 := (Only.refl _ W6).grown g7.out (fun k hk => Or.inl (own_ge hown6.out hk).1)
        have hrow7 := (hr6.out.append hr26.out).only ho7 (fun b hb _ h => by have := hP.out b hb; have h' : w.heap.size ≤ b := h; omega) (P' := P) (fun b _ h => h)
        refine ⟨⟨j + 1, A', c', xs ++ (y0 ++ y1), rfl, by go_num, by omega, own7.out, by rw [htk.out]; exact hrow7, ((ho.out.trans ho5.out).trans o6.out).fresh ho7⟩, ?_⟩
        simp [Lib.intOf]
        omega
    · have hjN' : 2 * j = N := by omega
      have htk : qs.take N = qs := List.take_of_length_le (by rw [hN.out]; exact Nat.le_refl _)
      rw [hjN'] at hown hrow ⊢
      rw [htk] at hrow
      have hfin : RwAt wr w.heap.size P A c qs := ⟨xs, by rw [hN.out]; exact hown, hrow⟩
      replace hfin := hide hfin
      replace hown := hide hown
      replace hrow := hide hrow
      have hbl := hide (ho.below (B := w.heap.size) (by intro k hk; exact hk.elim) (Nat.le_refl _))
      replace ho := hide ho
      go_wp2_with fail
      go_ret
      exact ⟨A, c, rfl, hfin.out, hbl.out⟩
end Go.Proofs.YtbnbemacljjimaaGreatDoor

namespace Go.Proofs.YtbnbemacljjimaaGreatDoor
open Go.RowKit Go.Lib
set_option linter.unusedVariables false

/-- Normal gives this query. -/
def NmSays (q q' : QV) : Prop := ∀ (w : World) (x : List Value), QAt w (· < w.heap.size) x q → Calls Tryz.prog 13 #[.agg x.toArray] w (NewQ w q')

set_option maxHeartbeats 4000000 in
set_option maxRecDepth 100000 in
theorem normal_val {n : Nat} {v : JV} (h : NvSays (n + 1) v) (w : World) (B : Nat) (c0 c1 c2 c3 c4 c5 : Value) (A : Option Addr) (k c : Nat) (hB : B ≤ w.heap.size) (hj : JAt w B (n + 1) (.agg #[c0, c1, c2, c3, c4, c5]) v) :
    Calls Tryz.prog 13 #[.agg #[.string opVal, .string ⟨#[]⟩, c0, c1, c2, c3, c4, c5, .slice A k c, .slice none 0 0, .slice none 0 0, .slice none 0 0]] w (NewQ w (nq (n + 1) v)) := by
  have hj' := hj
  obtain ⟨la, lc, ka, kc, va, vc, e, -⟩ := hj'
  injection e with e
  injection e with e
  injection e with e0 e
  injection e with e1 e
  injection e with e2 e
  injection e with e3 e
  injection e with e4 e
  injection e with e5 e
  subst e0
  subst e1
  subst e2
  subst e3
  subst e4
  subst e5
  replace hj := hide hj
  replace h := hide h
  obtain ⟨W0, hW0⟩ : ∃ W0, W0 = (w.alloc (.cells #[.string opVal, .string ⟨#[]⟩, .int .i64 v.kind, .int .i64 v.half, .string v.text, .slice la v.list.length lc, .slice ka v.keys.length kc, .slice va v.vals.length vc, .slice A k c, .slice none 0 0, .slice none 0 0, .slice none 0 0] 41)).alloc (.cells zC 41) := ⟨_, rfl⟩
  have o0 : Only (fun _ => False) w W0 := by rw [hW0]; exact ((Only.refl _ w).alloc _).alloc _
  have k0 : Blk W0 (w.heap.size + 1) 41 zC := by rw [hW0]; exact Blk.new2 w _ _ _
  have z0 : Blk W0 w.heap.size 41 #[.string opVal, .string ⟨#[]⟩, .int .i64 v.kind, .int .i64 v.half, .string v.text, .slice la v.list.length lc, .slice ka v.keys.length kc, .slice va v.vals.length vc, .slice A k c, .slice none 0 0, .slice none 0 0, .slice none 0 0] := by rw [hW0]; exact (Blk.new w _ _).alloc _
  have q0 := z0.cell 0
  have q2 := z0.cell 2
  have q3 := z0.cell 3
  have q4 := z0.cell 4
  have q5 := z0.cell 5
  have q6 := z0.cell 6
  have q7 := z0.cell 7
  simp at q0 q2 q3 q4 q5 q6 q7
  unfold opVal at q0
  have hj0 := hide (JAt.keep (B := B) (w' := W0) (fun p hp => only_cell o0 p (fun h => h) (by omega)) (Nat.le_refl _) (n + 1) _ _ hj.out)
  have hBW : B ≤ W0.heap.size := by have := o0.size; omega
  replace z0 := hide z0
  replace o0 := hide o0
  replace k0 := hide k0
  unfold opVal zC at hW0
  unfold opVal
  go_enter Tryz.func13, Tryz.ntmps13
  go_upto_region 1 with fail
  rw [← hW0]
  clear hW0
  go_wp2_with (first
    | (go_at_call 30; refine (h.out W0 B _ hBW hj0.out).mono ?_; rintro e W1 ⟨y, rfl, hy, b1⟩; have o1 := hide (only_below b1); have k1 := hide (o1.out.blk k0.out (fun h => h)); have hys := hide hy.sz; have hya := hide hy.all; replace hy := hide hy; clear b1)
    | (refine wpList_store_blk rfl _ _ _ rfl (w.heap.size + 1) y.toArray rfl rfl 41 _ k1.out (by rw [hys.out]; exact q_size) (by rw [hys.out]; rfl) hya.out ?_; intro W2 k2 o2 s2; replace k2 := hide k2; replace o2 := hide o2; clear s2))
  (try simp only [Exit.inBlock, Exit.then])
  have hs0 : w.heap.size + 1 < W0.heap.size := k0.out.lt
  refine ret_q Tryz.results13 (w.heap.size + 1) y.toArray rfl rfl k2.out hys.out ⟨y, rfl, ?_, ?_⟩
  · exact hy.out.only o2.out (fun b h1 _ e => by have h1' : W0.heap.size ≤ b := h1; have e' : b = w.heap.size + 1 := e; omega) (fun b _ h => by have h1' : W0.heap.size ≤ b := h; show w.heap.size ≤ b; omega)
  · exact ((o0.out.trans o1.out).no.trans o2.out).below (by intro k hk; omega) (Nat.le_refl _)

theorem nm_val {v : JV} (h : ∃ n, NvSays (n + 1) v ∧ nq (n + 1) v = valQ v) : NmSays (valQ v) (valQ v) := by
  intro w x hx
  obtain ⟨n, h1, h2⟩ := h
  obtain ⟨la, lc, ka, kc, va, vc, A, c, rfl, hcl, -⟩ := hx.parts
  have hr := normal_val h1 w 0 _ _ _ _ _ _ A (valQ v).kids.length c (Nat.zero_le _) (Cln.at hcl w 0 n la ka va)
  rw [h2] at hr
  exact hr
end Go.Proofs.YtbnbemacljjimaaGreatDoor

namespace Go.Proofs.YtbnbemacljjimaaGreatDoor
open Go.RowKit Go.Lib
set_option linter.unusedVariables false

theorem QAt.ofp {w : World} {P : Nat → Prop} {x : List Value} {op : ByteArray} {ks : List QV} (h : QAt w P x (ofQ op ks)) : ∃ la lc ka kc va vc A c, x = [.string op, .string ⟨#[]⟩, .int .i64 0, .int .i64 0, .string ⟨#[]⟩, .slice la 0 lc, .slice ka 0 kc, .slice va 0 vc, .slice A ks.length c, .slice none 0 0, .slice none 0 0, .slice none 0 0] ∧
    op.size ≤ 100 ∧ ks.length ≤ c ∧ c ≤ 9223372036854775807 ∧ VecQ w P A ks := by
  obtain ⟨la, lc, ka, kc, va, vc, A, c, e, -, h1, h2, h3, h4⟩ := h.parts
  exact ⟨la, lc, ka, kc, va, vc, A, c, e, h1, h2, h3, h4⟩

/-- An operator at which Normal turns the kids alone. -/
structure Dflt (op : ByteArray) : Prop where
  v : (op.toList == [118, 97, 108]) = false
  n : (op.toList == [110, 111, 110, 101]) = false
  t : (op.toList == [116, 101, 120, 116]) = false
  o : (op.toList == [111, 98, 106, 101, 99, 116]) = false
  p : (op.toList == [124]) = false
  c : (op.toList == [44]) = false
  d : (op.toList == [100, 101, 102]) = false

/-- The blocks ahead of a walk through Normal. -/
theorem nm_open (w : World) (xs : Array Value) : ∃ W0, W0 = (w.alloc (.cells xs 41)).alloc (.cells zC 41) ∧ Hid (Only (fun _ => False) w W0) ∧ Hid (Blk W0 (w.heap.size + 1) 41 zC) ∧ Hid (Blk W0 w.heap.size 41 xs) ∧ W0.heap.size = w.heap.size + 2 :=
  ⟨_, rfl, hide (((Only.refl _ w).alloc _).alloc _), hide (Blk.new2 w _ _ _), hide ((Blk.new w _ _).alloc _), by simp⟩

set_option maxHeartbeats 16000000 in
set_option maxRecDepth 100000 in
theorem nm_def {op : ByteArray} {ks ks' : List QV} (hd : Dflt op) (hl : ks.length = ks'.length) (hN4 : ks.length ≤ 1000000) (hS : ∀ (i : Nat) (k k' : QV), ks[i]? = some k → ks'[i]? = some k' → NmSays k k') : NmSays (ofQ op ks) (ofQ op ks') := by
  intro w x hx
  obtain ⟨la, lc, ka, kc, va, vc, A0, c0, rfl, hop, hc1, hc2, hv⟩ := hx.ofp
  obtain ⟨N, hN⟩ : ∃ N, ks.length = N := ⟨_, rfl⟩
  rw [hN] at hN4 hc1 hl ⊢
  obtain ⟨d1, d2, d3, d4, d5, d6, d7⟩ := hd
  obtain ⟨i0, hi0, hz0, hz1, hz2⟩ := info_parts Tryz.infoQ
  clear hx
  replace hv := hide hv
  replace hl := hide hl
  replace hN := hide hN
  replace hS := hide hS
  replace hi0 := hide hi0
  replace hz0 := hide hz0
  replace hz1 := hide hz1
  replace hz2 := hide hz2
  obtain ⟨W0, hW0, o0, k0, z0, s0⟩ := nm_open w #[.string op, .string ⟨#[]⟩, .int .i64 0, .int .i64 0, .string ⟨#[]⟩, .slice la 0 lc, .slice ka 0 kc, .slice va 0 vc, .slice A0 N c0, .slice none 0 0, .slice none 0 0, .slice none 0 0]
  have q0 := z0.out.cell 0
  have q1 := z0.out.cell 1
  have q8 := z0.out.cell 8
  have q9 := z0.out.cell 9
  have q10 := z0.out.cell 10
  simp at q0 q1 q8 q9 q10
  unfold zC at hW0
  replace s0 := hide s0
  go_enter Tryz.func13, Tryz.ntmps13
  go_upto_region 1 with fail
  rw [← hW0]
  clear hW0
  go_upto_region 27 with (refine wpList_store_blk rfl _ _ _ rfl W0.heap.size (ofC op none 0 0).toArray rfl rfl 41 _ (Blk.new W0 _ _) q_size rfl (by simp [ofC, Value.oneCell']) ?_; intro W2 k2 o2 s2; replace k2 := hide k2; replace o2 := hide (only_new o2); replace s2 := hide s2)
  obtain ⟨G, hG⟩ : ∃ G, W0.heap.size = G := ⟨_, rfl⟩
  have hGw : w.heap.size + 1 < G := by have := s0.out; omega
  rw [hG] at k2 ⊢
  have z2 := hide (o2.out.blk z0.out (fun h => h))
  have r2 := hide (o2.out.blk k0.out (fun h => h))
  have hGW2 : G < W2.heap.size := k2.out.lt
  obtain ⟨Z, hZ⟩ : ∃ Z, W2.heap.size = Z := ⟨_, rfl⟩
  have hGZ : G < Z := by omega
  replace hZ := hide hZ
  replace hG := hide hG
  go_wp2_with fail
  go_loopw [10] (fun s10 wr => ∃ (j : Nat) (A : Option Addr) (c : Nat) (xs : List Value), s10 = .int .i64 (j : Int) ∧ j ≤ N ∧ Blk wr G 41 (ofC op A j c).toArray ∧ ApS wr (w.heap.size + 2) Z G j c A xs (ks'.take j) ∧ Only (fun k => k = G ∨ Z ≤ k) W2 wr) (fun i _ => N - (Lib.intOf i).toNat)
  case atStart => exact ⟨0, none, 0, [], rfl, Nat.zero_le _, k2.out, ⟨World.ownsRow_nil _ _ _ _, rfl⟩, Only.refl _ _⟩
  case round =>
    obtain ⟨j, A, c, xs, rfl, hj, kG, HA, ho⟩ := hrel
    have hcw := hide ((o0.out.trans o2.out).no.trans ho)
    have hzr := hide (ho.blk z2.out (by omega))
    have hrr := hide (ho.blk r2.out (by omega))
    have hGwr := kG.lt
    have hBwr : w.heap.size ≤ wr.heap.size := hcw.out.size
    have hZwr : Z ≤ wr.heap.size := by have := ho.size; have := hZ.out; omega
    have d8r := hzr.out.cell 8
    simp at d8r
    clear q0 q1 q8 q9 q10
    by_cases hjN : j < N
    · obtain ⟨b0, p0, rfl, hb0, hb0w, hvr⟩ := hv.out (by rw [hN.out]; omega)
      obtain ⟨qa, hqa⟩ : ∃ q, ks[j]? = some q := ⟨_, List.getElem?_eq_getElem (by rw [hN.out]; omega)⟩
      obtain ⟨qb, hqb⟩ : ∃ q, ks'[j]? = some q := ⟨_, List.getElem?_eq_getElem (by rw [← hl.out]; omega)⟩
      obtain ⟨y, hy, hcy⟩ := hvr _ qa hqa
      have hSi := hide (hS.out j qa qb hqa hqb)
      have htk : ks'.take (j + 1) = ks'.take j ++ [qb] := by rw [List.take_add_one, hqb]; rfl
      replace htk := hide htk
      replace hqa := hide hqa
      replace hqb := hide hqb
      replace hcy := hide hcy
      have hys := hide hy.len
      replace hy := hide hy
      replace kG := hide kG
      replace HA := hide HA
      replace ho := hide ho
      clear hvr
      go_upto_region 30 with fail
      refine wp_region_inv (by kernel_rfl) (fun listed a w' => ∃ (s111 s112 s113 s114 s115 s116 s117 s118 s119 s120 s121 : Value), a = ⟨#[.agg #[.string op, .string ⟨#[]⟩, .int .i64 0, .int .i64 0, .string ⟨#[]⟩, .slice la 0 lc, .slice ka 0 kc, .slice va 0 vc, .slice (some ⟨b0, p0, none⟩) N c0, .slice none 0 0, .slice none 0 0, .slice none 0 0], .pointer (some ⟨w.heap.size, 0, none⟩), .pointer (some ⟨w.heap.size + 1, 0, none⟩), undef, undef, undef, undef, undef, undef, .pointer (some ⟨G, 0, none⟩), .int .i64 ↑j, undef, undef, .pointer (some ⟨w.heap.size, 0, none⟩), .string op, .bool false, .bool false, undef, undef, undef, .bool false, .bool false, undef, .bool false, .bool false, undef, undef, undef, undef, undef, undef, undef, undef, undef, undef, undef, undef, undef, undef, undef, .bool false, .bool false, undef, undef, undef, undef, undef, undef, undef, undef, undef, undef, undef, undef, undef, undef, undef, undef, undef, undef, undef, undef, undef, .bool false, .bool false, .bool false, undef, undef, undef, undef, undef, undef, undef, undef, undef, undef, undef, undef, undef, undef, undef, undef, undef, undef, undef, undef, undef, undef, undef, undef, undef, undef, undef, undef, undef, .pointer (some ⟨w.heap.size, 0, none⟩), .string op, .pointer (some ⟨w.heap.size, 1, none⟩), .string ⟨#[]⟩, .pointer (some ⟨w.heap.size, 9, none⟩), .slice none 0 0, .pointer (some ⟨w.heap.size, 10, none⟩), .slice none 0 0, .agg #[.string op, .string ⟨#[]⟩, .int .i64 0, .int .i64 0, .string ⟨#[]⟩, .slice none 0 0, .slice none 0 0, .slice none 0 0, .slice none 0 0, .slice none 0 0, .slice none 0 0, .slice none 0 0], .int .i64 ↑j, .pointer (some ⟨w.heap.size, 8, none⟩), .slice (some ⟨b0, p0, none⟩) N c0, .int .i64 ↑N, .bool true, u109, u110, s111, s112, s113, s114, s115, s116, s117, s118, s119, s120, s121, undef, undef, undef, undef, undef, undef, undef, undef, undef, undef, undef, undef, undef, undef, undef, undef, undef, undef, undef, undef, undef, undef, undef, undef, undef, undef, undef, undef, undef, undef, undef, undef, undef, undef, undef, undef, undef, undef, undef, undef, undef, undef, undef, undef, undef, undef, undef, undef, undef, undef, undef, undef], []⟩ ∧ listed.size = 12 ∧ Lv listed [s111, s112, s113, s114, s115, s116, s117, .bool true, .bool true, .bool true, s121, .bool true] [.pointer (some ⟨G, 8, none⟩), .slice A j c, .pointer (some ⟨w.heap.size, 8, none⟩), .slice (some ⟨b0, p0, none⟩) N c0, .int .i64 ↑j, .pointer (some ⟨b0, p0 + j * 12, none⟩), .agg y.toArray, .bool true, .bool true, .bool true, .pointer (some ⟨G, 8, none⟩), .bool true] ∧ ApW wr G (w.heap.size + 2) Z j 1 c A xs (ks'.take j) [qb] op 1 7 8 9 11 qb listed w' s118 s119 s120) ?start ?step ?stop
      case start => exact ⟨_, _, _, _, _, _, _, _, _, _, _, rfl, rfl, Lv.start, ApW.start kG.out HA.out⟩
      case step =>
        rintro listed a w' i ⟨s111, s112, s113, s114, s115, s116, s117, s118, s119, s120, s121, rfl, hsz, HL, H⟩ hi
        have hun := Up.un hi
        have hltn : i < 12 := by
          obtain ⟨-, o, ho, -⟩ := mem_ready.1 hi
          rcases Nat.lt_or_ge i 12 with h | h
          · exact h
          · rw [Array.getElem?_eq_none (by exact h)] at ho
            cases ho
        have hsz2 : ∀ i, (listed.setIfInBounds i true).size = 12 := fun i => by rw [Array.size_setIfInBounds]; exact hsz
        replace hsz2 := hide hsz2
        have hin : i = 0 ∨ i = 1 ∨ i = 2 ∨ i = 3 ∨ i = 4 ∨ i = 5 ∨ i = 6 ∨ i = 7 ∨ i = 8 ∨ i = 9 ∨ i = 10 ∨ i = 11 := by omega
        clear hltn
        rcases hin with rfl | rfl | rfl | rfl | rfl | rfl | rfl | rfl | rfl | rfl | rfl | rfl
        · replace H := hide H
          replace HL := hide HL
          replace hi := hide hi
          replace hun := hide hun
          replace hsz := hide hsz
          refine wpOp_of_list rfl ?_
          go_wp2_with fail
          exact Then.normal ⟨_, _, _, _, _, _, _, _, _, _, _, rfl, (by first | exact hsz2.out _ | exact hsz.out), HL.out.put 0 rfl, H.out.put 0 rfl rfl rfl rfl⟩
        · obtain rfl := HL.get 0 rfl rfl (Up.waits hi 0 (by kernel_rfl))
          have kq := H.kg (fun h => Up.no hun (H.el (H.e3 h)))
          have q8 := kq.cell 8
          simp [ofC] at q8
          replace kq := hide kq
          replace H := hide H
          replace HL := hide HL
          replace hi := hide hi
          replace hun := hide hun
          replace hsz := hide hsz
          refine wpOp_of_list rfl ?_
          go_wp2_with fail
          exact Then.normal ⟨_, _, _, _, _, _, _, _, _, _, _, rfl, (by first | exact hsz2.out _ | exact hsz.out), HL.out.put 1 rfl, H.out.put 1 rfl rfl rfl rfl⟩
        · replace H := hide H
          replace HL := hide HL
          replace hi := hide hi
          replace hun := hide hun
          replace hsz := hide hsz
          refine wpOp_of_list rfl ?_
          go_wp2_with fail
          exact Then.normal ⟨_, _, _, _, _, _, _, _, _, _, _, rfl, (by first | exact hsz2.out _ | exact hsz.out), HL.out.put 2 rfl, H.out.put 2 rfl rfl rfl rfl⟩
        · obtain rfl := HL.get 2 rfl rfl (Up.waits hi 2 (by kernel_rfl))
          have d8 := (only_cell H.onl (⟨w.heap.size, 8, none⟩ : Addr) (fun h => by have h' : w.heap.size = G ∨ Z ≤ w.heap.size := h; omega) (by show w.heap.size < wr.heap.size; omega)).trans d8r
          replace H := hide H
          replace HL := hide HL
          replace hi := hide hi
          replace hun := hide hun
          replace hsz := hide hsz
          refine wpOp_of_list rfl ?_
          go_wp2_with fail
          exact Then.normal ⟨_, _, _, _, _, _, _, _, _, _, _, rfl, (by first | exact hsz2.out _ | exact hsz.out), HL.out.put 3 rfl, H.out.put 3 rfl rfl rfl rfl⟩
        · replace H := hide H
          replace HL := hide HL
          replace hi := hide hi
          replace hun := hide hun
          replace hsz := hide hsz
          refine wpOp_of_list rfl ?_
          go_wp2_with fail
          exact Then.normal ⟨_, _, _, _, _, _, _, _, _, _, _, rfl, (by first | exact hsz2.out _ | exact hsz.out), HL.out.put 4 rfl, H.out.put 4 rfl rfl rfl rfl⟩
        · obtain rfl := HL.get 3 rfl rfl (Up.waits hi 3 (by kernel_rfl))
          obtain rfl := HL.get 4 rfl rfl (Up.waits hi 4 (by kernel_rfl))
          replace H := hide H
          replace HL := hide HL
          replace hi := hide hi
          replace hun := hide hun
          replace hsz := hide hsz
          refine wpOp_of_list rfl ?_
          go_wp2_with fail
          exact Then.normal ⟨_, _, _, _, _, _, _, _, _, _, _, rfl, (by first | exact hsz2.out _ | exact hsz.out), HL.out.put 5 rfl, H.out.put 5 rfl rfl rfl rfl⟩
        · obtain rfl := HL.get 5 rfl rfl (Up.waits hi 5 (by kernel_rfl))
          have hcl : ∀ j' z, y[j']? = some z → w'.cell? ((⟨b0, p0 + j * 12, none⟩ : Addr).add j') = some z := fun j' z hz => by rw [add_flat, only_cell (hcw.out.trans H.onl) (⟨b0, p0 + j * 12 + j', none⟩ : Addr) (fun h => by have h' : b0 = G ∨ Z ≤ b0 := h; omega) hb0w]; exact hcy.out j' z hz
          replace hcl := hide hcl
          replace H := hide H
          replace HL := hide HL
          replace hi := hide hi
          replace hun := hide hun
          replace hsz := hide hsz
          refine wpOp_of_list rfl ?_
          go_wp2_with (refine wpList_load_at rfl _ _ rfl ⟨b0, p0 + j * 12, none⟩ rfl y _ hcl.out Tryz.underlying41 rfl (by rw [hys.out]; exact q_size) ?_)
          exact Then.normal ⟨_, _, _, _, _, _, _, _, _, _, _, rfl, (by first | exact hsz2.out _ | exact hsz.out), HL.out.put 6 rfl, H.out.put 6 rfl rfl rfl rfl⟩
        · obtain rfl := HL.get 6 rfl rfl (Up.waits hi 6 (by kernel_rfl))
          have hyx := hide (hy.out.only (hcw.out.trans H.onl) (fun b h1 _ h2 => by have h1' : b < w.heap.size := h1; have h2' : b = G ∨ Z ≤ b := h2; omega) (P' := (· < w'.heap.size)) (fun b _ h => by have h1' : b < w.heap.size := h; have := H.onl.size; show b < w'.heap.size; omega))
          replace H := hide H
          replace HL := hide HL
          replace hi := hide hi
          replace hun := hide hun
          replace hsz := hide hsz
          refine wpOp_of_list rfl ?_
          go_wp2_with (go_at_call 13; refine (hSi.out w' y hyx.out).mono ?_; rintro e5 W5 ⟨z, rfl, hz, b5⟩)
          exact Then.normal ⟨_, _, _, _, _, _, _, _, _, _, _, rfl, (by first | exact hsz2.out _ | exact hsz.out), HL.out.put 7 rfl, H.out.cc hun.out rfl rfl rfl hGZ hZwr (by omega) (only_below b5) hz⟩
        · have u7 := hide (Up.waits hi 7 (by kernel_rfl))
          obtain ⟨z, rfl, hz⟩ := H.fc u7.out (Up.no hun)
          have hzs := hide hz.sz
          have hry := hide (QRow.one hz)
          replace hz := hide hz
          replace H := hide H
          replace HL := hide HL
          replace hi := hide hi
          replace hun := hide hun
          replace hsz := hide hsz
          refine wpOp_of_list rfl ?_
          go_wp2_with (refine wpList_bs1 rfl _ rfl z rfl hzs.out ?_; intro W6 k6 o6 s6)
          exact Then.normal ⟨_, _, _, _, _, _, _, _, _, _, _, rfl, (by first | exact hsz2.out _ | exact hsz.out), HL.out.put 8 rfl, H.out.cb hun.out u7.out rfl rfl hry.out o6 k6⟩
        · obtain rfl := HL.get 1 rfl rfl (Up.waits hi 1 (by kernel_rfl))
          have u8 := hide (Up.waits hi 8 (by kernel_rfl))
          have u1 := hide (Up.waits hi 1 (by kernel_rfl))
          have np := Up.no hun
          obtain ⟨K, rs, rfl, hrk, hrr'⟩ := H.fb u8.out np
          have hown := hide (H.f0 np).own
          have hyl := hide hrr'.length
          have hyo := hide hrr'.ones
          have hyc : ∀ j' u, rs[j']? = some u → w'.cell? ((⟨K, 0, none⟩ : Addr).add j') = some u := fun j' u hu => by rw [add_flat, Nat.zero_add, hrk.cell]; simpa using hu
          replace hyc := hide hyc
          have hZw : Z ≤ w'.heap.size := by have := H.onl.size; omega
          replace hrk := hide hrk
          replace hrr' := hide hrr'
          replace np := hide np
          replace H := hide H
          replace HL := hide HL
          replace hi := hide hi
          replace hun := hide hun
          replace hsz := hide hsz
          refine wpOp_of_list rfl ?_
          go_wp2_with (refine wpList_append_fresh rfl _ _ 37 rfl Z 41 i0 (.agg zC) 12 232 Tryz.underlying37 hi0.out hz0.out hz1.out hz2.out rfl (by decide) (.slice A j c) j xs rfl hown.out ⟨K, 0, none⟩ 1 1 rs rfl hyl.out (by decide) hyc.out hyo.out (by unfold maxLen; omega) (by omega) hZw ?_; intro v7 W7 own7 g7 f7; obtain ⟨A', c', rfl, -, -⟩ := own_sl own7)
          exact Then.normal ⟨_, _, _, _, _, _, _, _, _, _, _, rfl, (by first | exact hsz2.out _ | exact hsz.out), HL.out.put 9 rfl, H.out.cp hun.out u8.out u1.out rfl hGZ hZwr hrr'.out own7 g7 f7⟩
        · replace H := hide H
          replace HL := hide HL
          replace hi := hide hi
          replace hun := hide hun
          replace hsz := hide hsz
          refine wpOp_of_list rfl ?_
          go_wp2_with fail
          exact Then.normal ⟨_, _, _, _, _, _, _, _, _, _, _, rfl, (by first | exact hsz2.out _ | exact hsz.out), HL.out.put 10 rfl, H.out.put 10 rfl rfl rfl rfl⟩
        · obtain rfl := HL.get 10 rfl rfl (Up.waits hi 10 (by kernel_rfl))
          have u9 := hide (Up.waits hi 9 (by kernel_rfl))
          obtain ⟨A', c', xs', rfl, h1, -⟩ := H.fp u9.out
          have kq := H.kg (Up.no hun)
          have q8 := kq.cell 8
          have q9 := kq.frozen 8
          simp [ofC] at q8
          have kq2 := kq.set_ 8 (.slice A' (j + 1) c')
          have o8 : Only (· = G) w' (w'.setCell ⟨G, 8, none⟩ (.slice A' (j + 1) c')) := (Only.refl (· = G) w').setCell (p := ⟨G, 8, none⟩) (Or.inl rfl) _
          replace kq := hide kq
          replace kq2 := hide kq2
          replace o8 := hide o8
          replace h1 := hide h1
          replace H := hide H
          replace HL := hide HL
          replace hi := hide hi
          replace hun := hide hun
          replace hsz := hide hsz
          refine wpOp_of_list rfl ?_
          go_wp2_with fail
          exact Then.normal ⟨_, _, _, _, _, _, _, _, _, _, _, rfl, (by first | exact hsz2.out _ | exact hsz.out), HL.out.put 11 rfl, H.out.cs hun.out u9.out hGZ h1.out o8.out kq2.out⟩
      case stop =>
        rintro listed a w' ⟨s111, s112, s113, s114, s115, s116, s117, s118, s119, s120, s121, rfl, hsz, HL, H⟩ hi
        have hall := Up.all hsz (by kernel_rfl) hi
        obtain ⟨A', c', xs', -, h1, h2⟩ := H.fp (hall 9 (by decide))
        have hk := hide (h2 (hall 11 (by decide)))
        have ho9 := hide H.onl
        clear H HL hall hi h2
        replace h1 := hide h1
        go_wp2_with fail
        go_roundw
        case rel => exact ⟨j + 1, A', c', xs', by go_num, by omega, hk.out, by rw [htk.out]; exact h1.out, ho.out.trans ho9.out⟩
        case measure => simp [Lib.intOf]; omega
    · have hjN' : j = N := by omega
      subst hjN'
      have hKj : ks'.take j = ks' := List.take_of_length_le (by rw [← hl.out]; exact Nat.le_refl _)
      rw [hKj] at HA
      have hrow := QRow.vec (P := (w.heap.size + 2 ≤ ·)) (A := A) (c := c) (base := Z) (xs := xs) (qs := ks') (HA.row.only (Only.refl (fun _ => False) wr) (fun _ _ _ h => h) (fun b _ h => h.1)) (by rw [← hl.out]; exact HA.own) (fun g h _ => by show w.heap.size + 2 ≤ g; omega)
      obtain ⟨A', c', e1, hm1, hm2⟩ := own_sl HA.own
      injection e1 with e1 _ e2
      subst e1
      subst e2
      have q11 := hzr.out.cell 11
      have g0 := kG.cell 0
      simp at q11
      simp [ofC] at g0
      replace hKj := hide hKj
      replace hrow := hide hrow
      replace kG := hide kG
      replace HA := hide HA
      replace ho := hide ho
      go_wp2_with fail
      go_loopw [11] (fun s11 w2 => s11 = .int .i64 0 ∧ w2 = wr) (fun _ _ => 0)
      case atStart => exact ⟨rfl, rfl⟩
      case round =>
        obtain ⟨rfl, rfl⟩ := hrel
        go_wp2_with (first
          | (refine wpList_load_row rfl _ _ rfl G rfl 41 (ofC op A j c).toArray (0, 0) _ kG.out Tryz.underlying41 rfl q_size ?_)
          | (refine wpList_store_blk rfl _ _ _ rfl (w.heap.size + 1) (ofC op A j c).toArray rfl rfl 41 _ hrr.out q_size rfl (by simp [ofC, Value.oneCell']) ?_; intro W5 k5 o5 s5; replace k5 := hide k5; replace o5 := hide o5; clear s5))
        (try simp only [Exit.inBlock, Exit.then])
        have hr5 := hrow.out.only o5.out (fun b h1 _ e => by have h1' : w.heap.size + 2 ≤ b := h1; have e' : b = w.heap.size + 1 := e; omega) (P' := (w.heap.size ≤ ·)) (fun b _ h => by have h1' : w.heap.size + 2 ≤ b := h; show w.heap.size ≤ b; omega)
        refine ret_q Tryz.results13 (w.heap.size + 1) _ rfl rfl k5.out rfl ⟨ofC op A j c, rfl, ?_, ?_⟩
        · exact QAt.of hl.out hop hm1 (by unfold maxLen at hm2; omega) hr5
        · exact ((hcw.out.below (B := w.heap.size) (by intro k hk; omega) (Nat.le_refl _)).trans (o5.out.below (by intro k hk; omega) hBwr))
end Go.Proofs.YtbnbemacljjimaaGreatDoor
