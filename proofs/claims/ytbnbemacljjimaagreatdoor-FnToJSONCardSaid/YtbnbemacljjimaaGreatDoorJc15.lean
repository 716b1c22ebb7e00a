/- The reference: Nul. -/
import Derived.Test.YtbnbemacljjimaaGreatDoorJc14
namespace Go.Proofs.YtbnbemacljjimaaGreatDoor
open Go.RowKit Go.Lib
set_option linter.unusedVariables false

/-- No byte 0. -/
def NoNul (s : ByteArray) : Prop := ∀ c ∈ s.data.toList, c ≠ 0
def NulSays (v : JV) (e : Ending) : Prop := ∃ b, e = .returned (.bool b) ∧ (b = false → NoNul v.text ∧ ∀ y ∈ v.list, NoNul y.text)

/-- The bytes ahead of a place are not 0. -/
def NoN (s : ByteArray) (i : Nat) : Prop := ∀ c ∈ s.data.toList.take i, c ≠ 0
theorem NoN.zero (s : ByteArray) : NoN s 0 := by intro c hc; simp at hc
theorem NoN.next {s : ByteArray} {i : Nat} (h : NoN s i) (hi : i < s.size) (hc : s[i] ≠ 0) : NoN s (i + 1) := by
  intro c hm
  rw [List.take_succ_eq_append_getElem (by simpa using hi), List.mem_append] at hm
  rcases hm with hm | hm
  · exact h c hm
  · simp at hm
    rw [hm]
    exact hc
theorem NoN.all {s : ByteArray} (h : NoN s s.size) : NoNul s := by
  intro c hc
  refine h c ?_
  rw [List.take_of_length_le (by rw [Array.length_toList]; exact Nat.le_refl _)]
  exact hc

set_option maxHeartbeats 4000000 in
set_option maxRecDepth 100000 in
theorem nul_any (n : Nat) (w : World) (B : Nat) (x : Value) (v : JV) (hx : JAt w B (n + 2) x v) (hB : B ≤ w.heap.size) :
    Calls Tryz.prog 37 #[x] w fun e w' => NulSays v e ∧ Below w.heap.size w w' := by
  obtain ⟨la, lc, ka, kc, va, vc, rfl, hl1, -, -, hl4, -, -, hl7, -, -, hla, -, -⟩ := hx
  obtain ⟨W, hW⟩ : ∃ W, W = w.alloc (.cells #[.int .i64 v.kind, .int .i64 v.half, .string v.text, .slice la v.list.length lc, .slice ka v.keys.length kc, .slice va v.vals.length vc] 26) := ⟨_, rfl⟩
  have bW : Below w.heap.size w W := by rw [hW]; exact (Below.refl _ _).alloc (Nat.le_refl _) _
  have kW := Blk.new w 26 #[.int .i64 v.kind, .int .i64 v.half, .string v.text, .slice la v.list.length lc, .slice ka v.keys.length kc, .slice va v.vals.length vc]
  rw [← hW] at kW
  have hlW : VecAt (JAt W B (n + 1)) W B la v.list := hla.keep (fun p hp => bW.cell (by omega)) (Nat.le_refl _) (fun x v h => JAt.keep (fun p hp => bW.cell (by omega)) (Nat.le_refl _) (n + 1) _ _ h)
  have c2 := kW.cell 2
  have c3 := kW.cell 3
  simp at c2 c3
  replace bW := hide bW
  replace kW := hide kW
  replace hlW := hide hlW
  clear hla
  go_enter Tryz.func37, Tryz.ntmps37
  go_upto_region 1 with fail
  rw [← hW]
  clear hW
  go_wp2
  go_loop [3] (fun s3 => ∃ i : Nat, s3 = .int .i64 i ∧ i ≤ v.text.size ∧ NoN v.text i) (fun i => v.text.size - (RowKit.intOf i).toNat)
  case atStart => exact ⟨0, rfl, Nat.zero_le _, NoN.zero _⟩
  case round =>
    obtain ⟨i, rfl, hi, hno⟩ := hrel
    by_cases hlt : i < v.text.size
    · by_cases hc : v.text[i] = 0
      · have hq : (((v.text[i].toNat : Nat) : Int) == 0) = true := by rw [hc]; rfl
        replace hc := hide hc
        replace hno := hide hno
        go_wp2
        go_ret
        exact ⟨⟨true, rfl, fun h => by cases h⟩, bW.out⟩
      · have hq : (((v.text[i].toNat : Nat) : Int) == 0) = false := by
          have : v.text[i].toNat ≠ 0 := fun e => hc (by rw [← UInt8.toNat_inj]; exact e)
          simp
          omega
        have hn1 := hide (hno.next hlt hc)
        replace hc := hide hc
        replace hno := hide hno
        go_wp2
        go_round
        case rel => exact ⟨i + 1, by go_num, by omega, hn1.out⟩
        case measure => simp [RowKit.intOf]; omega
    · obtain rfl : i = v.text.size := by omega
      have hT := hide hno.all
      clear hno
      go_wp2
      go_loop [4] (fun s4 => ∃ j : Nat, s4 = .int .i64 j ∧ j ≤ v.list.length ∧ ∀ i y, i < j → v.list[i]? = some y → NoNul y.text) (fun i => v.list.length - (RowKit.intOf i).toNat)
      case atStart => exact ⟨0, rfl, Nat.zero_le _, fun i y hi => absurd hi (by omega)⟩
      case round =>
        obtain ⟨j, rfl, hj, hall⟩ := hrel
        replace hall := hide hall
        by_cases hjl : j < v.list.length
        · obtain ⟨bk, ofs, rfl, hbk, hcs⟩ := hlW.out (by omega)
          obtain ⟨y, hyj⟩ : ∃ x, v.list[j]? = some x := ⟨_, List.getElem?_eq_getElem hjl⟩
          obtain ⟨d0, d1, d2, d3, d4, d5, e0, e1, e2, e3, e4, e5, hyy⟩ := hcs j y hyj
          obtain ⟨la', lc', ka', kc', va', vc', hagg, -, -, -, -, -, -, hts, -⟩ := hyy
          simp at hagg
          obtain ⟨rfl, rfl, rfl, rfl, rfl, rfl⟩ := hagg
          clear e0 e1 e3 e4 e5 hcs
          go_wp2
          go_loop [5] (fun s5 => ∃ i : Nat, s5 = .int .i64 i ∧ i ≤ y.text.size ∧ NoN y.text i) (fun i => y.text.size - (RowKit.intOf i).toNat)
          case atStart => exact ⟨0, rfl, Nat.zero_le _, NoN.zero _⟩
          case round =>
            obtain ⟨i, rfl, hi2, hno⟩ := hrel
            by_cases hlt2 : i < y.text.size
            · by_cases hc : y.text[i] = 0
              · have hq : (((y.text[i].toNat : Nat) : Int) == 0) = true := by rw [hc]; rfl
                replace hc := hide hc
                replace hno := hide hno
                go_wp2
                go_ret
                exact ⟨⟨true, rfl, fun h => by cases h⟩, bW.out⟩
              · have hq : (((y.text[i].toNat : Nat) : Int) == 0) = false := by
                  have : y.text[i].toNat ≠ 0 := fun e => hc (by rw [← UInt8.toNat_inj]; exact e)
                  simp
                  omega
                have hn1 := hide (hno.next hlt2 hc)
                replace hc := hide hc
                replace hno := hide hno
                go_wp2
                go_round
                case rel => exact ⟨i + 1, by go_num, by omega, hn1.out⟩
                case measure => simp [RowKit.intOf]; omega
            · obtain rfl : i = y.text.size := by omega
              have hT2 := hide hno.all
              clear hno
              go_wp2
              go_round
              case rel => exact ⟨j + 1, by go_num, by omega, fun i z hi hz => by
                rcases Nat.lt_or_ge i j with hlt | hge
                · exact hall.out i z hlt hz
                · obtain rfl : i = j := by omega
                  rw [hyj] at hz
                  cases hz
                  exact hT2.out⟩
              case measure => simp [RowKit.intOf]; omega
        · obtain rfl : j = v.list.length := by omega
          go_wp2
          go_ret
          exact ⟨⟨false, rfl, fun _ => ⟨hT.out, fun y hy => by
            obtain ⟨i, hi, rfl⟩ := List.getElem_of_mem hy
            exact hall.out i _ hi (List.getElem?_eq_getElem hi)⟩⟩, bW.out⟩
end Go.Proofs.YtbnbemacljjimaaGreatDoor

namespace Go.Proofs.YtbnbemacljjimaaGreatDoor
open Go.RowKit Go.Lib
set_option linter.unusedVariables false

/-- A text in quotes, each quote doubled. -/
def quoS (s : ByteArray) : ByteArray := ⟨#[34]⟩ ++ dblT s.data.toList ++ ⟨#[34]⟩
def fldS (v : JV) : ByteArray := if v.kind = 4 then quoS v.text else bareT v
def rowS (xs : List JV) : ByteArray := ⟨(Lib.join ((xs.map fldS).map (·.data.toList)) [44]).toArray⟩

theorem join_snoc (ls : List (List UInt8)) (x sep : List UInt8) : Lib.join (ls ++ [x]) sep = if ls = [] then x else Lib.join ls sep ++ sep ++ x := by
  rcases ls with _ | ⟨l, ls⟩
  · rw [if_pos rfl, List.nil_append, Lib.join_one]
  · rw [if_neg (by simp), List.cons_append, Lib.join_cons, Lib.join_cons]
    simp [Lib.joinTail]

theorem nil_app (t : ByteArray) : (⟨#[]⟩ : ByteArray) ++ t = t := by
  apply ByteArray.ext
  apply Array.toList_inj.1
  rw [ByteArray.data_append, Array.toList_append]
  rfl

theorem rowS_next {xs : List JV} {j : Nat} {y : JV} (hy : xs[j]? = some y) : rowS (xs.take (j + 1)) = if j = 0 then fldS y else rowS (xs.take j) ++ ⟨#[44]⟩ ++ fldS y := by
  have hj : j < xs.length := (List.getElem?_eq_some_iff.1 hy).1
  apply ByteArray.ext
  apply Array.toList_inj.1
  unfold rowS
  rw [List.take_add_one, hy]
  show Lib.join _ _ = _
  rw [Option.toList_some, List.map_append, List.map_append, List.map_singleton, List.map_singleton, join_snoc]
  by_cases h0 : j = 0
  · subst h0
    rw [if_pos rfl, if_pos (by simp)]
  · rw [if_neg h0, if_neg (by
      intro e
      have h1 := congrArg List.length e
      rw [List.length_map, List.length_map, List.length_take] at h1
      have h2 : min j xs.length = 0 := h1
      omega)]
    rw [ByteArray.data_append, ByteArray.data_append, Array.toList_append, Array.toList_append]

theorem fldS_size (y : JV) (h : Elem y) : (fldS y).size ≤ 4100 := by
  obtain ⟨h1, h2, h3⟩ := h
  have h4 : y.text.data.toList.length = y.text.size := by rw [Array.length_toList]; rfl
  unfold fldS
  split
  · unfold quoS
    rw [ByteArray.size_append, ByteArray.size_append]
    have := dblT_size y.text.data.toList
    show 1 + _ + 1 ≤ 4100
    omega
  · rename_i hk
    unfold bareT
    rw [if_neg hk]
    split
    · decide
    · exact Nat.le_trans (stxt_size y h1 h2) (by decide)

theorem rowS_size (xs : List JV) (he : ∀ y ∈ xs, Elem y) : (rowS xs).size ≤ 4101 * xs.length := by
  have hall : ∀ l ∈ ((xs.map fldS).map (·.data.toList)), l.length ≤ 4100 := by
    intro l hl
    rw [List.map_map] at hl
    obtain ⟨y, hy, rfl⟩ := List.mem_map.1 hl
    have e : ((fldS y).data.toList).length = (fldS y).size := by rw [Array.length_toList]; rfl
    show ((fldS y).data.toList).length ≤ 4100
    rw [e]
    exact fldS_size y (he y hy)
  have hlen : ((xs.map fldS).map (·.data.toList)).length = xs.length := by rw [List.length_map, List.length_map]
  unfold rowS
  show (Lib.join ((xs.map fldS).map (·.data.toList)) [44]).toArray.size ≤ _
  rw [List.size_toArray]
  generalize ((xs.map fldS).map (·.data.toList)) = ls at *
  rcases ls with _ | ⟨l, ls⟩
  · exact Nat.zero_le _
  · rw [Lib.join_cons, List.length_append, Lib.joinTail_length]
    have h1 := lens_le 4100 ls (fun x hx => hall x (List.mem_cons_of_mem _ hx))
    have h2 := hall l List.mem_cons_self
    rw [List.length_cons] at hlen
    show _ + (1 * ls.length + _) ≤ _
    omega

def RowSays (v : JV) (e : Ending) : Prop := ∃ (s : ByteArray) (how : Int), e = .returned (.tuple #[.string s, .int .i64 how]) ∧ ((how = 0 ∧ CsvOk v ∧ s = rowS v.list) ∨ (how = 1 ∧ ¬ CsvOk v) ∨ how = 2)

set_option maxHeartbeats 4000000 in
set_option maxRecDepth 100000 in
theorem row_any (n : Nat) (w : World) (B : Nat) (x : Value) (v : JV) (hx : JAt w B (n + 2) x v) (hlen : v.list.length ≤ 400) (he : ∀ y ∈ v.list, Elem y ∧ 0 ≤ y.kind ∧ y.kind ≤ 6) (hB : B ≤ w.heap.size) :
    Calls Tryz.prog 58 #[x, .string ⟨#[99, 115, 118]⟩, .string ⟨#[44]⟩] w fun e w' => RowSays v e ∧ Below w.heap.size w w' := by
  obtain ⟨la, lc, ka, kc, va, vc, rfl, hl1, -, -, hl4, -, -, hl7, -, -, hla, -, -⟩ := hx
  obtain ⟨W, hW⟩ : ∃ W, W = w.alloc (.cells #[.int .i64 v.kind, .int .i64 v.half, .string v.text, .slice la v.list.length lc, .slice ka v.keys.length kc, .slice va v.vals.length vc] 26) := ⟨_, rfl⟩
  have bW : Below w.heap.size w W := by rw [hW]; exact (Below.refl _ _).alloc (Nat.le_refl _) _
  have kW := Blk.new w 26 #[.int .i64 v.kind, .int .i64 v.half, .string v.text, .slice la v.list.length lc, .slice ka v.keys.length kc, .slice va v.vals.length vc]
  rw [← hW] at kW
  have hlW : VecAt (JAt W B (n + 1)) W B la v.list := hla.keep (fun p hp => bW.cell (by omega)) (Nat.le_refl _) (fun x v h => JAt.keep (fun p hp => bW.cell (by omega)) (Nat.le_refl _) (n + 1) _ _ h)
  have c0 := kW.cell 0
  have c3 := kW.cell 3
  simp at c0 c3
  have hBW := Nat.le_trans hB bW.size
  replace bW := hide bW
  replace kW := hide kW
  replace hlW := hide hlW
  replace he := hide he
  clear hla
  by_cases hk : v.kind = 5
  · rw [hk] at c0
    have hkh := hide hk
    clear hk
    go_enter Tryz.func58, Tryz.ntmps58
    go_upto_region 1 with fail
    rw [← hW]
    clear hW
    go_wp2
    go_loopw [8, 19] (fun s8 s19 wr => ∃ j : Nat, s19 = .int .i64 j ∧ j ≤ v.list.length ∧ s8 = .string (rowS (v.list.take j)) ∧ Below W.heap.size W wr ∧ ∀ i y, i < j → v.list[i]? = some y → y.kind ≤ 4) (fun _ i _ => v.list.length - (RowKit.intOf i).toNat)
    case atStart => exact ⟨0, rfl, Nat.zero_le _, rfl, Below.refl _ _, fun i y hi => absurd hi (by omega)⟩
    case round =>
      obtain ⟨j, rfl, hj, rfl, hb, hall⟩ := hrel
      have hacc := rowS_size (v.list.take j) (fun y hy => (he.out y (List.mem_of_mem_take hy)).1)
      have hlt : (v.list.take j).length ≤ j := List.length_take_le _ _
      replace hall := hide hall
      by_cases hjl : j < v.list.length
      · obtain ⟨bk, ofs, rfl, hbk, hcs⟩ := hlW.out (by omega)
        obtain ⟨y, hyj⟩ : ∃ x, v.list[j]? = some x := ⟨_, List.getElem?_eq_getElem hjl⟩
        obtain ⟨d0, d1, d2, d3, d4, d5, e0, e1, e2, e3, e4, e5, hyy⟩ := hcs j y hyj
        have hey := he.out y (List.mem_of_getElem? hyj)
        have hnx := rowS_next hyj
        have hfs := fldS_size y hey.1
        have hyw : JAt wr B (n + 1) _ y := JAt.keep (fun p hp => hb.cell (by omega)) (Nat.le_refl _) (n + 1) _ _ hyy
        have hfr : ∀ p : Addr, p.block < B → wr.cell? p = W.cell? p := fun p hp => hb.cell (by omega)
        replace e0 := (hfr ⟨bk, _, none⟩ hbk).trans e0
        replace e1 := (hfr ⟨bk, _, none⟩ hbk).trans e1
        replace e2 := (hfr ⟨bk, _, none⟩ hbk).trans e2
        replace e3 := (hfr ⟨bk, _, none⟩ hbk).trans e3
        replace e4 := (hfr ⟨bk, _, none⟩ hbk).trans e4
        replace e5 := (hfr ⟨bk, _, none⟩ hbk).trans e5
        obtain ⟨la', lc', ka', kc', va', vc', hagg, -⟩ := hyy
        simp at hagg
        obtain ⟨rfl, rfl, rfl, rfl, rfl, rfl⟩ := hagg
        obtain ⟨R, hR⟩ : ∃ R, rowS (v.list.take j) = R := ⟨_, rfl⟩
        rw [hR] at hnx hacc ⊢
        clear hcs hfr
        replace hyw := hide hyw
        replace hb := hide hb
        by_cases h0 : j = 0
        · rw [if_pos h0] at hnx
          have hR0 : R = ⟨#[]⟩ := by rw [← hR, h0]; rfl
          have hfin : Hid (R ++ fldS y = rowS (v.list.take (j + 1))) := hide (by rw [hnx, hR0, nil_app])
          have hPs : R.size ≤ 2000000 := by omega
          have hj0 : ¬ (0 : Int) < (j : Int) := by omega
          replace h0 := hide h0
          replace hR := hide hR
          replace hR0 := hide hR0
          replace hnx := hide hnx
          go_upto_region 9 with fail
          obtain ⟨W1, hW1⟩ : ∃ W1, W1 = wr.alloc (.cells #[.int .i64 y.kind, .int .i64 y.half, .string y.text, .slice la' y.list.length lc', .slice ka' y.keys.length kc', .slice va' y.vals.length vc'] 26) := ⟨_, rfl⟩
          have k1 := Blk.new wr 26 #[.int .i64 y.kind, .int .i64 y.half, .string y.text, .slice la' y.list.length lc', .slice ka' y.keys.length kc', .slice va' y.vals.length vc']
          have b1 : Below wr.heap.size wr W1 := by rw [hW1]; exact (Below.refl _ _).alloc (Nat.le_refl _) _
          rw [← hW1] at k1
          rw [← hW1]
          clear hW1
          have hbr := hide (bare_any n W1 B _ y (JAt.keep (fun p hp => b1.cell (by have := hb.out.size; omega)) (Nat.le_refl _) (n + 1) _ _ hyw.out) hey.2 hey.1.1 (by have := hb.out.size; have := b1.size; omega))
          obtain ⟨q0, q1, q2, q3, q4, q5⟩ := blk_six k1
          have hb1 := hide (hb.out.trans (b1.mono hb.out.size))
          have hk1l := k1.lt
          replace k1 := hide k1
          replace b1 := hide b1
          replace hey := hide hey
          go_wp2_with fail
          refine hbr.out.mono ?_
          rintro e W2 ⟨⟨s, how, rfl, hs⟩, b2⟩
          have k2 := k1.out.below b2 hk1l
          have hb2 := hide (hb1.out.trans (b2.mono hb1.out.size))
          have p0 := k2.cell 0
          simp at p0
          have hk2l := k2.lt
          replace k2 := hide k2
          clear b2 q0 q1 q2 q3 q4 q5 hbr
          rcases hs with ⟨rfl, rfl, h4⟩ | ⟨rfl, h5⟩ | rfl
          · have hk4 := hide h4
            clear h4
            by_cases hy4 : y.kind = 4
            · have hq4 : Hid (fldS y = ⟨#[34]⟩ ++ dblT y.text.data.toList ++ ⟨#[34]⟩ ∧ bareT y = y.text) := hide ⟨by unfold fldS; rw [if_pos hy4]; rfl, by unfold bareT; rw [if_neg (by omega), if_pos hy4]⟩
              rw [hq4.out.2]
              rw [hy4] at p0
              have hy4' := hide hy4
              clear hy4
              obtain ⟨D, hD⟩ : ∃ D, dblT y.text.data.toList = D := ⟨_, rfl⟩
              have hDs : D.size ≤ 2 * y.text.size := by rw [← hD]; exact Nat.le_trans (dblT_size _) (by rw [Array.length_toList]; exact Nat.le_refl _)
              have htxs := hey.out.1.2.2
              have hch := hide fun W g hg => changed_any W g y.text hg (by omega)
              rw [hD] at hch hq4
              clear hD
              have z1 : ¬ 9223372036854775807 < 1 + D.size := by omega
              have z2 : ¬ 9223372036854775807 < 1 + D.size + 1 := by omega
              have z3 : ¬ 9223372036854775807 < R.size + (1 + D.size + 1) := by omega
              go_wp2_with (go_at_call 60; refine (hch.out _ _ (Blk.new _ _ _)).mono ?_; rintro e W3 ⟨rfl, rfl⟩)
              go_roundw
              case rel => exact ⟨j + 1, by go_num, by omega, by rw [← hfin.out, hq4.out.1], hb2.out.alloc hb2.out.size _, fun i z hi hz => by
                rcases Nat.lt_or_ge i j with hlt | hge
                · exact hall.out i z hlt hz
                · obtain rfl : i = j := by omega
                  rw [hyj] at hz
                  cases hz
                  exact hk4.out⟩
              case measure => simp [RowKit.intOf]; omega
            · have hq4 : Hid (fldS y = bareT y) := hide (by unfold fldS; rw [if_neg hy4])
              have hyb : ((y.kind : Int) == 4) = false := by simp; exact hy4
              replace hy4 := hide hy4
              have z3 : ¬ 9223372036854775807 < R.size + (bareT y).size := by rw [← hq4.out]; omega
              go_wp2
              go_roundw
              case rel => exact ⟨j + 1, by go_num, by omega, by rw [← hfin.out, hq4.out], hb2.out, fun i z hi hz => by
                rcases Nat.lt_or_ge i j with hlt | hge
                · exact hall.out i z hlt hz
                · obtain rfl : i = j := by omega
                  rw [hyj] at hz
                  cases hz
                  exact hk4.out⟩
              case measure => simp [RowKit.intOf]; omega
          · have hbad : Hid (¬ CsvOk v) := hide fun hok => by have := hok.2 y (List.mem_of_getElem? hyj); omega
            clear h5
            go_wp2
            go_ret2
            exact ⟨⟨_, _, rfl, Or.inr (Or.inl ⟨rfl, hbad.out⟩)⟩, bW.out.trans (hb2.out.mono bW.out.size)⟩
          · go_wp2
            go_ret2
            exact ⟨⟨_, _, rfl, Or.inr (Or.inr rfl)⟩, bW.out.trans (hb2.out.mono bW.out.size)⟩
        · rw [if_neg h0] at hnx
          have hj0 : (0 : Int) < (j : Int) := by omega
          have z0 : ¬ 9223372036854775807 < R.size + 1 := by omega
          replace h0 := hide h0
          replace hR := hide hR
          have hfin := hide hnx.symm
          clear hnx
          have hPs : (R ++ (⟨#[44]⟩ : ByteArray)).size ≤ 2000000 := by rw [ByteArray.size_append]; show _ + 1 ≤ _; omega
          have hPs' := hide hPs
          clear hPs
          go_upto_region 9 with fail
          obtain ⟨P, hP⟩ : ∃ P, R ++ (⟨#[44]⟩ : ByteArray) = P := ⟨_, rfl⟩
          have hPs := hPs'.out
          rw [hP] at hPs hfin ⊢
          clear hP hPs'
          obtain ⟨W1, hW1⟩ : ∃ W1, W1 = wr.alloc (.cells #[.int .i64 y.kind, .int .i64 y.half, .string y.text, .slice la' y.list.length lc', .slice ka' y.keys.length kc', .slice va' y.vals.length vc'] 26) := ⟨_, rfl⟩
          have k1 := Blk.new wr 26 #[.int .i64 y.kind, .int .i64 y.half, .string y.text, .slice la' y.list.length lc', .slice ka' y.keys.length kc', .slice va' y.vals.length vc']
          have b1 : Below wr.heap.size wr W1 := by rw [hW1]; exact (Below.refl _ _).alloc (Nat.le_refl _) _
          rw [← hW1] at k1
          rw [← hW1]
          clear hW1
          have hbr := hide (bare_any n W1 B _ y (JAt.keep (fun p hp => b1.cell (by have := hb.out.size; omega)) (Nat.le_refl _) (n + 1) _ _ hyw.out) hey.2 hey.1.1 (by have := hb.out.size; have := b1.size; omega))
          obtain ⟨q0, q1, q2, q3, q4, q5⟩ := blk_six k1
          have hb1 := hide (hb.out.trans (b1.mono hb.out.size))
          have hk1l := k1.lt
          replace k1 := hide k1
          replace b1 := hide b1
          replace hey := hide hey
          go_wp2_with fail
          refine hbr.out.mono ?_
          rintro e W2 ⟨⟨s, how, rfl, hs⟩, b2⟩
          have k2 := k1.out.below b2 hk1l
          have hb2 := hide (hb1.out.trans (b2.mono hb1.out.size))
          have p0 := k2.cell 0
          simp at p0
          have hk2l := k2.lt
          replace k2 := hide k2
          clear b2 q0 q1 q2 q3 q4 q5 hbr
          rcases hs with ⟨rfl, rfl, h4⟩ | ⟨rfl, h5⟩ | rfl
          · have hk4 := hide h4
            clear h4
            by_cases hy4 : y.kind = 4
            · have hq4 : Hid (fldS y = ⟨#[34]⟩ ++ dblT y.text.data.toList ++ ⟨#[34]⟩ ∧ bareT y = y.text) := hide ⟨by unfold fldS; rw [if_pos hy4]; rfl, by unfold bareT; rw [if_neg (by omega), if_pos hy4]⟩
              rw [hq4.out.2]
              rw [hy4] at p0
              have hy4' := hide hy4
              clear hy4
              obtain ⟨D, hD⟩ : ∃ D, dblT y.text.data.toList = D := ⟨_, rfl⟩
              have hDs : D.size ≤ 2 * y.text.size := by rw [← hD]; exact Nat.le_trans (dblT_size _) (by rw [Array.length_toList]; exact Nat.le_refl _)
              have htxs := hey.out.1.2.2
              have hch := hide fun W g hg => changed_any W g y.text hg (by omega)
              rw [hD] at hch hq4
              clear hD
              have z1 : ¬ 9223372036854775807 < 1 + D.size := by omega
              have z2 : ¬ 9223372036854775807 < 1 + D.size + 1 := by omega
              have z3 : ¬ 9223372036854775807 < P.size + (1 + D.size + 1) := by omega
              go_wp2_with (go_at_call 60; refine (hch.out _ _ (Blk.new _ _ _)).mono ?_; rintro e W3 ⟨rfl, rfl⟩)
              go_roundw
              case rel => exact ⟨j + 1, by go_num, by omega, by rw [← hfin.out, hq4.out.1], hb2.out.alloc hb2.out.size _, fun i z hi hz => by
                rcases Nat.lt_or_ge i j with hlt | hge
                · exact hall.out i z hlt hz
                · obtain rfl : i = j := by omega
                  rw [hyj] at hz
                  cases hz
                  exact hk4.out⟩
              case measure => simp [RowKit.intOf]; omega
            · have hq4 : Hid (fldS y = bareT y) := hide (by unfold fldS; rw [if_neg hy4])
              have hyb : ((y.kind : Int) == 4) = false := by simp; exact hy4
              replace hy4 := hide hy4
              have z3 : ¬ 9223372036854775807 < P.size + (bareT y).size := by rw [← hq4.out]; omega
              go_wp2
              go_roundw
              case rel => exact ⟨j + 1, by go_num, by omega, by rw [← hfin.out, hq4.out], hb2.out, fun i z hi hz => by
                rcases Nat.lt_or_ge i j with hlt | hge
                · exact hall.out i z hlt hz
                · obtain rfl : i = j := by omega
                  rw [hyj] at hz
                  cases hz
                  exact hk4.out⟩
              case measure => simp [RowKit.intOf]; omega
          · have hbad : Hid (¬ CsvOk v) := hide fun hok => by have := hok.2 y (List.mem_of_getElem? hyj); omega
            clear h5
            go_wp2
            go_ret2
            exact ⟨⟨_, _, rfl, Or.inr (Or.inl ⟨rfl, hbad.out⟩)⟩, bW.out.trans (hb2.out.mono bW.out.size)⟩
          · go_wp2
            go_ret2
            exact ⟨⟨_, _, rfl, Or.inr (Or.inr rfl)⟩, bW.out.trans (hb2.out.mono bW.out.size)⟩
      · obtain rfl : j = v.list.length := by omega
        have hok : Hid (CsvOk v) := hide ⟨hkh.out, fun y hy => by
          obtain ⟨i, hi, rfl⟩ := List.getElem_of_mem hy
          exact hall.out i _ hi (List.getElem?_eq_getElem hi)⟩
        rw [List.take_length]
        replace hb := hide hb
        go_wp2
        go_ret2
        exact ⟨⟨_, _, rfl, Or.inl ⟨rfl, hok.out, rfl⟩⟩, bW.out.trans (hb.out.mono bW.out.size)⟩
  · have hkb : ((v.kind : Int) != 5) = true := by simp; exact hk
    have hbad : Hid (¬ CsvOk v) := hide fun hok => hk hok.1
    replace hk := hide hk
    go_enter Tryz.func58, Tryz.ntmps58
    go_upto_region 1 with fail
    rw [← hW]
    clear hW
    go_wp2
    go_ret2
    exact ⟨⟨_, _, rfl, Or.inr (Or.inl ⟨rfl, hbad.out⟩)⟩, bW.out⟩
end Go.Proofs.YtbnbemacljjimaaGreatDoor

namespace Go.Proofs.YtbnbemacljjimaaGreatDoor
open Go.RowKit Go.Lib
set_option linter.unusedVariables false

theorem fld_eq (y : JV) (h : NoNul y.text) : fldS y = fld y := by
  unfold fldS fld
  by_cases h4 : y.kind = 4
  · rw [if_pos h4, if_neg (by omega), if_pos h4]
    unfold quoS quo dblT
    rw [dbl_esc _ h]
  · rw [if_neg h4]
    unfold bareT
    by_cases h0 : y.kind = 0
    · rw [if_pos h0, if_pos h0]
    · rw [if_neg h0, if_neg h0, if_neg h4, if_neg h4]

theorem row_eq (xs : List JV) (h : ∀ y ∈ xs, NoNul y.text) : rowS xs = rowT xs := by
  unfold rowS rowT
  rw [List.map_congr_left (fun y hy => fld_eq y (h y hy))]

def FmtSays (v : JV) (e : Ending) : Prop := ∃ (s : ByteArray) (how : Int), e = .returned (.tuple #[.string s, .int .i64 how]) ∧ ((how = 0 ∧ CsvOk v ∧ s = rowT v.list) ∨ (how = 1 ∧ ¬ CsvOk v) ∨ how = 2)

set_option maxHeartbeats 2000000 in
set_option maxRecDepth 100000 in
theorem format_any (n : Nat) (w : World) (B : Nat) (x : Value) (v : JV) (hx : JAt w B (n + 2) x v) (hlen : v.list.length ≤ 400) (he : ∀ y ∈ v.list, Elem y ∧ 0 ≤ y.kind ∧ y.kind ≤ 6) (hB : B ≤ w.heap.size) :
    Calls Tryz.prog 39 #[.string ⟨#[99, 115, 118]⟩, x] w fun e w' => FmtSays v e ∧ Below w.heap.size w w' := by
  have hx' := hide hx
  obtain ⟨la, lc, ka, kc, va, vc, rfl, -⟩ := hx
  obtain ⟨W, hW⟩ : ∃ W, W = w.alloc (.cells #[.int .i64 v.kind, .int .i64 v.half, .string v.text, .slice la v.list.length lc, .slice ka v.keys.length kc, .slice va v.vals.length vc] 26) := ⟨_, rfl⟩
  have bW : Below w.heap.size w W := by rw [hW]; exact (Below.refl _ _).alloc (Nat.le_refl _) _
  have kW := Blk.new w 26 #[.int .i64 v.kind, .int .i64 v.half, .string v.text, .slice la v.list.length lc, .slice ka v.keys.length kc, .slice va v.vals.length vc]
  rw [← hW] at kW
  have hxW : JAt W B (n + 2) _ v := JAt.keep (fun p hp => bW.cell (by omega)) (Nat.le_refl _) (n + 2) _ _ hx'.out
  have hBW := Nat.le_trans hB bW.size
  have hN := hide (nul_any n W B _ v hxW hBW)
  obtain ⟨q0, q1, q2, q3, q4, q5⟩ := blk_six kW
  have hkl := kW.lt
  replace bW := hide bW
  replace kW := hide kW
  replace hxW := hide hxW
  replace he := hide he
  go_enter Tryz.func39, Tryz.ntmps39
  go_upto_region 1 with fail
  rw [← hW]
  clear hW
  go_wp2_with fail
  refine hN.out.mono ?_
  rintro e W1 ⟨⟨b, rfl, hno⟩, b1⟩
  have k1 := kW.out.below b1 hkl
  have hb1 := hide (bW.out.trans (b1.mono bW.out.size))
  have hrow := hide (row_any n W1 B _ v (JAt.keep (fun p hp => b1.cell (by omega)) (Nat.le_refl _) (n + 2) _ _ hxW.out) hlen he.out (Nat.le_trans hBW b1.size))
  clear b1
  obtain ⟨q0, q1, q2, q3, q4, q5⟩ := blk_six k1
  replace k1 := hide k1
  cases b
  · obtain ⟨-, hnl⟩ := hno rfl
    have heq := hide (row_eq v.list hnl)
    replace hno := hide hno
    replace hnl := hide hnl
    go_wp2_with fail
    refine hrow.out.mono ?_
    rintro e W2 ⟨⟨s, how, rfl, hs⟩, b2⟩
    replace hs := hide hs
    replace b2 := hide b2
    go_wp2
    go_ret2
    refine ⟨⟨_, _, rfl, ?_⟩, hb1.out.trans (b2.out.mono hb1.out.size)⟩
    rcases hs.out with ⟨h1, h2, h3⟩ | h1 | h1
    · exact Or.inl ⟨h1, h2, by rw [← heq.out]; exact h3⟩
    · exact Or.inr (Or.inl h1)
    · exact Or.inr (Or.inr h1)
  · replace hno := hide hno
    go_wp2
    go_ret2
    exact ⟨⟨_, _, rfl, Or.inr (Or.inr rfl)⟩, hb1.out⟩

/-- It is a truth value. -/
def BoolE (e : Ending) : Prop := ∃ b, e = .returned (.bool b)
def CtlSays (n : Nat) : Prop := ∀ (w : World) (B : Nat) (x : Value) (v : JV), JAt w B n x v → Good n v → B ≤ w.heap.size →
    Calls Tryz.prog 14 #[x] w fun e w' => BoolE e ∧ Below w.heap.size w w'

set_option maxHeartbeats 4000000 in
set_option maxRecDepth 100000 in
theorem control_step (n : Nat) (ih : CtlSays n) : CtlSays (n + 1) := by
  intro w B x v hx hg hB
  obtain ⟨la, lc, ka, kc, va, vc, rfl, hl1, hl2, hl3, hl4, hl5, hl6, hl7, -, -, hla, hka, hva⟩ := hx
  obtain ⟨W, hW⟩ : ∃ W, W = w.alloc (.cells #[.int .i64 v.kind, .int .i64 v.half, .string v.text, .slice la v.list.length lc, .slice ka v.keys.length kc, .slice va v.vals.length vc] 26) := ⟨_, rfl⟩
  have bW : Below w.heap.size w W := by rw [hW]; exact (Below.refl _ _).alloc (Nat.le_refl _) _
  have kW := Blk.new w 26 #[.int .i64 v.kind, .int .i64 v.half, .string v.text, .slice la v.list.length lc, .slice ka v.keys.length kc, .slice va v.vals.length vc]
  rw [← hW] at kW
  have c2 := kW.cell 2
  have c4 := kW.cell 4
  simp at c2 c4
  have hkl := kW.lt
  obtain ⟨i0, hi0, hz0, hz1, hz2⟩ := info_parts Tryz.infoStr
  have hgk : v.keys.length ≤ 400 := by have := hg.2.2.2.2.2.1; have := hg.2.2.2.2.2.2.2.2.2.2.1; omega
  obtain ⟨W1, hW1⟩ : ∃ W1, W1 = W.alloc (.cells #[.string v.text] 9) := ⟨_, rfl⟩
  have b1 : Below W.heap.size W W1 := by rw [hW1]; exact (Below.refl _ _).alloc (Nat.le_refl _) _
  have own1 : W1.ownsRow W.heap.size 9 1 (.slice (some ⟨W.heap.size, 0, none⟩) 1 1) 1 [.string v.text] := by
    rw [hW1]
    exact ⟨rfl, .inr ⟨_, _, _, rfl, Nat.le_refl _, Blk.new _ _ _, Nat.le_refl _, by unfold maxLen; decide, rfl, rfl⟩⟩
  have hka1 : StrsAt W1 B ka v.keys := hka.keep (fun p hp => (b1.cell (by have := bW.size; omega)).trans (bW.cell (by omega))) (Nat.le_refl _)
  have hrd : Reads W1 B 1 ka v.keys.length (v.keys.map Value.string) := by
    refine ⟨by simp, fun hpos => ?_⟩
    obtain ⟨b, o, rfl, hb, hc⟩ := hka1.2 hpos
    refine ⟨_, rfl, hb, fun j u hu => ?_⟩
    rw [List.getElem?_map] at hu
    obtain ⟨s, hs, rfl⟩ := Option.map_eq_some_iff.1 hu
    have e : (⟨b, o, none⟩ : Addr).add j = ⟨b, o + j, none⟩ := by
      unfold Addr.add
      split
      · rename_i h0; subst h0; rfl
      · rfl
    rw [e]
    exact hc j s hs
  have k1 := kW.below b1 hkl
  have hkl1 := k1.lt
  have d4 := k1.cell 4
  simp at d4
  have hs1 : W.heap.size ≤ W1.heap.size := b1.size
  have hks : ∀ s ∈ v.text :: v.keys, s.size ≤ 9223372036854775807 := fun s hs => by
    rcases List.mem_cons.1 hs with rfl | hs
    · exact hl7
    · exact hka.1 s hs
  replace own1 := hide own1
  replace hrd := hide hrd
  replace b1 := hide b1
  replace hks := hide hks
  replace hi0 := hide hi0
  replace hz0 := hide hz0
  replace hz1 := hide hz1
  replace hz2 := hide hz2
  clear hka1
  replace bW := hide bW
  replace kW := hide kW
  replace k1 := hide k1
  replace hla := hide hla
  replace hka := hide hka
  replace hva := hide hva
  replace hg := hide hg
  replace ih := hide ih
  go_enter Tryz.func14, Tryz.ntmps14
  go_upto_region 1 with fail
  rw [← hW]
  clear hW
  go_wp2_with (refine wpList_append_any _ rfl (.tmp 10) (.tmp 12) 24 rfl W.heap.size 9 i0 _ 1 16 Tryz.underlying24 hi0.out hz0.out hz1.out hz2.out rfl (Nat.zero_lt_succ 0) (.slice (some ⟨W.heap.size, 0, none⟩) 1 1) 1 [.string v.text] rfl (by rw [← hW1]; exact own1.out) B ka v.keys.length kc (v.keys.map Value.string) rfl (by rw [← hW1]; exact hrd.out) (by intro u hu; obtain ⟨s, _, rfl⟩ := List.mem_map.1 hu; rfl) (by unfold maxLen; omega) (by omega) (by rw [← hW1]; exact hs1) ?_; rw [← hW1]; clear hW1; intro v2 W2 own2 g2 loc2; obtain ⟨gb, cap2, hv2⟩ := Go.Joins.ownsRow_form own2 (by omega); subst hv2; replace own2 := hide own2; replace g2 := hide g2; clear loc2)
  have hlx : (v.text :: v.keys).length = 1 + v.keys.length := by rw [List.length_cons]; omega
  have hcx : ∀ j s, (v.text :: v.keys)[j]? = some s → W2.cell? ⟨gb, j, none⟩ = some (.string s) := fun j s hs => by
    have hj : j < 1 + v.keys.length := by rw [← hlx]; exact (List.getElem?_eq_some_iff.1 hs).1
    rw [own2.out.cellAt j (by omega)]
    have e : ([Value.string v.text] ++ v.keys.map Value.string) = (v.text :: v.keys).map Value.string := rfl
    rw [e, List.getElem?_map, hs]
    rfl
  have k2 : Blk W2 w.heap.size 26 #[.int .i64 v.kind, .int .i64 v.half, .string v.text, .slice la v.list.length lc, .slice ka v.keys.length kc, .slice va v.vals.length vc] := k1.out.grown g2.out (by intro e; simp [Value.ownBlock] at e; omega)
  have b2 : Below W.heap.size W W2 := b1.out.grown g2.out b1.out.size (by intro k hk; simp [Value.ownBlock] at hk; omega)
  have e3 := k2.cell 3
  have e5 := k2.cell 5
  simp at e3 e5
  have hkl2 := k2.lt
  have bb2 := hide (bW.out.trans (b2.mono bW.out.size))
  replace hcx := hide hcx
  replace k2 := hide k2
  replace b2 := hide b2
  clear own2 g2 own1 hrd b1 kW k1 hi0 hz0 hz1 hz2 c2 c4 d4 hka
  replace hlx := hide hlx
  go_wp2
  go_loop [15] (fun s15 => ∃ j : Nat, s15 = .int .i64 j ∧ j ≤ 1 + v.keys.length) (fun i => (1 + v.keys.length) - (RowKit.intOf i).toNat)
  case atStart => exact ⟨0, rfl, Nat.zero_le _⟩
  case round =>
    obtain ⟨j, rfl, hj⟩ := hrel
    by_cases hjl : j < 1 + v.keys.length
    · have hji : (j : Int) < 1 + (v.keys.length : Int) := by omega
      obtain ⟨s, hsj⟩ : ∃ s, (v.text :: v.keys)[j]? = some s := ⟨_, List.getElem?_eq_getElem (by rw [hlx.out]; exact hjl)⟩
      have f0 := hcx.out j s hsj
      have hss := hks.out s (List.mem_of_getElem? hsj)
      replace hsj := hide hsj
      go_wp2
      go_loop [5] (fun s5 => ∃ i : Nat, s5 = .int .i64 i ∧ i ≤ s.size) (fun i => s.size - (RowKit.intOf i).toNat)
      case atStart => exact ⟨0, rfl, Nat.zero_le _⟩
      case round =>
        obtain ⟨i, rfl, hi⟩ := hrel
        by_cases hil : i < s.size
        · go_wp2
          all_goals first
          | (go_round
             case rel => exact ⟨i + 1, by go_num, by omega⟩
             case measure => simp [RowKit.intOf]; omega)
          | (go_ret
             exact ⟨⟨true, rfl⟩, bb2.out⟩)
        · go_wp2
          go_round
          case rel => exact ⟨j + 1, by go_num, by omega⟩
          case measure => simp [RowKit.intOf]; omega
    · have hji : ¬ (j : Int) < 1 + (v.keys.length : Int) := by omega
      go_wp2
      go_loopw [6] (fun s6 wr => ∃ j : Nat, s6 = .int .i64 j ∧ j ≤ v.list.length ∧ Below W2.heap.size W2 wr) (fun i _ => v.list.length - (RowKit.intOf i).toNat)
      case atStart => exact ⟨0, rfl, Nat.zero_le _, Below.refl _ _⟩
      case round =>
        obtain ⟨q, rfl, hq, hbq⟩ := hrel
        have kq := k2.out.below hbq hkl2
        have e3 := kq.cell 3
        simp at e3
        replace kq := hide kq
        by_cases hql : q < v.list.length
        · obtain ⟨bk, ofs, rfl, hbk, hcs⟩ := hla.out (by omega)
          obtain ⟨y, hyj⟩ : ∃ x, v.list[q]? = some x := ⟨_, List.getElem?_eq_getElem hql⟩
          obtain ⟨a0, a1, a2, a3, a4, a5, r0, r1, r2, r3, r4, r5, hyy⟩ := hcs q y hyj
          have hfr : ∀ p : Addr, p.block < B → wr.cell? p = w.cell? p := fun p hp => (hbq.cell (by have := bb2.out.size; omega)).trans (bb2.out.cell (by omega))
          replace r0 := (hfr ⟨bk, _, none⟩ hbk).trans r0
          replace r1 := (hfr ⟨bk, _, none⟩ hbk).trans r1
          replace r2 := (hfr ⟨bk, _, none⟩ hbk).trans r2
          replace r3 := (hfr ⟨bk, _, none⟩ hbk).trans r3
          replace r4 := (hfr ⟨bk, _, none⟩ hbk).trans r4
          replace r5 := (hfr ⟨bk, _, none⟩ hbk).trans r5
          have hcy := hide (ih.out wr B _ y (JAt.keep hfr (Nat.le_refl _) n _ _ hyy) (hg.out.2.2.2.2.2.2.2.2.2.2.2.1 y (List.mem_of_getElem? hyj)) (by have := bb2.out.size; have := hbq.size; omega))
          have hbq' := hide hbq
          clear hcs hfr hyy hbq
          go_wp2_with (go_at_call 14; refine hcy.out.mono ?_; rintro e W4 ⟨⟨b, rfl⟩, b4⟩; have b5 := hide (hbq'.out.trans (b4.mono hbq'.out.size)); clear b4)
          all_goals first
          | (go_roundw
             case rel => exact ⟨q + 1, by go_num, by omega, b5.out⟩
             case measure => simp [RowKit.intOf]; omega)
          | (go_ret
             exact ⟨⟨true, rfl⟩, bb2.out.trans (b5.out.mono bb2.out.size)⟩)
        · have e5 := kq.out.cell 5
          simp at e5
          have hbq' := hide hbq
          have kql := kq.out.lt
          obtain ⟨W3, hW3⟩ : ∃ W3 : World, W3 = wr := ⟨_, rfl⟩
          go_wp2
          go_loopw [7] (fun s7 wx => ∃ j : Nat, s7 = .int .i64 j ∧ j ≤ v.vals.length ∧ Below W2.heap.size W2 wx) (fun i _ => v.vals.length - (RowKit.intOf i).toNat)
          case atStart => exact ⟨0, rfl, Nat.zero_le _, hbq'.out⟩
          case round =>
            obtain ⟨p, rfl, hp, hbp⟩ := hrel
            have kp := k2.out.below hbp hkl2
            have e5 := kp.cell 5
            simp at e5
            replace kp := hide kp
            by_cases hpl : p < v.vals.length
            · obtain ⟨bk, ofs, rfl, hbk, hcs⟩ := hva.out (by omega)
              obtain ⟨y, hyj⟩ : ∃ x, v.vals[p]? = some x := ⟨_, List.getElem?_eq_getElem hpl⟩
              obtain ⟨a0, a1, a2, a3, a4, a5, r0, r1, r2, r3, r4, r5, hyy⟩ := hcs p y hyj
              have hfr : ∀ a : Addr, a.block < B → wr.cell? a = w.cell? a := fun a ha => (hbp.cell (by have := bb2.out.size; omega)).trans (bb2.out.cell (by omega))
              replace r0 := (hfr ⟨bk, _, none⟩ hbk).trans r0
              replace r1 := (hfr ⟨bk, _, none⟩ hbk).trans r1
              replace r2 := (hfr ⟨bk, _, none⟩ hbk).trans r2
              replace r3 := (hfr ⟨bk, _, none⟩ hbk).trans r3
              replace r4 := (hfr ⟨bk, _, none⟩ hbk).trans r4
              replace r5 := (hfr ⟨bk, _, none⟩ hbk).trans r5
              have hcy := hide (ih.out wr B _ y (JAt.keep hfr (Nat.le_refl _) n _ _ hyy) (hg.out.2.2.2.2.2.2.2.2.2.2.2.2.2.2 y (List.mem_of_getElem? hyj)) (by have := bb2.out.size; have := hbp.size; omega))
              have hbp' := hide hbp
              clear hcs hfr hyy hbp
              go_wp2_with (go_at_call 14; refine hcy.out.mono ?_; rintro e W4 ⟨⟨b, rfl⟩, b4⟩; have b5 := hide (hbp'.out.trans (b4.mono hbp'.out.size)); clear b4)
              all_goals first
              | (go_roundw
                 case rel => exact ⟨p + 1, by go_num, by omega, b5.out⟩
                 case measure => simp [RowKit.intOf]; omega)
              | (go_ret
                 exact ⟨⟨true, rfl⟩, bb2.out.trans (b5.out.mono bb2.out.size)⟩)
            · have hbp' := hide hbp
              clear hbp
              go_wp2
              go_ret
              exact ⟨⟨false, rfl⟩, bb2.out.trans (hbp'.out.mono bb2.out.size)⟩

theorem control_any : ∀ n : Nat, CtlSays n
  | 0 => fun w B x v hx hg hB => absurd hg (fun h => h)
  | n + 1 => control_step n (control_any n)
end Go.Proofs.YtbnbemacljjimaaGreatDoor
