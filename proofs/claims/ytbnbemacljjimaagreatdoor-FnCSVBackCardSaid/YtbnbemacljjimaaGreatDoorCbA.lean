/- plainRow: the texts of a row's elements. -/
import Derived.Test.YtbnbemacljjimaaGreatDoorJsD
import Derived.Test.YtbnbemacljjimaaGreatDoorBigA
namespace Go.Proofs.YtbnbemacljjimaaGreatDoor
open Go.RowKit Go.Lib
set_option linter.unusedVariables false

/-- What String says of a value. -/
def StrSays (v : JV) (e : Ending) : Prop := ∃ (s : ByteArray) (how : Int), e = .returned (.tuple #[.string s, .int .i64 how]) ∧ ((how = 0 ∧ (v.kind ≤ 4 → s = if v.kind = 4 then v.text else stxt v)) ∨ how = 2)

set_option maxHeartbeats 2000000 in
set_option maxRecDepth 100000 in
theorem stringF_any (n : Nat) (w : World) (B : Nat) (x : Value) (v : JV) (hx : JAt w B (n + 1) x v) (hg : Good (n + 1) v) (hby : JV.bytes (n + 1) v ≤ 2000) (hpt : JV.parts (n + 1) v ≤ 400) (hB : B ≤ w.heap.size) :
    Calls Tryz.prog 36 #[x] w fun e w' => StrSays v e ∧ Below w.heap.size w w' := by
  by_cases k4 : v.kind ≤ 4
  · refine (stringS_any n w B x v hx ⟨hg.1.1, k4⟩ hg.2.2.2.2.2.2.1 hB).mono ?_
    rintro e w' ⟨⟨s, how, rfl, hor⟩, hb⟩
    refine ⟨⟨s, how, rfl, ?_⟩, hb⟩
    rcases hor with ⟨h1, h2⟩ | h1
    · exact Or.inl ⟨h1, fun _ => h2⟩
    · exact Or.inr h1
  have hx' := hide hx
  obtain ⟨la, lc, ka, kc, va, vc, rfl, -⟩ := hx
  obtain ⟨W, hW⟩ : ∃ W, W = w.alloc (.cells #[.int .i64 v.kind, .int .i64 v.half, .string v.text, .slice la v.list.length lc, .slice ka v.keys.length kc, .slice va v.vals.length vc] 26) := ⟨_, rfl⟩
  have bW : Below w.heap.size w W := by rw [hW]; exact (Below.refl _ _).alloc (Nat.le_refl _) _
  have hj := hide (json_any (n + 1) W B _ v (JAt.keep (fun p hp => bW.cell (by omega)) (Nat.le_refl _) (n + 1) _ _ hx'.out) hg hby hpt (by have := bW.size; omega))
  have kb : ((v.kind : Int) == 4) = false := by simp; omega
  replace k4 := hide k4
  replace bW := hide bW
  replace hg := hide hg
  go_enter Tryz.func36, Tryz.ntmps36
  go_wp2_with fail
  rw [← hW]
  clear hW
  refine hj.out.mono ?_
  rintro e w1 ⟨⟨s, how, rfl, hs1⟩, b1⟩
  replace hs1 := hide hs1
  replace b1 := hide b1
  go_wp2
  go_ret2
  refine ⟨⟨_, _, rfl, ?_⟩, bW.out.trans (b1.out.mono bW.out.size)⟩
  rcases hs1.out with ⟨h1, -⟩ | h1
  · exact Or.inl ⟨h1, fun h => absurd h (by have := k4.out; omega)⟩
  · exact Or.inr h1

theorem Tryz.infoStr2 : (Tryz.prog.info? 9).map (fun i => (i.zero, i.size, i.bytes)) = some (some (.string ⟨#[]⟩), 1, 16) := by kernel_rfl

theorem reads_one {w : World} {g : Nat} {a0 : Value} {t : TypeId} (h : Blk w g t #[a0]) : Reads w (g + 1) 1 (some ⟨g, 0, none⟩) 1 [a0] := by
  refine ⟨rfl, fun _ => ⟨_, rfl, by simp, fun j u hu => ?_⟩⟩
  have : (⟨g, 0, none⟩ : Addr).add j = ⟨g, j, none⟩ := by unfold Addr.add; split <;> simp_all
  rw [this, h.cell, ← hu]; simp
theorem str_ones (s : ByteArray) : ∀ u ∈ ([.string s] : List Value), u.oneCell' = true := by
  intro u hu
  simp at hu
  subst hu
  rfl

/-- The row's texts so far. -/
structure Pl (xs : List JV) (w wr : World) (v : Value) (j : Nat) : Prop where
  bel : Below w.heap.size w wr
  own : wr.ownsRow w.heap.size 9 1 v j ((xs.take j).map (fun y => Value.string (bareT y)))
  all : ∀ (i : Nat) y, i < j → xs[i]? = some y → y.kind ≤ 4 ∧ NoNul y.text

theorem Pl.next {xs : List JV} {w wr w3 w4 : World} {v v' : Value} {j : Nat} {y : JV} (h : Pl xs w wr v j) (hy : xs[j]? = some y) (hk : y.kind ≤ 4) (hn : NoNul y.text) (hb : Below wr.heap.size wr w3) (hg : w3.grownBy w4 v.ownBlock)
    (ho : w4.ownsRow w.heap.size 9 1 v' (j + 1) ((xs.take j).map (fun y => Value.string (bareT y)) ++ [.string (bareT y)])) : Pl xs w w4 v' (j + 1) := by
  refine ⟨below_grown (h.bel.trans (hb.mono h.bel.size)) (own_below h.own hb) hg, ?_, fun i z hi hz => ?_⟩
  · rw [List.take_add_one, hy, Option.toList_some, List.map_append, List.map_singleton]
    exact ho
  · rcases Nat.lt_or_ge i j with hlt | hge
    · exact h.all i z hlt hz
    · obtain rfl : i = j := by omega
      rw [hy] at hz
      cases hz
      exact ⟨hk, hn⟩

/-- What plainRow ends with. -/
def PlainSays (xs : List JV) (w w' : World) (e : Ending) : Prop := (∃ x, e = .returned (.tuple #[x, .bool false])) ∨ ∃ x, e = .returned (.tuple #[x, .bool true]) ∧ 0 < xs.length ∧ Pl xs w w' x xs.length

set_option maxHeartbeats 800000 in
set_option maxRecDepth 100000 in
theorem plainRow_any (w : World) (B : Nat) (A : Option Addr) (c : Nat) (xs : List JV) (hlen : xs.length ≤ 2147483648) (hB : B ≤ w.heap.size) (hc : xs.length ≤ c) (hm : c ≤ 9223372036854775807) (hx : VecAt (JAt w B 62) w B A xs) (hg : ∀ x ∈ xs, Good 62 x ∧ JV.parts 62 x ≤ 400 ∧ JV.bytes 62 x ≤ 2000) :
    Calls Tryz.prog 15 #[.slice A xs.length c] w fun e w' => PlainSays xs w w' e ∧ Below w.heap.size w w' := by
  obtain ⟨i9, hi9, hy0, hy1, hy2⟩ := info_parts Tryz.infoStr2
  replace hi9 := hide hi9
  replace hy0 := hide hy0
  replace hy1 := hide hy1
  replace hy2 := hide hy2
  replace hx := hide hx
  replace hg := hide hg
  go_enter Tryz.func15, Tryz.ntmps15
  go_wp2
  go_loopw [4, 5] (fun s4 s5 wr => ∃ j : Nat, s5 = .int .i64 j ∧ j ≤ xs.length ∧ Pl xs w wr s4 j) (fun _ i _ => xs.length - (RowKit.intOf i).toNat)
  case atStart => exact ⟨0, rfl, Nat.zero_le _, Below.refl _ _, ⟨rfl, Or.inl ⟨rfl, rfl⟩⟩, fun i y hi => absurd hi (by omega)⟩
  case round =>
    obtain ⟨j, rfl, hj, hl⟩ := hrel
    by_cases hjl : j < xs.length
    · obtain ⟨bk, ofs, rfl, hbk, hcs⟩ := hx.out (by omega)
      obtain ⟨y, hyj⟩ : ∃ y, xs[j]? = some y := ⟨_, List.getElem?_eq_getElem hjl⟩
      obtain ⟨c0, c1, c2, c3, c4, c5, e0, e1, e2, e3, e4, e5, hxx⟩ := hcs j y hyj
      obtain ⟨hgy, hpt, hby⟩ := hg.out y (List.mem_of_getElem? hyj)
      have hxx' := hxx
      obtain ⟨la, lc, ka, kc, va, vc, hagg, -⟩ := hxx'
      simp at hagg
      obtain ⟨rfl, rfl, rfl, rfl, rfl, rfl⟩ := hagg
      have hfr : Hid (∀ W', Below w.heap.size w W' → bk < W'.heap.size ∧ W'.cell? ⟨bk, ofs + j * 6, none⟩ = some (.int .i64 y.kind) ∧ W'.cell? ⟨bk, ofs + j * 6 + 1, none⟩ = some (.int .i64 y.half) ∧ W'.cell? ⟨bk, ofs + j * 6 + 2, none⟩ = some (.string y.text) ∧ W'.cell? ⟨bk, ofs + j * 6 + 3, none⟩ = some (.slice la y.list.length lc) ∧ W'.cell? ⟨bk, ofs + j * 6 + 4, none⟩ = some (.slice ka y.keys.length kc) ∧ W'.cell? ⟨bk, ofs + j * 6 + 5, none⟩ = some (.slice va y.vals.length vc) ∧ JAt W' B 62 (.agg #[.int .i64 y.kind, .int .i64 y.half, .string y.text, .slice la y.list.length lc, .slice ka y.keys.length kc, .slice va y.vals.length vc]) y) := hide fun W' h => by
        have hs := h.size
        have hq : ∀ p : Addr, p.block < B → W'.cell? p = w.cell? p := fun p hp => h.cell (by omega)
        exact ⟨by omega, (hq _ hbk).trans e0, (hq _ hbk).trans e1, (hq _ hbk).trans e2, (hq _ hbk).trans e3, (hq _ hbk).trans e4, (hq _ hbk).trans e5, JAt.keep hq (Nat.le_refl _) 62 _ _ hxx⟩
      clear hcs hxx e0 e1 e2 e3 e4 e5
      have hbw := hl.bel
      have hsr := hbw.size
      obtain ⟨hbl, e0, e1, e2, e3, e4, e5, hxr⟩ := hfr.out wr hbw
      have hS := hide (stringF_any 61 wr B _ y hxr hgy hby hpt (by omega))
      have hk0 := hgy.1.1
      replace hl := hide hl
      replace hbw := hide hbw
      replace hxr := hide hxr
      replace hgy := hide hgy
      go_wp2_with fail
      refine hS.out.mono ?_
      rintro e w1 ⟨⟨s, how, rfl, hor⟩, b1⟩
      clear e0 e1 e2 e3 e4 e5
      have hb1 := hide (hbw.out.trans (b1.mono hsr))
      obtain ⟨hbl1, e0, e1, e2, e3, e4, e5, hxr1⟩ := hfr.out w1 hb1.out
      have hsr1 := b1.size
      have hN := hide (nul_any 60 w1 B _ y hxr1 (by omega))
      replace hxr1 := hide hxr1
      replace b1 := hide b1
      rcases hor with ⟨rfl, hst⟩ | rfl
      · by_cases k4 : y.kind ≤ 4
        · have g5 : ((y.kind : Int) == 5) = false := by simp; omega
          have g6 : ((y.kind : Int) == 6) = false := by simp; omega
          replace hst := hide (hst k4)
          replace k4 := hide k4
          clear hS hk0 hj hsr1
          go_wp2_with fail
          refine hN.out.mono ?_
          rintro e w2 ⟨⟨b, rfl, hnn⟩, b2⟩
          clear e0 e1 e2 e3 e4 e5
          have hb2 := hide (hb1.out.trans (b2.mono hb1.out.size))
          obtain ⟨hbl2, e0, e1, e2, e3, e4, e5, -⟩ := hfr.out w2 hb2.out
          have hb02 := hide (b1.out.trans (b2.mono b1.out.size))
          have hsr2 := hb2.out.size
          replace b2 := hide b2
          cases b
          · have hnt := hide (hnn rfl).1
            clear hnn
            by_cases k0 : y.kind = 0
            · have g0 : ((y.kind : Int) == 0) = true := by simp; exact k0
              have hbt : Hid (bareT y = ⟨#[]⟩) := hide (by unfold bareT; rw [if_pos k0])
              have b23 : Below wr.heap.size wr (w2.alloc (.cells #[.string ⟨#[]⟩] 9)) := hb02.out.alloc hb02.out.size _
              have hown3 := hide (own_below hl.out.own b23)
              have hrd := hide (reads_one (Blk.new w2 9 #[.string ⟨#[]⟩]))
              have h63 : Hid (j + 1 ≤ maxLen) := hide (by unfold maxLen; omega)
              have hby6 : Hid ((j + 1) * 16 ≤ 140737488355328) := hide (by omega)
              have hbs : Hid (w.heap.size ≤ (w2.alloc (.cells #[.string ⟨#[]⟩] 9)).heap.size) := hide (Nat.le_trans hsr (hb02.out.alloc hb02.out.size _).size)
              replace b23 := hide b23
              replace k0 := hide k0
              go_wp2_with (refine wpList_append_any _ rfl (.tmp 53) (.tmp 55) 24 rfl w.heap.size 9 i9 _ 1 16 Tryz.underlying24 hi9.out hy0.out hy1.out hy2.out rfl (Nat.zero_lt_succ 0) _ j _ rfl hown3.out (w2.heap.size + 1) (some ⟨w2.heap.size, 0, none⟩) 1 1 [.string ⟨#[]⟩] rfl hrd.out (str_ones _) h63.out hby6.out hbs.out ?_; intro v' w4 own4 g4 loc4; have hnx := hide (hl.out.next hyj k4.out hnt.out b23.out g4 (by rw [hbt.out]; exact own4)); clear own4 g4 loc4)
              go_roundw
              case rel => exact ⟨j + 1, by go_num, by omega, hnx.out⟩
              case measure => simp [RowKit.intOf]; omega
            · have g0 : ((y.kind : Int) == 0) = false := by simp; exact k0
              have hbt : Hid (bareT y = s) := hide (by unfold bareT; rw [if_neg k0, hst.out])
              have b23 : Below wr.heap.size wr (w2.alloc (.cells #[.string s] 9)) := hb02.out.alloc hb02.out.size _
              have hown3 := hide (own_below hl.out.own b23)
              have hrd := hide (reads_one (Blk.new w2 9 #[.string s]))
              have h63 : Hid (j + 1 ≤ maxLen) := hide (by unfold maxLen; omega)
              have hby6 : Hid ((j + 1) * 16 ≤ 140737488355328) := hide (by omega)
              have hbs : Hid (w.heap.size ≤ (w2.alloc (.cells #[.string s] 9)).heap.size) := hide (Nat.le_trans hsr (hb02.out.alloc hb02.out.size _).size)
              replace b23 := hide b23
              replace k0 := hide k0
              go_wp2_with (refine wpList_append_any _ rfl (.tmp 53) (.tmp 55) 24 rfl w.heap.size 9 i9 _ 1 16 Tryz.underlying24 hi9.out hy0.out hy1.out hy2.out rfl (Nat.zero_lt_succ 0) _ j _ rfl hown3.out (w2.heap.size + 1) (some ⟨w2.heap.size, 0, none⟩) 1 1 [.string s] rfl hrd.out (str_ones _) h63.out hby6.out hbs.out ?_; intro v' w4 own4 g4 loc4; have hnx := hide (hl.out.next hyj k4.out hnt.out b23.out g4 (by rw [hbt.out]; exact own4)); clear own4 g4 loc4)
              go_roundw
              case rel => exact ⟨j + 1, by go_num, by omega, hnx.out⟩
              case measure => simp [RowKit.intOf]; omega
          · clear hnn
            go_wp2
            go_ret2
            exact ⟨Or.inl ⟨_, rfl⟩, hb2.out⟩
        · have hk56 : y.kind = 5 ∨ y.kind = 6 := by have := hgy.out.1.2; omega
          rcases hk56 with k | k
          · rw [k] at e0
            go_wp2
            go_ret2
            exact ⟨Or.inl ⟨_, rfl⟩, hb1.out⟩
          · rw [k] at e0
            go_wp2
            go_ret2
            exact ⟨Or.inl ⟨_, rfl⟩, hb1.out⟩
      · go_wp2
        go_ret2
        exact ⟨Or.inl ⟨_, rfl⟩, hb1.out⟩
    · obtain rfl : j = xs.length := by omega
      obtain ⟨A', cap, rfl, -, -⟩ := own_sl hl.own
      have hbw := hl.bel
      by_cases h0 : 0 < xs.length
      · have hi0 : (0 : Int) < (xs.length : Int) := by omega
        replace hl := hide hl
        replace hbw := hide hbw
        go_wp2
        go_ret2
        exact ⟨Or.inr ⟨_, rfl, h0, hl.out⟩, hbw.out⟩
      · have hi0 : ¬ (0 : Int) < (xs.length : Int) := by omega
        replace hl := hide hl
        replace hbw := hide hbw
        replace h0 := hide h0
        go_wp2
        go_ret2
        exact ⟨Or.inl ⟨_, by have hd : decide (0 < xs.length) = false := decide_eq_false h0.out; rw [hd]; rfl⟩, hbw.out⟩
end Go.Proofs.YtbnbemacljjimaaGreatDoor

namespace Go.Proofs.YtbnbemacljjimaaGreatDoor
open Go.RowKit Go.Lib
set_option linter.unusedVariables false

theorem get_of {s : ByteArray} {p : Nat} {c : UInt8} (h : s.data.toList[p]? = some c) : ∃ hp : p < s.size, s[p]'hp = c := by
  obtain ⟨hp, e⟩ := List.getElem?_eq_some_iff.1 h
  have hp' : p < s.size := by rw [Array.length_toList] at hp; exact hp
  refine ⟨hp', ?_⟩
  rw [Array.getElem_toList] at e
  exact e

theorem join_at : ∀ (ls : List (List UInt8)) (i : Nat) (l : List UInt8), ls[i]? = some l → ∃ A R, Lib.join ls [44] = A ++ l ++ R ∧ A.length = ((ls.take i).map (fun t => t.length + 1)).sum ∧ ((i + 1 = ls.length ∧ R = []) ∨ (i + 1 < ls.length ∧ ∃ R', R = 44 :: R'))
  | [], i, l, h => by simp at h
  | m :: ls, 0, l, h => by
    simp at h
    subst h
    rw [Lib.join_cons]
    refine ⟨[], Lib.joinTail [44] ls, by simp, by simp, ?_⟩
    rcases ls with _ | ⟨a, ls⟩
    · exact Or.inl ⟨rfl, rfl⟩
    · exact Or.inr ⟨by simp, a ++ Lib.joinTail [44] ls, by unfold Lib.joinTail; simp⟩
  | m :: ls, i + 1, l, h => by
    have h' : ls[i]? = some l := by simpa using h
    obtain ⟨A, R, h1, h2, h3⟩ := join_at ls i l h'
    have hne : ls ≠ [] := by intro e; rw [e] at h'; simp at h'
    obtain ⟨a, ls', rfl⟩ : ∃ a ls', ls = a :: ls' := by
      rcases ls with _ | ⟨a, ls'⟩
      · exact absurd rfl hne
      · exact ⟨a, ls', rfl⟩
    refine ⟨m ++ [44] ++ A, R, ?_, ?_, ?_⟩
    · rw [Lib.join_cons] at h1 ⊢
      have : Lib.joinTail [44] (a :: ls') = [44] ++ (a ++ Lib.joinTail [44] ls') := by
        unfold Lib.joinTail
        simp
      rw [this, h1]
      simp [List.append_assoc]
    · simp only [List.length_append, List.take_succ_cons, List.map_cons, List.sum_cons, h2, List.length_cons, List.length_nil]
    · rcases h3 with ⟨h3, h4⟩ | ⟨h3, h4⟩
      · exact Or.inl ⟨by simp at h3 ⊢; omega, h4⟩
      · exact Or.inr ⟨by simp at h3 ⊢; omega, h4⟩

/-- Where a field starts. -/
def st (xs : List JV) (i : Nat) : Nat := ((xs.take i).map (fun y => (fld y).size + 1)).sum
theorem st_zero (xs : List JV) : st xs 0 = 0 := by simp [st]
theorem st_next {xs : List JV} {i : Nat} {y : JV} (h : xs[i]? = some y) : st xs (i + 1) = st xs i + (fld y).size + 1 := by
  unfold st
  rw [List.take_add_one, h, Option.toList_some, List.map_append, List.sum_append, List.map_singleton, List.sum_singleton, Nat.add_assoc]

theorem toL_len (s : ByteArray) : s.data.toList.length = s.size := by rw [Array.length_toList]; rfl

theorem row_at {xs : List JV} {i : Nat} {y : JV} (h : xs[i]? = some y) : ∃ A R, (rowT xs).data.toList = A ++ (fld y).data.toList ++ R ∧ A.length = st xs i ∧ ((i + 1 = xs.length ∧ R = []) ∨ (i + 1 < xs.length ∧ ∃ R', R = 44 :: R')) := by
  have h' : ((xs.map fld).map (·.data.toList))[i]? = some (fld y).data.toList := by
    rw [List.getElem?_map, List.getElem?_map, h]
    rfl
  obtain ⟨A, R, h1, h2, h3⟩ := join_at _ _ _ h'
  refine ⟨A, R, h1, ?_, by simpa using h3⟩
  rw [h2]
  unfold st
  rw [← List.map_take, ← List.map_take, List.map_map, List.map_map]
  congr 1

/-- What stands at a field's end. -/
def EndAt (s : ByteArray) (p : Nat) : Prop := p = s.size ∨ ∃ hp : p < s.size, (s[p]'hp).toNat = 44
/-- Of the last field the end is the row's, of another a comma. -/
theorem end_at {xs : List JV} {i : Nat} {y : JV} (h : xs[i]? = some y) : (i + 1 = xs.length → st xs i + (fld y).size = (rowT xs).size) ∧ (i + 1 < xs.length → ∃ hp : st xs i + (fld y).size < (rowT xs).size, ((rowT xs)[st xs i + (fld y).size]'hp).toNat = 44) := by
  obtain ⟨A, R, h1, h2, h3⟩ := row_at h
  have hl := congrArg List.length h1
  rw [toL_len, List.length_append, List.length_append, toL_len, h2] at hl
  refine ⟨fun hi => ?_, fun hi => ?_⟩
  · rcases h3 with ⟨-, h4⟩ | ⟨h4, -⟩
    · rw [h4] at hl
      simp at hl
      omega
    · omega
  · rcases h3 with ⟨h4, -⟩ | ⟨-, R', rfl⟩
    · omega
    · obtain ⟨hp, e⟩ := get_of (s := rowT xs) (p := st xs i + (fld y).size) (c := 44) (by
        rw [h1, List.getElem?_append_right (by rw [List.length_append, toL_len, h2]; exact Nat.le_refl _), List.length_append, toL_len, h2, Nat.sub_self]
        rfl)
      exact ⟨hp, by rw [e]; rfl⟩
theorem endAt {xs : List JV} {i : Nat} {y : JV} (h : xs[i]? = some y) : EndAt (rowT xs) (st xs i + (fld y).size) := by
  obtain ⟨h1, h2⟩ := end_at h
  have hi := (List.getElem?_eq_some_iff.1 h).1
  by_cases h3 : i + 1 = xs.length
  · exact Or.inl (h1 h3)
  · exact Or.inr (h2 (by omega))

theorem fld_at {xs : List JV} {i : Nat} {y : JV} (h : xs[i]? = some y) {k : Nat} {c : UInt8} (hk : (fld y).data.toList[k]? = some c) : ∃ hp : st xs i + k < (rowT xs).size, (rowT xs)[st xs i + k]'hp = c := by
  obtain ⟨A, R, h1, h2, h3⟩ := row_at h
  refine get_of ?_
  have hkl := (List.getElem?_eq_some_iff.1 hk).1
  rw [h1, List.append_assoc, List.getElem?_append_right (by omega), h2, List.getElem?_append_left (by omega), Nat.add_sub_cancel_left]
  exact hk

/-- Where the place is once k bytes of a quoted text are read. -/
def qp (xs : List JV) (i : Nat) (y : JV) (k : Nat) : Nat := st xs i + 1 + (escL (y.text.data.toList.take k)).length

theorem fld_quo {y : JV} (h4 : y.kind = 4) : (fld y).data.toList = 34 :: escL y.text.data.toList ++ [34] := by
  unfold fld
  rw [if_neg (by omega), if_pos h4]
  unfold quo
  rw [ByteArray.data_append, ByteArray.data_append, Array.toList_append, Array.toList_append]
  rfl

theorem esc_take {l : List UInt8} {k : Nat} {c : UInt8} (h : l[k]? = some c) : ∃ R, escL l = escL (l.take k) ++ escC c ++ R ∧ escL (l.take (k + 1)) = escL (l.take k) ++ escC c := by
  have h1 : escL (l.take (k + 1)) = escL (l.take k) ++ escC c := by
    rw [List.take_add_one, h, Option.toList_some, escL_snoc]
  refine ⟨escL (l.drop (k + 1)), ?_, h1⟩
  rw [← h1]
  unfold escL
  rw [← List.flatMap_append, List.take_append_drop]

/-- A byte of a quoted text. -/
theorem quo_at {xs : List JV} {i : Nat} {y : JV} (h : xs[i]? = some y) (h4 : y.kind = 4) (hn : NoNul y.text) {k : Nat} (hk : k < y.text.size) :
    ((¬ (y.text[k]).toNat = 34) ∧ ∃ hp : qp xs i y k < (rowT xs).size, (rowT xs)[qp xs i y k]'hp = y.text[k] ∧ qp xs i y (k + 1) = qp xs i y k + 1) ∨
    ((y.text[k]).toNat = 34 ∧ ∃ (hp : qp xs i y k < (rowT xs).size) (hp1 : qp xs i y k + 1 < (rowT xs).size), (rowT xs)[qp xs i y k]'hp = 34 ∧ (rowT xs)[qp xs i y k + 1]'hp1 = y.text[k] ∧ qp xs i y (k + 1) = qp xs i y k + 1 + 1) := by
  have hkt : y.text.data.toList[k]? = some y.text[k] := by
    rw [Array.getElem?_toList, Array.getElem?_eq_getElem (by exact hk)]
    rfl
  obtain ⟨R, h1, h2⟩ := esc_take hkt
  have hf := fld_quo h4
  rw [h1] at hf
  have h0 : y.text[k] ≠ 0 := hn _ (List.mem_of_getElem? hkt)
  by_cases h34 : y.text[k] = 34
  · have he : escC y.text[k] = [34, 34] := by unfold escC; rw [if_pos h34]
    have e1 := fld_at (k := 1 + (escL (y.text.data.toList.take k)).length) (c := 34) h (by rw [hf, he]; simp [Nat.add_comm 1])
    have e2 := fld_at (k := 1 + (escL (y.text.data.toList.take k)).length + 1) (c := 34) h (by rw [hf, he, show 1 + (escL (y.text.data.toList.take k)).length + 1 = ((escL (y.text.data.toList.take k)).length + 1) + 1 by omega]; simp)
    refine Or.inr ⟨by rw [h34]; rfl, ?_⟩
    unfold qp
    rw [h2, he, List.length_append]
    rw [← Nat.add_assoc] at e1
    rw [← Nat.add_assoc, ← Nat.add_assoc] at e2
    obtain ⟨p1, e1⟩ := e1
    obtain ⟨p2, e2⟩ := e2
    exact ⟨p1, p2, e1, by rw [e2, h34], by simp; omega⟩
  · have he : escC y.text[k] = [y.text[k]] := by unfold escC; rw [if_neg h34, if_neg h0]
    have e1 := fld_at (k := 1 + (escL (y.text.data.toList.take k)).length) (c := y.text[k]) h (by rw [hf, he]; simp [Nat.add_comm 1])
    refine Or.inl ⟨fun e => h34 (UInt8.toNat_inj.1 e), ?_⟩
    unfold qp
    rw [h2, he, List.length_append]
    rw [← Nat.add_assoc] at e1
    obtain ⟨p1, e1⟩ := e1
    exact ⟨p1, e1, by simp; omega⟩

/-- A quoted text's ends. -/
theorem quo_ends {xs : List JV} {i : Nat} {y : JV} (h : xs[i]? = some y) (h4 : y.kind = 4) :
    (∃ hp : st xs i < (rowT xs).size, (rowT xs)[st xs i]'hp = 34) ∧ qp xs i y 0 = st xs i + 1 ∧ (∃ hp : qp xs i y y.text.size < (rowT xs).size, (rowT xs)[qp xs i y y.text.size]'hp = 34) ∧ qp xs i y y.text.size + 1 = st xs i + (fld y).size := by
  have hf := fld_quo h4
  have e0 := fld_at (k := 0) (c := 34) h (by rw [hf]; rfl)
  have e1 := fld_at (k := 1 + (escL y.text.data.toList).length) (c := 34) h (by rw [hf, Nat.add_comm 1]; simp)
  have ht : y.text.data.toList.take y.text.size = y.text.data.toList := List.take_of_length_le (by rw [toL_len]; exact Nat.le_refl _)
  refine ⟨e0, by simp [qp, escL], ?_, ?_⟩
  · unfold qp
    rw [ht]
    rw [← Nat.add_assoc] at e1
    exact e1
  · unfold qp
    rw [ht, ← toL_len (fld y), hf]
    simp
    omega

/-- A field that is not quoted. -/
theorem bare_at {xs : List JV} {i : Nat} {y : JV} (h : xs[i]? = some y) (hk : 0 ≤ y.kind ∧ y.kind ≤ 3) : fld y = bareT y ∧ ∀ k (hk : k < (fld y).size), ∃ hp : st xs i + k < (rowT xs).size, (rowT xs)[st xs i + k]'hp = (fld y)[k] ∧ ¬ ((fld y)[k]).toNat = 44 ∧ ¬ ((fld y)[k]).toNat = 34 := by
  have e : fld y = bareT y := by
    unfold fld bareT
    rw [if_neg (show ¬ y.kind = 4 by omega)]
    split
    · rfl
    · rw [if_neg (by omega)]
  refine ⟨e, fun k hk2 => ?_⟩
  have hkt : (fld y).data.toList[k]? = some (fld y)[k] := by
    rw [Array.getElem?_toList, Array.getElem?_eq_getElem (by exact hk2)]
    rfl
  obtain ⟨hp, e1⟩ := fld_at h hkt
  have hm := List.mem_of_getElem? hkt
  have hall : ∀ c ∈ (fld y).data.toList, ¬ c.toNat = 44 ∧ ¬ c.toNat = 34 := by
    unfold fld
    rw [if_neg (show ¬ y.kind = 4 by omega)]
    by_cases k0 : y.kind = 0
    · rw [if_pos k0]
      intro c hc
      simp at hc
    rw [if_neg k0]
    unfold stxt
    rw [if_neg k0]
    by_cases k1 : y.kind = 1
    · rw [if_pos k1]
      unfold falseT
      decide
    rw [if_neg k1]
    by_cases k2 : y.kind = 2
    · rw [if_pos k2]
      unfold trueT
      decide
    rw [if_neg k2]
    intro c hc
    have := num_bytes y.half c hc
    omega
  exact ⟨hp, e1, hall _ hm⟩
end Go.Proofs.YtbnbemacljjimaaGreatDoor

namespace Go.Proofs.YtbnbemacljjimaaGreatDoor
open Go.RowKit Go.Lib
set_option linter.unusedVariables false

set_option maxHeartbeats 1000000 in
set_option maxRecDepth 100000 in
theorem textL_any (w : World) (s : ByteArray) (c1 : Int) (a3 a4 a5 : Option Addr) (l3 m3 l4 m4 l5 m5 : Nat) :
    Calls Tryz.prog 9 #[.agg #[.int .i64 4, .int .i64 c1, .string s, .slice a3 l3 m3, .slice a4 l4 m4, .slice a5 l5 m5, .int .i64 0]] w fun e w' => e = .returned (.tuple #[.string s, .bool true]) ∧ Below w.heap.size w w' := by
  obtain ⟨W, hW⟩ : ∃ W, W = w.alloc (.cells #[.int .i64 4, .int .i64 c1, .string s, .slice a3 l3 m3, .slice a4 l4 m4, .slice a5 l5 m5, .int .i64 0] 35) := ⟨_, rfl⟩
  have bW : Below w.heap.size w W := by rw [hW]; exact (Below.refl _ _).alloc (Nat.le_refl _) _
  have kW := Blk.new w 35 #[.int .i64 4, .int .i64 c1, .string s, .slice a3 l3 m3, .slice a4 l4 m4, .slice a5 l5 m5, .int .i64 0]
  rw [← hW] at kW
  obtain ⟨q0, q1, q2, q3, q4, q5, q6⟩ := blk_seven kW
  replace bW := hide bW
  replace kW := hide kW
  go_enter Tryz.func9, Tryz.ntmps9
  go_upto_region 1 with fail
  rw [← hW]
  clear hW
  go_wp2
  go_quiet (fail)
  go_wp2
  go_ret2
  exact ⟨rfl, below_drewN bW.out nq⟩
end Go.Proofs.YtbnbemacljjimaaGreatDoor
