/- The reader's numbers and words. -/
import Derived.Test.YtbnbemacljjimaaGreatDoorJc06
import Derived.Test.YtbnbemacljjimaaGreatDoorJc12
import Derived.Test.YtbnbemacljjimaaGreatDoorJc04
import Derived.Test.YtbnbemacljjimaaGreatDoorJc03
import Derived.Test.YtbnbemacljjimaaGreatDoorJc02
namespace Go.Proofs.YtbnbemacljjimaaGreatDoor
open Go.RowKit Go.Lib
set_option linter.unusedVariables false

theorem pv_le (ds : List Nat) : ∀ (k i : Nat), pv ds i ≤ pv ds (i + k)
  | 0, i => Nat.le_refl _
  | k + 1, i => by
    have := pv_le ds k i
    rw [show i + (k + 1) = (i + k) + 1 by omega, pv]
    omega
theorem pv_le_val {ds : List Nat} {i : Nat} (h : i ≤ ds.length) : pv ds i ≤ val ds := by
  have := pv_le ds (ds.length - i) i
  rw [show i + (ds.length - i) = ds.length by omega, pv_len] at this
  exact this
theorem txt_at {ds : List Nat} {tl : ByteArray} (hd : Dig ds) {i : Nat} (hi : i < ds.length) (hs : i < (txt ds ++ tl).size) : ((txt ds ++ tl)[i]).toNat = 48 + dAt ds i := by
  have h1 : (txt ds ++ tl)[i] = (txt ds ++ tl).data.toList[i]'(by simpa using hs) := rfl
  rw [h1]
  simp only [ByteArray.data_append, Array.toList_append]
  rw [List.getElem_append_left (by simpa [txt] using hi)]
  simp only [txt, List.getElem_map]
  have h2 : dAt ds i = ds[i] := by
    unfold dAt
    rw [List.getD_eq_getElem?_getD, List.getElem?_eq_getElem hi]
    rfl
  have h3 : ds[i] < 10 := hd _ (List.getElem_mem hi)
  rw [h2, UInt8.toNat_ofNat']
  omega
theorem txt_tail (ds : List Nat) (tl : ByteArray) : (txt ds ++ tl).extract ds.length (txt ds ++ tl).size = tl := by
  apply ByteArray.ext
  apply Array.toList_inj.1
  rw [ByteArray.data_extract, Array.toList_extract, List.extract_eq_take_drop, ByteArray.data_append, Array.toList_append]
  have h1 : (txt ds).data.toList.length = ds.length := by simp [txt]
  rw [List.drop_left' h1, List.take_of_length_le]
  rw [ByteArray.size_append, txt_size, Nat.add_sub_cancel_left, Array.length_toList]
  exact Nat.le_refl _

theorem QAt.ofVal {w : World} {P : Nat → Prop} {v : JV} (h1 : v.list = []) (h2 : v.keys = []) (h3 : v.vals = []) (h4 : v.text.size ≤ 9223372036854775807) (h5 : -9223372036854775808 ≤ v.kind ∧ v.kind ≤ 9223372036854775807) (h6 : -9223372036854775808 ≤ v.half ∧ v.half ≤ 9223372036854775807) :
    QAt w P [.string opVal, .string ⟨#[]⟩, .int .i64 v.kind, .int .i64 v.half, .string v.text, .slice none 0 0, .slice none 0 0, .slice none 0 0, .slice none 0 0, .slice none 0 0, .slice none 0 0, .slice none 0 0] (valQ v) :=
  QAt.make (q := valQ v) ⟨h1, h2, h3, Nat.zero_le _, Nat.zero_le _, Nat.zero_le _, h4, h5, h6⟩ (by show (3 : Nat) ≤ 100; decide) (Nat.le_refl _) (Nat.zero_le _) (fun h => absurd h (Nat.lt_irrefl 0))

/-- A value without parts is given back as a query. -/
def ValGives (v : JV) (w : World) (e : Ending) (w' : World) : Prop := ∃ y, e = .returned (.agg y.toArray) ∧ (∀ P : Nat → Prop, QAt w' P y (valQ v)) ∧ Below w.heap.size w w'

theorem val_one12 (op t1 : ByteArray) (z1 z2 : Int) (t : ByteArray) (la ka va A : Option Addr) (l1 l2 k1 k2 v1 v2 n c : Nat) : (#[.string op, .string t1, .int .i64 z1, .int .i64 z2, .string t, .slice la l1 l2, .slice ka k1 k2, .slice va v1 v2, .slice A n c, .slice none 0 0, .slice none 0 0, .slice none 0 0] : Array Value).all (·.oneCell') = true := by simp [Value.oneCell']

set_option maxHeartbeats 2000000 in
set_option maxRecDepth 100000 in
theorem rhalf_any (w : World) (r : Nat) (ds : List Nat) (tl : ByteArray) (h : Int) (hd : Dig ds) (hN : val ds ≤ 9007199254740992) (hl : ds.length ≤ 100000) (ht : (tl = ⟨#[]⟩ ∧ h = 2 * (val ds : Nat)) ∨ (tl = ⟨#[46, 53]⟩ ∧ h = 2 * (val ds : Nat) + 1)) :
    Calls Tryz.prog 192 #[.pointer (some ⟨r, 0, none⟩), .string (txt ds ++ tl)] w fun e w' => ValGives (numJ h) w e w' := by
  have hsz : (txt ds ++ tl).size = ds.length + tl.size := by rw [ByteArray.size_append, txt_size]
  have htl : tl.size ≤ 2 := by rcases ht with ⟨rfl, -⟩ | ⟨rfl, -⟩ <;> decide
  have hat := fun i hi hs => txt_at (tl := tl) hd (i := i) hi hs
  have htail := txt_tail ds tl
  have hnd : tl.size = 0 ∨ (tl.size = 2 ∧ ∀ hi : ds.length < (txt ds ++ tl).size, ((txt ds ++ tl)[ds.length]).toNat = 46) := by
    rcases ht with ⟨rfl, -⟩ | ⟨rfl, -⟩
    · exact Or.inl rfl
    · refine Or.inr ⟨rfl, fun hi => ?_⟩
      have h1 : (txt ds ++ (⟨#[46, 53]⟩ : ByteArray))[ds.length] = (txt ds ++ (⟨#[46, 53]⟩ : ByteArray)).data.toList[ds.length]'(by rw [Array.length_toList]; exact hi) := rfl
      rw [h1]
      simp only [ByteArray.data_append, Array.toList_append]
      rw [List.getElem_append_right (by simp [txt])]
      simp [txt]
  obtain ⟨S, hS⟩ : ∃ S, txt ds ++ tl = S := ⟨_, rfl⟩
  rw [hS] at hsz hat htail hnd ⊢
  obtain ⟨W0, hW0⟩ : ∃ W0, W0 = w.alloc (.cells zC 41) := ⟨_, rfl⟩
  have o0 : Below w.heap.size w W0 := by rw [hW0]; exact (Below.refl _ w).alloc (Nat.le_refl _) _
  have k0 : Blk W0 w.heap.size 41 zC := by rw [hW0]; exact Blk.new w _ _
  replace hS := hide hS
  replace o0 := hide o0
  replace k0 := hide k0
  replace hat := hide hat
  replace htail := hide htail
  replace hd := hide hd
  replace ht := hide ht
  unfold zC at hW0
  have hl1 : tl.size = 0 ∨ tl.size = 2 := by rcases hnd with h | ⟨h, -⟩; exact Or.inl h; exact Or.inr h
  replace hnd := hide hnd
  replace hsz := hide hsz
  have hS1 : S.size ≤ 200000 := by rw [hsz.out]; omega
  have hS2 : ds.length ≤ S.size := by rw [hsz.out]; omega
  go_enter Tryz.func192, Tryz.ntmps192
  go_upto_region 1 with fail
  rw [← hW0]
  clear hW0
  go_wp2
  go_loopw [5, 6] (fun s5 s6 wr => ∃ i : Nat, s6 = .int .i64 (i : Int) ∧ s5 = .int .i64 ((pv ds i : Nat) : Int) ∧ i ≤ ds.length ∧ wr = W0) (fun _ i _ => S.size - (RowKit.intOf i).toNat)
  case atStart => exact ⟨0, rfl, rfl, Nat.zero_le _, rfl⟩
  case round =>
    obtain ⟨i, rfl, rfl, hi, rfl⟩ := hrel
    have hp1 := pv_le_val hi
    by_cases hlt : i < ds.length
    · have hlS : i < S.size := by omega
      have hc := hat.out i hlt hlS
      have hdi : dAt ds i < 10 := by
        unfold dAt
        rw [List.getD_eq_getElem?_getD, List.getElem?_eq_getElem hlt]
        exact hd.out _ (List.getElem_mem hlt)
      have hp2 := pv_le_val (show i + 1 ≤ ds.length from hlt)
      have hpe : pv ds (i + 1) = pv ds i * 10 + dAt ds i := rfl
      obtain ⟨D, hD⟩ : ∃ D, dAt ds i = D := ⟨_, rfl⟩
      rw [hD] at hc hdi hpe
      obtain ⟨c, hcc⟩ : ∃ c : Nat, S[i].toNat = c := ⟨_, rfl⟩
      rw [hcc] at hc
      have b1 : ((c : Int) != 46) = true := by simp; omega
      have b2 : ((c : Int) == 46) = false := by simp; omega
      have b3 : IntKind.u8.wrap ((c : Int) - 48) = (D : Int) := by show ((c : Int) - 48) % 256 = _; omega
      have b4 : IntKind.i64.wrap (10 * ((pv ds i : Nat) : Int)) = 10 * ((pv ds i : Nat) : Int) := by rw [IntKind.wrap_i64]; omega
      have b5 : IntKind.i64.wrap (10 * ((pv ds i : Nat) : Int) + (D : Int)) = ((pv ds (i + 1) : Nat) : Int) := by rw [IntKind.wrap_i64]; omega
      have b6 : IntKind.i64.wrap (D : Int) = (D : Int) := by rw [IntKind.wrap_i64]; omega
      have b7 : ¬ (18014398509481984 : Int) < ((pv ds (i + 1) : Nat) : Int) := by omega
      obtain ⟨N, hN1⟩ : ∃ N, pv ds i = N := ⟨_, rfl⟩
      obtain ⟨M, hM1⟩ : ∃ M, pv ds (i + 1) = M := ⟨_, rfl⟩
      rw [hN1] at hp1 hpe b4 b5 ⊢
      rw [hM1] at hp2 hpe b5 b7
      replace hN1 := hide hN1
      replace hM1 := hide hM1
      replace hD := hide hD
      replace hc := hide hc
      replace hpe := hide hpe
      go_wp2
      go_roundw
      case rel => exact ⟨i + 1, by go_num, by rw [hM1.out], by omega, trivial⟩
      case measure => simp [RowKit.intOf]; omega
    · obtain rfl : i = ds.length := by omega
      rw [pv_len] at hp1 ⊢
      have q1 : IntKind.i64.wrap (2 * ((val ds : Nat) : Int)) = 2 * ((val ds : Nat) : Int) := by rw [IntKind.wrap_i64]; omega
      have q2 : IntKind.i64.wrap (2 * ((val ds : Nat) : Int) + 1) = 2 * ((val ds : Nat) : Int) + 1 := by rw [IntKind.wrap_i64]; omega
      have htl2 := htail.out
      obtain ⟨N, hN1⟩ : ∃ N, val ds = N := ⟨_, rfl⟩
      rw [hN1] at hp1 hN q1 q2 ⊢
      rcases hnd.out with h0 | ⟨h0, h46⟩
      · have hS3 : ds.length = S.size := by rw [hsz.out]; omega
        rcases ht.out with ⟨rfl, he⟩ | ⟨rfl, he⟩
        · rw [hN1] at he
          subst he
          have hlS : ¬ ((ds.length : Int) < (S.size : Int)) := by omega
          replace hS3 := hide hS3
          replace h0 := hide h0
          have hbnd : -9223372036854775808 ≤ 2 * (N : Int) ∧ 2 * (N : Int) ≤ 9223372036854775807 := by omega
          replace hbnd := hide hbnd
          replace hN1 := hide hN1
          go_wp2_with fail
          refine (val_any wr 3 (2 * (N : Int)) ⟨#[]⟩ none none none 0 0 0 0 0 0).mono ?_
          rintro e W2 ⟨rfl, b2⟩
          have k2 := hide (k0.out.below b2 k0.out.lt)
          have o2 := hide (o0.out.trans (b2.mono o0.out.size))
          clear b2
          go_wp2_with (refine wpList_store_blk rfl _ _ _ rfl w.heap.size _ rfl rfl 41 _ k2.out q_size rfl (val_one12 _ _ _ _ _ _ _ _ _ _ _ _ _ _ _ _ _) ?_; intro W5 k5 o5 s5; replace k5 := hide k5; replace o5 := hide o5; clear s5)
          (try simp only [Exit.inBlock, Exit.then])
          refine ret_q Tryz.results192 w.heap.size _ rfl rfl k5.out rfl ⟨_, rfl, fun P => ?_, o2.out.trans (o5.out.below (by intro k hk; omega) o2.out.size)⟩
          exact QAt.ofVal (v := numJ (2 * (N : Int))) rfl rfl rfl (Nat.zero_le _) ⟨by show (-9223372036854775808 : Int) ≤ 3; decide, by show (3 : Int) ≤ 9223372036854775807; decide⟩ hbnd.out
        · exact absurd h0 (by decide)
      · rcases ht.out with ⟨rfl, he⟩ | ⟨rfl, he⟩
        · exact absurd h0 (by decide)
        · rw [hN1] at he
          subst he
          have hS3 : ds.length < S.size := by rw [hsz.out, h0]; omega
          have hlS : ((ds.length : Int) < (S.size : Int)) := by omega
          have hcc := h46 hS3
          replace h46 := hide h46
          replace h0 := hide h0
          have hbnd : -9223372036854775808 ≤ 2 * (N : Int) + 1 ∧ 2 * (N : Int) + 1 ≤ 9223372036854775807 := by omega
          replace hbnd := hide hbnd
          replace hN1 := hide hN1
          go_wp2_with fail
          refine (val_any wr 3 (2 * (N : Int) + 1) ⟨#[]⟩ none none none 0 0 0 0 0 0).mono ?_
          rintro e W2 ⟨rfl, b2⟩
          have k2 := hide (k0.out.below b2 k0.out.lt)
          have o2 := hide (o0.out.trans (b2.mono o0.out.size))
          clear b2
          go_wp2_with (refine wpList_store_blk rfl _ _ _ rfl w.heap.size _ rfl rfl 41 _ k2.out q_size rfl (val_one12 _ _ _ _ _ _ _ _ _ _ _ _ _ _ _ _ _) ?_; intro W5 k5 o5 s5; replace k5 := hide k5; replace o5 := hide o5; clear s5)
          (try simp only [Exit.inBlock, Exit.then])
          refine ret_q Tryz.results192 w.heap.size _ rfl rfl k5.out rfl ⟨_, rfl, fun P => ?_, o2.out.trans (o5.out.below (by intro k hk; omega) o2.out.size)⟩
          exact QAt.ofVal (v := numJ (2 * (N : Int) + 1)) rfl rfl rfl (Nat.zero_le _) ⟨by show (-9223372036854775808 : Int) ≤ 3; decide, by show (3 : Int) ≤ 9223372036854775807; decide⟩ hbnd.out
end Go.Proofs.YtbnbemacljjimaaGreatDoor

namespace Go.Proofs.YtbnbemacljjimaaGreatDoor
open Go.RowKit Go.Lib
set_option linter.unusedVariables false

theorem ret_v {fn : Func} {R : Ending → World → Prop} {p : Tmp} (h : fn.results = #[.cell p 26]) {a : Act} {w : World} (g : Nat) (cs : Array Value) (hp : a.tmps.getD p undef = .pointer (some ⟨g, 0, none⟩)) (hd : a.defers = [])
    (hb : Blk w g 26 cs) (hs : cs.size = 6) (hR : R (.returned (.agg cs)) w) : bodyPost Tryz.prog fn R .ret a w :=
  bodyPost_ret (results_cell_row h _ _ g _ cs (0, 0) _ hp hb Tryz.underlying26 rfl (by rw [hs]; exact val_size)) hd hR

set_option maxHeartbeats 1000000 in
set_option maxRecDepth 100000 in
theorem bool_any (w : World) (b : Bool) :
    Calls Tryz.prog 212 #[.bool b] w fun e w' => e = .returned (.agg #[.int .i64 (if b then 2 else 1), .int .i64 0, .string ⟨#[]⟩, .slice none 0 0, .slice none 0 0, .slice none 0 0]) ∧ Below w.heap.size w w' := by
  cases b
  all_goals
    go_enter Tryz.func212, Tryz.ntmps212
    go_wp2
    refine ret_v Tryz.results212 w.heap.size _ rfl rfl (Blk.new _ _ _) rfl ⟨rfl, (Below.refl _ _).alloc (Nat.le_refl _) _⟩

/-- The value of a word. -/
def wordJ (x : List UInt8) : JV := .mk (if x = wNull then 0 else if x = wTrue then 2 else 1) 0 ⟨#[]⟩ [] [] []

set_option maxHeartbeats 2000000 in
set_option maxRecDepth 100000 in
theorem named_any (w : World) (r : Nat) (x : List UInt8) (hx : x = wNull ∨ x = wTrue ∨ x = wFalse) :
    Calls Tryz.prog 193 #[.pointer (some ⟨r, 0, none⟩), .string ⟨x.toArray⟩] w fun e w' => ValGives (wordJ x) w e w' := by
  obtain ⟨W0, hW0⟩ : ∃ W0, W0 = w.alloc (.cells zC 41) := ⟨_, rfl⟩
  have o0 : Below w.heap.size w W0 := by rw [hW0]; exact (Below.refl _ w).alloc (Nat.le_refl _) _
  have k0 : Blk W0 w.heap.size 41 zC := by rw [hW0]; exact Blk.new w _ _
  replace o0 := hide o0
  replace k0 := hide k0
  unfold zC at hW0
  rcases hx with rfl | rfl | rfl
  · unfold wNull
    go_enter Tryz.func193, Tryz.ntmps193
    go_wp2_with fail
    rw [← hW0]
    clear hW0
    refine (val_any W0 0 0 ⟨#[]⟩ none none none 0 0 0 0 0 0).mono ?_
    rintro e W2 ⟨rfl, b2⟩
    have k2 := hide (k0.out.below b2 k0.out.lt)
    have o2 := hide (o0.out.trans (b2.mono o0.out.size))
    clear b2
    go_wp2_with (refine wpList_store_blk rfl _ _ _ rfl w.heap.size _ rfl rfl 41 _ k2.out q_size rfl (val_one12 _ _ _ _ _ _ _ _ _ _ _ _ _ _ _ _ _) ?_; intro W5 k5 o5 s5; replace k5 := hide k5; replace o5 := hide o5; clear s5)
    (try simp only [Exit.inBlock, Exit.then])
    refine ret_q Tryz.results193 w.heap.size _ rfl rfl k5.out rfl ⟨_, rfl, fun P => ?_, o2.out.trans (o5.out.below (by intro k hk; omega) o2.out.size)⟩
    exact QAt.ofVal (v := wordJ wNull) rfl rfl rfl (Nat.zero_le _) ⟨by decide, by decide⟩ ⟨by decide, by decide⟩
  · unfold wTrue
    go_enter Tryz.func193, Tryz.ntmps193
    go_upto_region 1 with fail
    rw [← hW0]
    clear hW0
    go_wp2_with (first
      | (go_at_call 212; refine (bool_any W0 true).mono ?_; rintro e W1 ⟨rfl, b1⟩; have k1 := hide (k0.out.below b1 k0.out.lt); have o1 := hide (o0.out.trans (b1.mono o0.out.size)); clear b1)
      | (go_at_call 31; refine (val_any W1 2 0 ⟨#[]⟩ none none none 0 0 0 0 0 0).mono ?_; rintro e W2 ⟨rfl, b2⟩; have k2 := hide (k1.out.below b2 k1.out.lt); have o2 := hide (o1.out.trans (b2.mono o1.out.size)); clear b2)
      | (refine wpList_store_blk rfl _ _ _ rfl w.heap.size _ rfl rfl 41 _ k2.out q_size rfl (val_one12 _ _ _ _ _ _ _ _ _ _ _ _ _ _ _ _ _) ?_; intro W5 k5 o5 s5; replace k5 := hide k5; replace o5 := hide o5; clear s5))
    (try simp only [Exit.inBlock, Exit.then])
    refine ret_q Tryz.results193 w.heap.size _ rfl rfl k5.out rfl ⟨_, rfl, fun P => ?_, o2.out.trans (o5.out.below (by intro k hk; omega) o2.out.size)⟩
    exact QAt.ofVal (v := wordJ wTrue) rfl rfl rfl (Nat.zero_le _) ⟨by decide, by decide⟩ ⟨by decide, by decide⟩
  · unfold wFalse
    go_enter Tryz.func193, Tryz.ntmps193
    go_upto_region 1 with fail
    rw [← hW0]
    clear hW0
    go_wp2_with (first
      | (go_at_call 212; refine (bool_any W0 false).mono ?_; rintro e W1 ⟨rfl, b1⟩; have k1 := hide (k0.out.below b1 k0.out.lt); have o1 := hide (o0.out.trans (b1.mono o0.out.size)); clear b1)
      | (go_at_call 31; refine (val_any W1 1 0 ⟨#[]⟩ none none none 0 0 0 0 0 0).mono ?_; rintro e W2 ⟨rfl, b2⟩; have k2 := hide (k1.out.below b2 k1.out.lt); have o2 := hide (o1.out.trans (b2.mono o1.out.size)); clear b2)
      | (refine wpList_store_blk rfl _ _ _ rfl w.heap.size _ rfl rfl 41 _ k2.out q_size rfl (val_one12 _ _ _ _ _ _ _ _ _ _ _ _ _ _ _ _ _) ?_; intro W5 k5 o5 s5; replace k5 := hide k5; replace o5 := hide o5; clear s5))
    (try simp only [Exit.inBlock, Exit.then])
    refine ret_q Tryz.results193 w.heap.size _ rfl rfl k5.out rfl ⟨_, rfl, fun P => ?_, o2.out.trans (o5.out.below (by intro k hk; omega) o2.out.size)⟩
    exact QAt.ofVal (v := wordJ wFalse) rfl rfl rfl (Nat.zero_le _) ⟨by decide, by decide⟩ ⟨by decide, by decide⟩
end Go.Proofs.YtbnbemacljjimaaGreatDoor

namespace Go.Proofs.YtbnbemacljjimaaGreatDoor
open Go.RowKit Go.Lib
set_option linter.unusedVariables false

set_option maxHeartbeats 2000000 in
set_option maxRecDepth 100000 in
theorem first_num {r : Nat} {s X : ByteArray} {l rest : List UInt8} {v : JV} (hs : s.size ≤ 1000000) (hk : nxK l = kNum) (hx : nxT l = X) (hr : l.drop (nxN l) = rest) (hok : OkTok rest) (hH : ∀ W, Calls Tryz.prog 192 #[.pointer (some ⟨r, 0, none⟩), .string X] W (ValGives v W)) : FnSays 152 r s l rest (valQ v) := by
  intro w hR
  have hrw := hR.lt
  obtain ⟨-, -, c2, c3, -⟩ := hR.cells
  unfold Ready at hR
  rw [hk, hx, hr] at hR
  rw [hk] at c2
  rw [hx] at c3
  unfold kNum at c2
  clear hk hx hr
  obtain ⟨W0, hW0⟩ : ∃ W0, W0 = (w.alloc (.cells zC 41)).alloc (.cells #[.string ⟨#[110, 117, 109]⟩, .string X] 59) := ⟨_, rfl⟩
  have o0 : Only (fun _ => False) w W0 := by rw [hW0]; exact ((Only.refl _ w).alloc _).alloc _
  have k0 : Blk W0 w.heap.size 41 zC := by rw [hW0]; exact (Blk.new w _ _).alloc _
  have t0 : Blk W0 (w.heap.size + 1) 59 #[.string ⟨#[110, 117, 109]⟩, .string X] := by rw [hW0]; exact Blk.new2 w _ _ _
  have hR0 := hR.only o0 (fun h => h)
  have l0 := t0.lt
  have d0 := t0.cell 0
  have d1 := t0.cell 1
  simp at d0 d1
  replace o0 := hide o0
  replace k0 := hide k0
  replace t0 := hide t0
  replace hR0 := hide hR0
  replace hH := hide hH
  clear hR
  unfold zC at hW0
  go_enter Tryz.func152, Tryz.ntmps152
  go_upto_region 2 with fail
  rw [← hW0]
  clear hW0
  go_wp2_with fail
  refine (move_ready W0 r s kNum X rest hR0.out hs hok).mono ?_
  rintro e W1 ⟨rfl, hR1, o1⟩
  have k1 := hide (o1.blk k0.out (by omega))
  have t1 := o1.blk t0.out (by omega)
  have l1 := o1.size
  have e1 := t1.cell 1
  simp at e1
  replace t1 := hide t1
  go_wp2_with fail
  refine (hH.out W1).mono ?_
  rintro e W2 ⟨y, rfl, hq, b2⟩
  have hy := hq (fun _ => False)
  have hys := hide hy.sz
  have hya := hide hy.all
  have k2 := hide (k1.out.below b2 k1.out.lt)
  have o2 : Only (fun _ => False) W1 W2 := Only.of_below b2 (fun k hk _ => hk)
  replace hy := hide hy
  clear hq b2
  replace o1 := hide o1
  replace o2 := hide o2
  replace hR1 := hide hR1
  go_wp2_with (refine wpList_store_blk rfl _ _ _ rfl w.heap.size y.toArray rfl rfl 41 _ k2.out (by rw [hys.out]; exact q_size) (by rw [hys.out]; rfl) hya.out ?_; intro W5 k5 o5 s5; replace k5 := hide k5; replace o5 := hide o5; clear s5)
  (try simp only [Exit.inBlock, Exit.then])
  refine ret_q Tryz.results152 w.heap.size y.toArray rfl rfl k5.out hys.out ⟨y, rfl, ?_, ?_, ?_⟩
  · exact hy.out.only o5.out (fun b h _ => h.elim) (fun b _ h => h.elim)
  · exact (hR1.out.only o2.out (fun h => h)).only o5.out (by omega)
  · exact ((o0.out.no.trans o1.out).trans o2.out.no).back o5.out (fun b h => Or.inr (by omega))

set_option maxHeartbeats 2000000 in
set_option maxRecDepth 100000 in
theorem first_name {r : Nat} {s X : ByteArray} {l rest : List UInt8} {v : JV} (hs : s.size ≤ 1000000) (hk : nxK l = kName) (hx : nxT l = X) (hr : l.drop (nxN l) = rest) (hok : OkTok rest) (hH : ∀ W, Calls Tryz.prog 193 #[.pointer (some ⟨r, 0, none⟩), .string X] W (ValGives v W)) : FnSays 152 r s l rest (valQ v) := by
  intro w hR
  have hrw := hR.lt
  obtain ⟨-, -, c2, c3, -⟩ := hR.cells
  unfold Ready at hR
  rw [hk, hx, hr] at hR
  rw [hk] at c2
  rw [hx] at c3
  unfold kName at c2
  clear hk hx hr
  obtain ⟨W0, hW0⟩ : ∃ W0, W0 = (w.alloc (.cells zC 41)).alloc (.cells #[.string ⟨#[110, 97, 109, 101]⟩, .string X] 59) := ⟨_, rfl⟩
  have o0 : Only (fun _ => False) w W0 := by rw [hW0]; exact ((Only.refl _ w).alloc _).alloc _
  have k0 : Blk W0 w.heap.size 41 zC := by rw [hW0]; exact (Blk.new w _ _).alloc _
  have t0 : Blk W0 (w.heap.size + 1) 59 #[.string ⟨#[110, 97, 109, 101]⟩, .string X] := by rw [hW0]; exact Blk.new2 w _ _ _
  have hR0 := hR.only o0 (fun h => h)
  have l0 := t0.lt
  have d0 := t0.cell 0
  have d1 := t0.cell 1
  simp at d0 d1
  replace o0 := hide o0
  replace k0 := hide k0
  replace t0 := hide t0
  replace hR0 := hide hR0
  replace hH := hide hH
  clear hR
  unfold zC at hW0
  go_enter Tryz.func152, Tryz.ntmps152
  go_upto_region 2 with fail
  rw [← hW0]
  clear hW0
  go_wp2_with fail
  refine (move_ready W0 r s kName X rest hR0.out hs hok).mono ?_
  rintro e W1 ⟨rfl, hR1, o1⟩
  have k1 := hide (o1.blk k0.out (by omega))
  have t1 := o1.blk t0.out (by omega)
  have l1 := o1.size
  have e1 := t1.cell 1
  simp at e1
  replace t1 := hide t1
  go_wp2_with fail
  refine (hH.out W1).mono ?_
  rintro e W2 ⟨y, rfl, hq, b2⟩
  have hy := hq (fun _ => False)
  have hys := hide hy.sz
  have hya := hide hy.all
  have k2 := hide (k1.out.below b2 k1.out.lt)
  have o2 : Only (fun _ => False) W1 W2 := Only.of_below b2 (fun k hk _ => hk)
  replace hy := hide hy
  clear hq b2
  replace o1 := hide o1
  replace o2 := hide o2
  replace hR1 := hide hR1
  go_wp2_with (refine wpList_store_blk rfl _ _ _ rfl w.heap.size y.toArray rfl rfl 41 _ k2.out (by rw [hys.out]; exact q_size) (by rw [hys.out]; rfl) hya.out ?_; intro W5 k5 o5 s5; replace k5 := hide k5; replace o5 := hide o5; clear s5)
  (try simp only [Exit.inBlock, Exit.then])
  refine ret_q Tryz.results152 w.heap.size y.toArray rfl rfl k5.out hys.out ⟨y, rfl, ?_, ?_, ?_⟩
  · exact hy.out.only o5.out (fun b h _ => h.elim) (fun b _ h => h.elim)
  · exact (hR1.out.only o2.out (fun h => h)).only o5.out (by omega)
  · exact ((o0.out.no.trans o1.out).trans o2.out.no).back o5.out (fun b h => Or.inr (by omega))

end Go.Proofs.YtbnbemacljjimaaGreatDoor

namespace Go.Proofs.YtbnbemacljjimaaGreatDoor
open Go.RowKit Go.Lib
set_option linter.unusedVariables false

/-- A string as plain data. -/
def strJ (s : ByteArray) : JV := .mk 4 0 s [] [] []

set_option maxHeartbeats 1000000 in
theorem fromGo_str (w : World) (s : ByteArray) :
    Calls Tryz.prog 45 #[.iface 9 (.string s)] w fun e w' => e = .returned (.tuple #[.agg #[.int .i64 4, .int .i64 0, .string s, .slice none 0 0, .slice none 0 0, .slice none 0 0], .bool true]) ∧ Below w.heap.size w w' := by
  go_enter Tryz.func45, Tryz.ntmps45
  go_wp2
  exact bodyPost_ret (v := .tuple #[.agg #[.int .i64 4, .int .i64 0, .string s, .slice none 0 0, .slice none 0 0, .slice none 0 0], .bool true]) (by simp [results, Tryz.results45, go_sem]) rfl ⟨rfl, (Below.refl _ _).alloc (Nat.le_refl _) _⟩

theorem str_leaf (w : World) (P : Nat → Prop) (n : Nat) (s : ByteArray) (hs : s.size ≤ 9223372036854775807) : JP w P (n + 1) (.agg #[.int .i64 4, .int .i64 0, .string s, .slice none 0 0, .slice none 0 0, .slice none 0 0]) (strJ s) :=
  JP.leaf (v := strJ s) rfl rfl rfl hs (by show (-9223372036854775808 : Int) ≤ 4 ∧ (4 : Int) ≤ 9223372036854775807; decide) (by show (-9223372036854775808 : Int) ≤ 0 ∧ (0 : Int) ≤ 9223372036854775807; decide)
theorem str_jat (w : World) (B n : Nat) (s : ByteArray) (hs : s.size ≤ 9223372036854775807) : JAt w B (n + 1) (.agg #[.int .i64 4, .int .i64 0, .string s, .slice none 0 0, .slice none 0 0, .slice none 0 0]) (strJ s) :=
  JP.jat (n + 1) (P := (· < B)) (fun _ h => h) (str_leaf w _ n s hs)
theorem str_gat (w : World) (lo n : Nat) (s : ByteArray) : GAt w lo (n + 1) (.iface 9 (.string s)) (strJ s) :=
  Or.inr (Or.inr (Or.inr (Or.inr (Or.inr (Or.inl ⟨rfl, rfl⟩)))))
theorem str_fg (w : World) (n : Nat) (s : ByteArray) (hs : s.size ≤ 9223372036854775807) : FGat (n + 1) w (.iface 9 (.string s)) (strJ s) := by
  refine (fromGo_str w s).mono ?_
  rintro e w' ⟨rfl, hb⟩
  exact ⟨_, rfl, hb, str_leaf _ _ n s hs⟩

theorem str_say (n : Nat) (s : ByteArray) (hs : s.size ≤ 9223372036854775807) : Say (n + 1) (strJ s) :=
  ⟨by show (0 : Int) ≤ 4 ∧ (4 : Int) ≤ 6; decide, Or.inr rfl, Or.inl rfl, Or.inr rfl, Or.inr rfl, rfl, by show (-18014398509481984 : Int) ≤ 0 ∧ (0 : Int) ≤ 18014398509481984; decide, Or.inl rfl, Nat.zero_le _, Nat.zero_le _, by intro x hx; exact absurd hx (List.not_mem_nil), by intro i a b h; simp [strJ, JV.keys] at h, by intro x hx; exact absurd hx (List.not_mem_nil), by intro x hx; exact absurd hx (List.not_mem_nil), hs⟩
end Go.Proofs.YtbnbemacljjimaaGreatDoor

namespace Go.Proofs.YtbnbemacljjimaaGreatDoor
open Go.RowKit Go.Lib
set_option linter.unusedVariables false

theorem Tryz.infoStr : (Tryz.prog.info? 9).map (fun i => (i.zero, i.size, i.bytes)) = some (some (.string ⟨#[]⟩), 1, 16) := by kernel_rfl

/-- The fields of a row that are made so far. -/
structure Jn (xs : List JV) (w wr : World) (j : Nat) (cs : Array Value) : Prop where
  bel : Below w.heap.size w wr
  blk : Blk wr w.heap.size 9 cs
  size : cs.size = xs.length
  made : ∀ i y, i < j → xs[i]? = some y → cs[i]? = some (.string (fld y))
  rest : ∀ i, j ≤ i → i < xs.length → cs[i]? = some (.string ⟨#[]⟩)
  plain : ∀ i y, i < j → xs[i]? = some y → y.kind ≤ 4

theorem Jn.ext {xs : List JV} {w wr W : World} {j : Nat} {cs : Array Value} (h : Jn xs w wr j cs) (hb : Below wr.heap.size wr W) : Jn xs w W j cs :=
  ⟨h.bel.trans (hb.mono h.bel.size), h.blk.below hb h.blk.lt, h.size, h.made, h.rest, h.plain⟩

/-- A field is stored. -/
theorem Jn.next {xs : List JV} {w wr : World} {j : Nat} {cs : Array Value} (h : Jn xs w wr j cs) {y : JV} (hy : xs[j]? = some y) (hk : y.kind ≤ 4) :
    Jn xs w (wr.setCell ⟨w.heap.size, j, none⟩ (.string (fld y))) (j + 1) (cs.setIfInBounds j (.string (fld y))) := by
  have hj : j < xs.length := (List.getElem?_eq_some_iff.1 hy).1
  have hsz := h.size
  refine ⟨h.bel.setCell (p := ⟨w.heap.size, j, none⟩) (Nat.le_refl _) _, h.blk.set_ j _, by simpa using hsz, fun i z hi hz => ?_, fun i hi hl => ?_, fun i z hi hz => ?_⟩
  · rcases Nat.lt_or_ge i j with hlt | hge
    · rw [Array.getElem?_setIfInBounds_ne (by omega)]
      exact h.made i z hlt hz
    · obtain rfl : i = j := by omega
      rw [hy] at hz
      cases hz
      rw [Array.getElem?_setIfInBounds_self_of_lt (by omega)]
  · rw [Array.getElem?_setIfInBounds_ne (by omega)]
    exact h.rest i (by omega) hl
  · rcases Nat.lt_or_ge i j with hlt | hge
    · exact h.plain i z hlt hz
    · obtain rfl : i = j := by omega
      rw [hy] at hz
      cases hz
      exact hk

/-- A field of null is as it was made. -/
theorem Jn.skip {xs : List JV} {w wr : World} {j : Nat} {cs : Array Value} (h : Jn xs w wr j cs) {y : JV} (hy : xs[j]? = some y) (hk : y.kind = 0) : Jn xs w wr (j + 1) cs := by
  have hj : j < xs.length := (List.getElem?_eq_some_iff.1 hy).1
  refine ⟨h.bel, h.blk, h.size, fun i z hi hz => ?_, fun i hi hl => h.rest i (by omega) hl, fun i z hi hz => ?_⟩
  · rcases Nat.lt_or_ge i j with hlt | hge
    · exact h.made i z hlt hz
    · obtain rfl : i = j := by omega
      rw [hy] at hz
      cases hz
      rw [h.rest i (Nat.le_refl _) hj]
      unfold fld
      rw [if_pos hk]
  · rcases Nat.lt_or_ge i j with hlt | hge
    · exact h.plain i z hlt hz
    · obtain rfl : i = j := by omega
      rw [hy] at hz
      cases hz
      omega

/-- The row of @csv. -/
def rowT (xs : List JV) : ByteArray := ⟨(Lib.join ((xs.map fld).map (·.data.toList)) [44]).toArray⟩
/-- What formatJoin ends with. -/
def JoinSays (xs : List JV) (e : Ending) : Prop := (∃ t, e = .returned (.iface 139 t) ∧ ∃ y ∈ xs, 5 ≤ y.kind) ∨ (e = .returned (.iface 9 (.string (rowT xs))) ∧ ∀ y ∈ xs, y.kind ≤ 4)

/-- What a row's elements are. -/
def Elem (y : JV) : Prop := (-18014398509481984 ≤ y.half ∧ y.half ≤ 18014398509481984) ∧ (y.half.tmod 2 = 0 ∨ -9007199254740992 < y.half ∧ y.half < 9007199254740992) ∧ y.text.size ≤ 2000

theorem fld_size (y : JV) (h : Elem y) : (fld y).size ≤ 4100 := by
  obtain ⟨h1, h2, h3⟩ := h
  unfold fld
  split
  · decide
  · split
    · unfold quo
      rw [ByteArray.size_append, ByteArray.size_append]
      have := esc_size y.text
      show 1 + _ + 1 ≤ 4100
      omega
    · exact Nat.le_trans (stxt_size y h1 h2) (by decide)

theorem lens_le (K : Nat) : ∀ (ls : List (List UInt8)), (∀ l ∈ ls, l.length ≤ K) → Lib.lens ls ≤ K * ls.length
  | [], _ => Nat.zero_le _
  | l :: ls, h => by
    have h1 := lens_le K ls (fun x hx => h x (List.mem_cons_of_mem _ hx))
    have h2 := h l List.mem_cons_self
    unfold Lib.lens at *
    rw [List.map_cons, List.sum_cons, List.length_cons, Nat.mul_succ]
    omega

theorem row_len (xs : List JV) (he : ∀ y ∈ xs, Elem y) : (Lib.join ((xs.map fld).map (·.data.toList)) [44]).length ≤ 4101 * xs.length := by
  have hall : ∀ l ∈ ((xs.map fld).map (·.data.toList)), l.length ≤ 4100 := by
    intro l hl
    rw [List.map_map] at hl
    obtain ⟨y, hy, rfl⟩ := List.mem_map.1 hl
    have e : ((fld y).data.toList).length = (fld y).size := by rw [Array.length_toList]; rfl
    show ((fld y).data.toList).length ≤ 4100
    rw [e]
    exact fld_size y (he y hy)
  have hlen : ((xs.map fld).map (·.data.toList)).length = xs.length := by rw [List.length_map, List.length_map]
  generalize ((xs.map fld).map (·.data.toList)) = ls at *
  rcases ls with _ | ⟨l, ls⟩
  · exact Nat.zero_le _
  · rw [Lib.join_cons, List.length_append, Lib.joinTail_length, List.length_cons]
    have h1 := lens_le 4100 ls (fun x hx => hall x (List.mem_cons_of_mem _ hx))
    have h2 := hall l List.mem_cons_self
    rw [List.length_cons] at hlen
    show _ + (1 * ls.length + _) ≤ _
    omega

set_option maxHeartbeats 4000000 in
set_option maxRecDepth 100000 in
theorem join_any (n : Nat) (w : World) (lo b o c : Nat) (xs : List JV) (hlen : xs.length ≤ 400) (hbw : b < w.heap.size) (hc1 : xs.length ≤ c) (hc2 : c ≤ 9223372036854775807)
    (hx : ∀ (i : Nat) y, xs[i]? = some y → ∃ z, w.cell? ⟨b, o + i, none⟩ = some z ∧ GAt w lo (n + 1) z y) (he : ∀ y ∈ xs, Elem y) :
    Calls Tryz.prog 80 #[.string ⟨#[99, 115, 118]⟩, .iface 83 (.slice (some ⟨b, o, none⟩) xs.length c), .string ⟨#[44]⟩, .func (Fn.func 81) #[] #[]] w fun e w' => JoinSays xs e ∧ Below w.heap.size w w' := by
  obtain ⟨i0, hi0, hz0, hz1, hz2⟩ := info_parts Tryz.infoStr
  have hmk := fun W => run_make_rowN (P := Tryz.prog) 24 9 i0 _ Tryz.underlying24 hi0 hz0 .i64 .i64 xs.length xs.length (Nat.le_refl _) (by rw [hz2]; omega) (by omega) W
  rw [hz1] at hmk
  obtain ⟨cs0, hcs0⟩ : ∃ cs0, madeCells (Value.cells (.string ⟨#[]⟩)) (xs.length * 1) = cs0 := ⟨_, rfl⟩
  have hsz0 : cs0.size = xs.length := by rw [← hcs0, size_madeCells]; show xs.length * 1 = _; omega
  have hst0 : ∀ i, i < xs.length → cs0[i]? = some (.string ⟨#[]⟩) := by
    intro i hi
    rw [← hcs0, Nat.mul_one, ← Array.getElem?_toList]
    show (madeCells #[Value.string ⟨#[]⟩] xs.length).toList[i]? = _
    rw [toList_madeCells_one, List.getElem?_replicate, if_pos hi]
  rw [hcs0] at hmk
  clear hcs0 hi0 hz0 hz1 hz2
  have h0 : Jn xs w (w.alloc (.cells cs0 9)) 0 cs0 := ⟨Below.alloc (Below.refl _ _) (Nat.le_refl _) _, Blk.new _ _ _, hsz0, fun i y hi => absurd hi (by omega), fun i _ hi => hst0 i hi, fun i y hi => absurd hi (by omega)⟩
  replace hx := hide hx
  replace he := hide he
  replace h0 := hide h0
  clear hst0
  go_enter Tryz.func80, Tryz.ntmps80
  go_wp2
  go_loopw [36] (fun s36 wr => ∃ (j : Nat) (cs : Array Value), s36 = .int .i64 j ∧ j ≤ xs.length ∧ Jn xs w wr j cs) (fun i _ => xs.length - (RowKit.intOf i).toNat)
  case atStart => exact ⟨0, cs0, rfl, Nat.zero_le _, h0.out⟩
  case round =>
    obtain ⟨j, cs, rfl, hj, hl⟩ := hrel
    have hltS := hl.blk.lt
    by_cases hjl : j < xs.length
    · obtain ⟨y, hyj⟩ : ∃ x, xs[j]? = some x := ⟨_, List.getElem?_eq_getElem hjl⟩
      obtain ⟨z, hz, hg⟩ := hx.out j y hyj
      have e0 := (hl.bel.cell (p := ⟨b, o + j, none⟩) hbw).trans hz
      have hgr : GAt wr lo (n + 1) z y := GAt.ext hl.bel _ _ _ hg
      have hey := he.out y (List.mem_of_getElem? hyj)
      have hcj := hl.rest j (Nat.le_refl _) hjl
      replace hl := hide hl
      have hgh := hide hgr
      clear hz hg
      rcases hgr with ⟨k, rfl⟩ | ⟨k, rfl⟩ | ⟨k, rfl⟩ | ⟨k, hm, rfl⟩ | ⟨k, hm, rfl⟩ | ⟨k, rfl⟩ | ⟨k, b2, o2, c2, rfl, -⟩ | ⟨k, b2, ents, rfl, -⟩
      · have hM := hide (marshal_scalar wr lo n _ y hgh.out (by omega) hey.1 hey.2.1)
        have nn := yes_null k
        have hk := hide k
        replace hey := hide hey
        clear k
        go_wp2_with (go_at_call 70; refine hM.out.mono ?_; rintro e w1 ⟨rfl, hb1⟩; have hn1 := hide ((hl.out.ext hb1).skip hyj hk.out); clear hb1)
        go_roundw
        case rel => exact ⟨j + 1, _, by go_num, by omega, hn1.out⟩
        case measure => simp [RowKit.intOf]; omega
      · have hM := hide (marshal_scalar wr lo n _ y hgh.out (by omega) hey.1 hey.2.1)
        have nn := not_null (y := y) (by omega)
        have hfl : Hid (fld y = stxt y) := hide (by unfold fld; rw [if_neg (by omega), if_neg (by omega)])
        have hk4 : Hid (y.kind ≤ 4) := hide (by omega)
        replace hey := hide hey
        clear k
        go_wp2_with (go_at_call 70; refine hM.out.mono ?_; rintro e w1 ⟨rfl, hb1⟩; have hl1 := hl.out.ext hb1; have d0 := hl1.blk.cell j; rw [hcj] at d0; have f0 := hl1.blk.frozen j; have hn1 := hl1.next hyj hk4.out; rw [hfl.out] at hn1; replace hn1 := hide hn1; replace hl1 := hide hl1; clear hb1)
        go_roundw
        case rel => exact ⟨j + 1, _, by go_num, by omega, hn1.out⟩
        case measure => simp [RowKit.intOf]; omega
      · have hM := hide (marshal_scalar wr lo n _ y hgh.out (by omega) hey.1 hey.2.1)
        have nn := not_null (y := y) (by omega)
        have hfl : Hid (fld y = stxt y) := hide (by unfold fld; rw [if_neg (by omega), if_neg (by omega)])
        have hk4 : Hid (y.kind ≤ 4) := hide (by omega)
        replace hey := hide hey
        clear k
        go_wp2_with (go_at_call 70; refine hM.out.mono ?_; rintro e w1 ⟨rfl, hb1⟩; have hl1 := hl.out.ext hb1; have d0 := hl1.blk.cell j; rw [hcj] at d0; have f0 := hl1.blk.frozen j; have hn1 := hl1.next hyj hk4.out; rw [hfl.out] at hn1; replace hn1 := hide hn1; replace hl1 := hide hl1; clear hb1)
        go_roundw
        case rel => exact ⟨j + 1, _, by go_num, by omega, hn1.out⟩
        case measure => simp [RowKit.intOf]; omega
      · have hM := hide (marshal_scalar wr lo n _ y hgh.out (by omega) hey.1 hey.2.1)
        have nn := not_null (y := y) (by omega)
        have hfl : Hid (fld y = stxt y) := hide (by unfold fld; rw [if_neg (by omega), if_neg (by omega)])
        have hk4 : Hid (y.kind ≤ 4) := hide (by omega)
        replace hey := hide hey
        clear k hm
        go_wp2_with (go_at_call 70; refine hM.out.mono ?_; rintro e w1 ⟨rfl, hb1⟩; have hl1 := hl.out.ext hb1; have d0 := hl1.blk.cell j; rw [hcj] at d0; have f0 := hl1.blk.frozen j; have hn1 := hl1.next hyj hk4.out; rw [hfl.out] at hn1; replace hn1 := hide hn1; replace hl1 := hide hl1; clear hb1)
        go_roundw
        case rel => exact ⟨j + 1, _, by go_num, by omega, hn1.out⟩
        case measure => simp [RowKit.intOf]; omega
      · have hM := hide (marshal_scalar wr lo n _ y hgh.out (by omega) hey.1 hey.2.1)
        have nn := not_null (y := y) (by omega)
        have hfl : Hid (fld y = stxt y) := hide (by unfold fld; rw [if_neg (by omega), if_neg (by omega)])
        have hk4 : Hid (y.kind ≤ 4) := hide (by omega)
        replace hey := hide hey
        clear k
        replace hm := hide hm
        generalize halfBits y.half = X at *
        go_wp2_with (go_at_call 70; refine hM.out.mono ?_; rintro e w1 ⟨rfl, hb1⟩; have hl1 := hl.out.ext hb1; have d0 := hl1.blk.cell j; rw [hcj] at d0; have f0 := hl1.blk.frozen j; have hn1 := hl1.next hyj hk4.out; rw [hfl.out] at hn1; replace hn1 := hide hn1; replace hl1 := hide hl1; clear hb1)
        go_roundw
        case rel => exact ⟨j + 1, _, by go_num, by omega, hn1.out⟩
        case measure => simp [RowKit.intOf]; omega
      · have hM := hide (quo_any wr y.text (by have := hey.2.2; omega))
        have hfl : Hid (fld y = quo y.text) := hide (by unfold fld; rw [if_neg (by omega), if_pos k])
        have hk4 : Hid (y.kind ≤ 4) := hide (by omega)
        replace hey := hide hey
        clear k
        go_wp2_with (go_at_call 81; refine hM.out.mono ?_; rintro e w1 ⟨rfl, hb1⟩; have hl1 := hl.out.ext hb1; have d0 := hl1.blk.cell j; rw [hcj] at d0; have f0 := hl1.blk.frozen j; have hn1 := hl1.next hyj hk4.out; rw [hfl.out] at hn1; replace hn1 := hide hn1; replace hl1 := hide hl1; clear hb1)
        go_roundw
        case rel => exact ⟨j + 1, _, by go_num, by omega, hn1.out⟩
        case measure => simp [RowKit.intOf]; omega
      · have hbd := hide (And.intro hl.out.bel (show ∃ y ∈ xs, 5 ≤ y.kind from ⟨y, List.mem_of_getElem? hyj, by omega⟩))
        clear k
        go_wp2
        go_ret
        exact ⟨Or.inl ⟨_, rfl, hbd.out.2⟩, hbd.out.1.alloc hbd.out.1.size _⟩
      · have hbd := hide (And.intro hl.out.bel (show ∃ y ∈ xs, 5 ≤ y.kind from ⟨y, List.mem_of_getElem? hyj, by omega⟩))
        clear k
        go_wp2
        go_ret
        exact ⟨Or.inl ⟨_, rfl, hbd.out.2⟩, hbd.out.1.alloc hbd.out.1.size _⟩
    · obtain rfl : j = xs.length := by omega
      have hall : ∀ y ∈ xs, y.kind ≤ 4 := fun y hy => by
        obtain ⟨i, hi, rfl⟩ := List.getElem_of_mem hy
        exact hl.plain i _ hi (List.getElem?_eq_getElem hi)
      have hbel := hl.bel
      by_cases h0 : xs.length = 0
      · have hx0 := List.eq_nil_of_length_eq_zero h0
        subst hx0
        have hl2 := hide hl
        replace hall := hide hall
        clear hl
        go_wp2_with (go_at_call 95; refine (Tryz.strings_Join_none _ _ _ _).mono ?_; rintro e w1 ⟨rfl, rfl⟩)
        go_ret
        exact ⟨Or.inr ⟨rfl, hall.out⟩, hbel⟩
      · have hJ := Tryz.strings_Join w.heap.size 0 xs.length (xs.map fld) ⟨#[44]⟩ wr (fun i x hi => by
          obtain ⟨y, hy, rfl⟩ := List.getElem?_map ▸ hi |> Option.map_eq_some_iff.1
          have hil := (List.getElem?_eq_some_iff.1 hy).1
          rw [Nat.zero_add, hl.blk.cell]
          exact hl.made i y hil hy) hltS (by simp; omega) (by simp) (Nat.le_trans (row_len xs he.out) (by omega))
        rw [List.length_map] at hJ
        replace hJ : Hid (Calls Tryz.prog 95 #[.slice (some ⟨w.heap.size, 0, none⟩) xs.length xs.length, .string ⟨#[44]⟩] wr fun e w' => e = .returned (.string (rowT xs)) ∧ Below wr.heap.size wr w') := hide hJ
        replace hl := hide hl
        replace hall := hide hall
        go_wp2_with (go_at_call 95; refine hJ.out.mono ?_; rintro e w1 ⟨rfl, hb1⟩; replace hb1 := hide hb1)
        go_ret
        exact ⟨Or.inr ⟨rfl, hall.out⟩, hbel.trans (hb1.out.mono hbel.size)⟩
end Go.Proofs.YtbnbemacljjimaaGreatDoor

namespace Go.Proofs.YtbnbemacljjimaaGreatDoor
open Go.RowKit Go.Lib
set_option linter.unusedVariables false

/-- What is no list. -/
def NoList (x : Value) : Prop := ∀ W : World, (Instr.typeAssert x 20 83 true).run Tryz.prog W = .ok (.tuple #[.slice none 0 0, .bool false]) W

theorem GAt.nolist {w : World} {lo n : Nat} {x : Value} {v : JV} (h : GAt w lo n x v) (hk : ¬ v.kind = 5) : NoList x := by
  intro W
  cases n with
  | zero => exact absurd h (fun h => h)
  | succ n =>
    rcases h with h | h | h | h | h | h | h | h
    · rw [h.2]; exact as_nil_list W
    · rw [h.2]; exact as_bool_list _ W
    · rw [h.2]; exact as_bool_list _ W
    · rw [h.2.2]; exact as_int_list _ W
    · rw [h.2.2]; exact as_float_list _ W
    · rw [h.2]; exact as_str_list _ W
    · exact absurd h.1 hk
    · obtain ⟨-, b, ents, h, -⟩ := h
      rw [h]; exact as_map_list _ W

set_option maxHeartbeats 1000000 in
set_option maxRecDepth 100000 in
theorem join_no (w : World) (x : Value) (hx : NoList x) (hform : x = .nilIface ∨ ∃ ty u, x = .iface ty u) :
    Calls Tryz.prog 80 #[.string ⟨#[99, 115, 118]⟩, x, .string ⟨#[44]⟩, .func (Fn.func 81) #[] #[]] w fun e w' => (∃ t, e = .returned (.iface 136 t)) ∧ Below w.heap.size w w' := by
  unfold NoList at hx
  rcases hform with rfl | ⟨ty, u, rfl⟩
  all_goals
    go_enter Tryz.func80, Tryz.ntmps80
    go_wp2
    go_ret
    exact ⟨⟨_, rfl⟩, (Below.refl _ _).alloc (Nat.le_refl _) _⟩

/-- What @csv says of a value. -/
def CsvOk (v : JV) : Prop := v.kind = 5 ∧ ∀ y ∈ v.list, y.kind ≤ 4
def CsvEnds (v : JV) (e : Ending) : Prop := (CsvOk v ∧ e = .returned (.iface 9 (.string (rowT v.list)))) ∨ (¬ CsvOk v ∧ ((∃ t, e = .returned (.iface 136 t)) ∨ ∃ t, e = .returned (.iface 139 t)))

theorem zzCSV_any (n : Nat) (w : World) (lo : Nat) (x : Value) (v : JV) (hx : GAt w lo (n + 2) x v) (hl : v.list.length ≤ 400) (he : ∀ y ∈ v.list, Elem y) :
    Calls Tryz.prog 38 #[x] w fun e w' => CsvEnds v e ∧ Below w.heap.size w w' := by
  have hc : Calls Tryz.prog 80 #[.string ⟨#[99, 115, 118]⟩, x, .string ⟨#[44]⟩, .func (Fn.func 81) #[] #[]] w fun e w' => CsvEnds v e ∧ Below w.heap.size w w' := by
    by_cases hk : v.kind = 5
    · rcases hx with h | h | h | h | h | h | h | h
      · exact absurd h.1 (by omega)
      · exact absurd h.1 (by omega)
      · exact absurd h.1 (by omega)
      · exact absurd h.1 (by omega)
      · exact absurd h.1 (by omega)
      · exact absurd h.1 (by omega)
      · obtain ⟨-, b, o, c, rfl, h1, h2, h3, h4, h5⟩ := h
        refine (join_any n w lo b o c v.list hl h2 h3 h4 h5 he).mono ?_
        rintro e w' ⟨hj, hb⟩
        refine ⟨?_, hb⟩
        rcases hj with ⟨t, rfl, y, hy, h5⟩ | ⟨rfl, hall⟩
        · exact Or.inr ⟨fun hok => by have := hok.2 y hy; omega, Or.inr ⟨t, rfl⟩⟩
        · exact Or.inl ⟨⟨hk, hall⟩, rfl⟩
      · exact absurd h.1 (by omega)
    · refine (join_no w x (hx.nolist hk) hx.form).mono ?_
      rintro e w' ⟨ht, hb⟩
      exact ⟨Or.inr ⟨fun hok => hk hok.1, Or.inl ht⟩, hb⟩
  have hc57 : Calls Tryz.prog 57 #[x] w fun e w' => CsvEnds v e ∧ Below w.heap.size w w' := by
    clear hx he hl
    replace hc := hide hc
    go_enter Tryz.func57, Tryz.ntmps57
    go_wp2_with fail
    refine hc.out.mono ?_
    rintro e w1 ⟨hj, hb⟩
    rcases hj with ⟨hk, rfl⟩ | ⟨hk, ⟨t, rfl⟩ | ⟨t, rfl⟩⟩
    all_goals
      replace hk := hide hk
      replace hb := hide hb
      go_wp2
      go_ret
    · exact ⟨Or.inl ⟨hk.out, rfl⟩, hb.out⟩
    · exact ⟨Or.inr ⟨hk.out, Or.inl ⟨t, rfl⟩⟩, hb.out⟩
    · exact ⟨Or.inr ⟨hk.out, Or.inr ⟨t, rfl⟩⟩, hb.out⟩
  clear hx he hl hc
  replace hc57 := hide hc57
  go_enter Tryz.func38, Tryz.ntmps38
  go_wp2_with fail
  refine hc57.out.mono ?_
  rintro e w1 ⟨hj, hb⟩
  rcases hj with ⟨hk, rfl⟩ | ⟨hk, ⟨t, rfl⟩ | ⟨t, rfl⟩⟩
  all_goals
    replace hk := hide hk
    replace hb := hide hb
    go_wp2
    go_ret
  · exact ⟨Or.inl ⟨hk.out, rfl⟩, hb.out⟩
  · exact ⟨Or.inr ⟨hk.out, Or.inl ⟨t, rfl⟩⟩, hb.out⟩
  · exact ⟨Or.inr ⟨hk.out, Or.inr ⟨t, rfl⟩⟩, hb.out⟩

set_option maxHeartbeats 1000000 in
set_option maxRecDepth 100000 in
theorem result_err2 (w : World) (v : Value) :
    Calls Tryz.prog 23 #[.iface 139 v] w fun e w' => e = .returned (.agg #[.int .i64 0, .int .i64 0, .string ⟨#[]⟩, .slice none 0 0, .slice none 0 0, .slice none 0 0, .int .i64 1]) ∧ Below w.heap.size w w' := by
  go_enter Tryz.func23, Tryz.ntmps23
  go_wp2
  exact bodyPost_ret (v := .agg #[.int .i64 0, .int .i64 0, .string ⟨#[]⟩, .slice none 0 0, .slice none 0 0, .slice none 0 0, .int .i64 1]) (by simp [results, Tryz.results23, go_sem]) rfl ⟨rfl, (Below.refl _ _).alloc (Nat.le_refl _) _⟩

/-- What the door says. -/
def DoorSays (n : Nat) (v : JV) (w w' : World) (e : Ending) : Prop := ∃ r, e = .returned r ∧ Below w.heap.size w w' ∧ ((CsvOk v ∧ ResAt w' w'.heap.size n r (strJ (rowT v.list)) 0) ∨ (¬ CsvOk v ∧ ResAt w' w'.heap.size n r zeroJ 1))

set_option maxHeartbeats 2000000 in
set_option maxRecDepth 100000 in
theorem doorCSV_any (n : Nat) (w : World) (B : Nat) (x : Value) (v : JV) (hx : JAt w B (n + 2) x v) (hg : Good (n + 2) v) (hl : v.list.length ≤ 400) (he : ∀ y ∈ v.list, Elem y) (hB : B ≤ w.heap.size) :
    Calls Tryz.prog 16 #[x] w fun e w' => DoorSays (n + 1) v w w' e := by
  have hx' := hide hx
  obtain ⟨la, lc, ka, kc, va, vc, rfl, -⟩ := hx
  obtain ⟨W, hW⟩ : ∃ W, W = (w.alloc (.cells #[.int .i64 v.kind, .int .i64 v.half, .string v.text, .slice la v.list.length lc, .slice ka v.keys.length kc, .slice va v.vals.length vc] 26)).alloc (.cells #[.int .i64 0, .int .i64 0, .string ⟨#[]⟩, .slice none 0 0, .slice none 0 0, .slice none 0 0, .int .i64 0] 35) := ⟨_, rfl⟩
  have bW : Below w.heap.size w W := by rw [hW]; exact Below.alloc (Below.alloc (Below.refl _ _) (Nat.le_refl _) _) (by simp) _
  have sW : W.heap.size = w.heap.size + 2 := by rw [hW]; simp
  have kW : Blk W (w.heap.size + 1) 35 #[.int .i64 0, .int .i64 0, .string ⟨#[]⟩, .slice none 0 0, .slice none 0 0, .slice none 0 0, .int .i64 0] := by
    rw [hW]
    have h2 := Blk.new (w.alloc (.cells #[.int .i64 v.kind, .int .i64 v.half, .string v.text, .slice la v.list.length lc, .slice ka v.keys.length kc, .slice va v.vals.length vc] 26)) 35 #[.int .i64 0, .int .i64 0, .string ⟨#[]⟩, .slice none 0 0, .slice none 0 0, .slice none 0 0, .int .i64 0]
    have hsz : (w.alloc (.cells #[.int .i64 v.kind, .int .i64 v.half, .string v.text, .slice la v.list.length lc, .slice ka v.keys.length kc, .slice va v.vals.length vc] 26)).heap.size = w.heap.size + 1 := by simp
    rw [hsz] at h2
    exact h2
  have hxW : JAt W B (n + 2) _ v := JAt.keep (fun p hp => bW.cell (by omega)) (Nat.le_refl _) (n + 2) _ _ hx'.out
  replace hxW := hide hxW
  replace bW := hide bW
  replace kW := hide kW
  replace sW := hide sW
  replace hg := hide hg
  replace he := hide he
  go_enter Tryz.func16, Tryz.ntmps16
  go_wp2_with fail
  rw [← hW]
  clear hW
  refine (toGo_any (n + 2) W B _ v hxW.out hg.out (by have := sW.out; omega)).mono ?_
  rintro e W1 ⟨y, rfl, b1, hy⟩
  have kW1 := hide (kW.out.below b1 (by have := sW.out; omega))
  have b2 := hide (bW.out.trans (b1.mono bW.out.size))
  have hz := hide (zzCSV_any n W1 _ y v hy hl he.out)
  have hlo : w.heap.size + 1 < W1.heap.size := kW1.out.lt
  clear b1 hy
  go_wp2_with fail
  refine hz.out.mono ?_
  rintro e W2 ⟨hj, b3⟩
  have kW2 := hide (kW1.out.below b3 hlo)
  have b4 := hide (b2.out.trans (b3.mono b2.out.size))
  have hs23 := b3.size
  clear b3
  rcases hj with ⟨hk, rfl⟩ | ⟨hk, ⟨t, rfl⟩ | ⟨t, rfl⟩⟩
  · have hsz : (rowT v.list).size ≤ 9223372036854775807 := by
      have h1 := row_len v.list he.out
      show (Lib.join ((v.list.map fld).map (·.data.toList)) [44]).toArray.size ≤ _
      rw [List.size_toArray]
      omega
    have hR := hide (result_of (n + 1) W2 0 _ (strJ (rowT v.list)) (str_gat W2 0 (n + 1) (rowT v.list)) (fun W _ => str_fg W (n + 1) _ hsz))
    obtain ⟨u, hu⟩ : ∃ u, u = strJ (rowT v.list) := ⟨_, rfl⟩
    rw [← hu] at hR
    replace hu := hide hu
    replace hk := hide hk
    go_wp2_with (first
      | (go_at_call 23; refine hR.out.mono ?_; rintro e W3 ⟨la', lc', ka', kc', va', vc', rfl, b5, hr⟩; have kW3 := hide (kW2.out.below b5 kW2.out.lt); have b5' := hide (b4.out.trans (b5.mono b4.out.size)); have hr' := hide hr; clear b5 hr)
      | (refine wpList_store_blk rfl 35 (.tmp 2) (.tmp 15) rfl (w.heap.size + 1) _ rfl rfl 35 _ kW3.out res_size rfl (res_one _ _ _ _ _ _ _ _ _ _ _ _ _) ?_; intro W4 k4 o4 s4; have k4' := hide k4; have o4' := hide o4; have s4' := hide s4; clear k4 o4 s4))
    obtain ⟨q0, q1, q2, q3, q4, q5, q6⟩ := blk_seven k4'.out
    obtain ⟨r1, r2⟩ := door_end (z := 0) (by omega) b5'.out hr'.out o4'.out s4'.out (by omega)
    exact bodyPost_ret (v := .agg #[.int .i64 u.kind, .int .i64 u.half, .string u.text, .slice la' u.list.length lc', .slice ka' u.keys.length kc', .slice va' u.vals.length vc', .int .i64 0]) (by simp [results, Tryz.results16, go_sem, q0, q1, q2, q3, q4, q5, q6]) rfl ⟨_, rfl, r1, Or.inl ⟨hk.out, by rw [← hu.out]; exact r2⟩⟩
  all_goals
    have hR := hide (result_err W2 t)
    have hR2 := hide (result_err2 W2 t)
    replace hk := hide hk
    go_wp2_with (first
      | (go_at_call 23; (first | ((with_reducible refine hR.out.mono ?_); skip) | ((with_reducible refine hR2.out.mono ?_); skip)); rintro e W3 ⟨rfl, b5⟩; have kW3 := hide (kW2.out.below b5 kW2.out.lt); have b5' := hide (b4.out.trans (b5.mono b4.out.size)); clear b5)
      | (refine wpList_store_blk rfl 35 (.tmp 2) (.tmp 15) rfl (w.heap.size + 1) _ rfl rfl 35 _ kW3.out res_size rfl (res_one _ _ _ _ _ _ _ _ _ _ _ _ _) ?_; intro W4 k4 o4 s4; have k4' := hide k4; have o4' := hide o4; have s4' := hide s4; clear k4 o4 s4))
    obtain ⟨q0, q1, q2, q3, q4, q5, q6⟩ := blk_seven k4'.out
    refine bodyPost_ret (v := .agg #[.int .i64 0, .int .i64 0, .string ⟨#[]⟩, .slice none 0 0, .slice none 0 0, .slice none 0 0, .int .i64 1]) (by simp [results, Tryz.results16, go_sem, q0, q1, q2, q3, q4, q5, q6]) rfl ⟨_, rfl, ?_, Or.inr ⟨hk.out, ⟨_, _, _, _, _, _, rfl, zero_jat _ _ _⟩⟩⟩
    exact b5'.out.trans (o4'.out.below (by intro k hk; omega) b5'.out.size)
end Go.Proofs.YtbnbemacljjimaaGreatDoor
