/- The reader goes on to the next token; what a token is. -/
import Derived.Test.YtbnbemacljjimaaGreatDoorJc05
import Derived.Laws.Rows
namespace Go.Proofs.YtbnbemacljjimaaGreatDoor
open Go.RowKit Go.Lib
set_option linter.unusedVariables false

set_option maxHeartbeats 2000000 in
set_option maxRecDepth 100000 in
theorem move_end (w : World) (r : Nat) (s k x : ByteArray) (a : Nat) (bad : Bool) (h : Rd w r s a k x bad) (hp : Pt s a []) (hs : s.size ≤ 1000000) :
    Calls Tryz.prog 25 #[.pointer (some ⟨r, 0, none⟩)] w fun e w' => e = .returned (.tuple #[]) ∧ Rd w' r s a kEnd ⟨#[]⟩ bad ∧ Only (· = r) w w' := by
  obtain rfl : a = s.size := hp.end
  replace hp := hide hp
  go_enter Tryz.func25, Tryz.ntmps25
  go_wp2
  go_loopw [] (fun wr => wr = w) (fun wr => 0)
  case atStart => rfl
  case round =>
    subst hrel
    have c0 := h.cell 0
    have c1 := h.cell 1
    have c2 := h.cell 2
    have c3 := h.cell 3
    simp at c0 c1 c2 c3
    have f2 := h.frozen 2
    have f3 := h.frozen 3
    have hE := hide (fun N => (show Rd (((wr.drewN N).setCell ⟨r, 2, none⟩ (.string kEnd)).setCell ⟨r, 3, none⟩ (.string ⟨#[]⟩)) r s s.size kEnd ⟨#[]⟩ bad from by
      have h1 := ((show Blk (wr.drewN N) r _ _ from h).set_ 2 (.string kEnd)).set_ 3 (.string ⟨#[]⟩)
      simpa [Rd] using h1))
    replace h := hide h
    go_wp2
    go_quiet (fail)
    go_wp2
    go_quiet (fail)
    go_wp2
    (try simp only [Exit.inBlock, Exit.then])
    refine bodyPost_ret (results_none rfl _ _ _) rfl ?_
    refine ⟨rfl, ?_, ?_⟩
    · exact hE.out _
    · exact ((((Only.refl (· = r) wr).drewN _).setCell (p := ⟨r, 2, none⟩) (Or.inl rfl) _).setCell (p := ⟨r, 3, none⟩) (Or.inl rfl) _)

set_option maxHeartbeats 8000000 in
set_option maxRecDepth 100000 in
theorem move_tok (w : World) (r : Nat) (s k x : ByteArray) (a : Nat) (bad : Bool) (c : UInt8) (m : List UInt8) (h : Rd w r s a k x bad) (hp : Pt s a (c :: m)) (hs : s.size ≤ 1000000) (hok : c = 34 ∨ digB c ∨ ltr c.toNat true = true ∨ opc c ∧ (c = 45 → ∃ d r, m = d :: r ∧ digB d)) :
    Calls Tryz.prog 25 #[.pointer (some ⟨r, 0, none⟩)] w fun e w' => e = .returned (.tuple #[]) ∧ Rd w' r s (a + nxN (c :: m)) (nxK (c :: m)) (nxT (c :: m)) bad ∧ Only (· = r) w w' := by
  obtain ⟨hi, hat⟩ := hp.at
  have hpn := hp.next
  obtain ⟨C, hC⟩ : ∃ C, c.toNat = C := ⟨_, rfl⟩
  have hcC : s[a].toNat = C := by rw [hat]; exact hC
  have hsp : C ≠ 32 ∧ C ≠ 9 ∧ C ≠ 10 ∧ C ≠ 13 ∧ C ≠ 46 ∧ C ≠ 36 ∧ C ≠ 64 := by
    rcases hok with rfl | h | h | ⟨h, -⟩
    · subst hC; decide
    · have h1 := h.1
      have h2 := h.2
      omega
    · rw [hC] at h
      unfold ltr at h
      simp at h
      omega
    · subst hC
      rcases h with rfl | rfl | rfl | rfl | rfl | rfl | rfl <;> decide
  obtain ⟨g1, g2, g3, g4, g5, g6, g7⟩ := hsp
  have b1 : ((C : Int) == 32) = false := by simp; omega
  have b2 : ((C : Int) == 9) = false := by simp; omega
  have b3 : ((C : Int) == 10) = false := by simp; omega
  have b4 : ((C : Int) == 13) = false := by simp; omega
  have b5 : ((C : Int) == 46) = false := by simp; omega
  have b6 : ((C : Int) == 36) = false := by simp; omega
  have b7 : ((C : Int) == 64) = false := by simp; omega
  replace hat := hide hat
  replace g1 := hide (And.intro g1 (And.intro g2 (And.intro g3 (And.intro g4 (And.intro g5 (And.intro g6 g7))))))
  clear g2 g3 g4 g5 g6 g7
  have hwl := wl_le true (c :: m)
  have hroom := hp.room
  replace hpn := hide hpn
  replace hp := hide hp
  replace hok := hide hok
  replace hC := hide hC
  go_enter Tryz.func25, Tryz.ntmps25
  go_wp2
  go_loopw [] (fun wr => wr = w) (fun wr => 0)
  case atStart => rfl
  case round =>
    subst hrel
    have c0 := h.cell 0
    have c1 := h.cell 1
    simp at c0 c1
    have hN := hide (fun N => (show Rd (wr.drewN N) r s a k x bad from h))
    replace h := hide h
    go_wp2
    go_quiet (fail)
    go_wp2
    go_quiet (fail)
    go_wp2
    go_quiet (fail)
    cases hL : ltr C true with
    | true =>
      have hX0 : 0 < wl true (c :: m) := by rw [wl, hC.out, hL, if_pos rfl]; omega
      obtain ⟨X, hX⟩ : ∃ X : ByteArray, ⟨((c :: m).take (wl true (c :: m))).toArray⟩ = X := ⟨_, rfl⟩
      have hXs : X.size = wl true (c :: m) := by
        rw [← hX]
        show (List.take _ _).toArray.size = _
        rw [List.size_toArray, List.length_take]
        omega
      have hXn : (X.toList == []) = false := by
        cases e : X.toList == [] with
        | false => rfl
        | true =>
          have h1 := eq_of_beq e
          rw [Lib.toList_data] at h1
          have h2 : X.size = X.data.toList.length := by rw [Array.length_toList]; rfl
          rw [h1] at h2
          have h3 : X.size = 0 := h2
          omega
      have hnx := hide (nx_ltr (m := m) (show ltr c.toNat true = true by rw [hC.out]; exact hL))
      replace hX := hide hX
      replace hL := hide hL
      replace hX0 := hide hX0
      replace hXs := hide hXs
      have hXl : X.size ≤ (c :: m).length := by rw [hXs.out]; exact hwl
      replace hwl := hide hwl
      go_wp2_with (first
        | (go_at_call 47; refine (word_any _ r s k x a a bad (c :: m) (hN.out _) hp.out hs).mono ?_; rintro e w1 ⟨rfl, rfl⟩; rw [hX.out])
        | (go_at_call 48; refine (take_any _ r s k x kName X a X.size bad (hN.out _) (by omega)).mono ?_; rintro e w2 ⟨rfl, h2, o2⟩; replace h2 := hide h2; replace o2 := hide o2))
      (try simp only [Exit.inBlock, Exit.then])
      refine bodyPost_ret (results_none rfl _ _ _) rfl ?_
      refine ⟨rfl, ?_, ((Only.refl (· = r) wr).drewN _).trans o2.out⟩
      rw [hnx.out.1, hnx.out.2.1, hnx.out.2.2, hX.out, ← hXs.out]
      exact h2.out
    | false =>
      have hw0 : wl true (c :: m) = 0 := by rw [wl, hC.out, hL, if_neg (by simp)]
      have hX0 : Hid ((⟨((c :: m).take (wl true (c :: m))).toArray⟩ : ByteArray) = ⟨#[]⟩) := hide (by rw [hw0]; rfl)
      obtain ⟨Y, hY⟩ : ∃ Y : ByteArray, ⟨(m.take (wl true m)).toArray⟩ = Y := ⟨_, rfl⟩
      have ha1 := hide (show (a : Int) + 1 = ((a + 1 : Nat) : Int) by omega)
      replace hY := hide hY
      replace hw0 := hide hw0
      have hkinds : C = 34 ∨ digB c ∨ (opc c ∧ (c = 45 → ∃ d r, m = d :: r ∧ digB d)) := by
        rcases hok.out with h1 | h1 | h1 | h1
        · exact Or.inl (by rw [← hC.out, h1]; rfl)
        · exact Or.inr (Or.inl h1)
        · rw [hC.out, hL] at h1
          cases h1
        · exact Or.inr (Or.inr h1)
      replace hL := hide hL
      go_upto_region 8 with (go_at_call 47; refine (word_any _ r s k x a a bad (c :: m) (hN.out _) hp.out hs).mono ?_; rintro e w1 ⟨rfl, rfl⟩; rw [hX0.out])
      go_upto_region 10 with (go_at_call 47; rw [ha1.out]; refine (word_any _ r s k x a (a + 1) bad m (hN.out _) hpn.out hs).mono ?_; rintro e w1 ⟨rfl, rfl⟩; rw [hY.out])
      rcases hkinds with h34 | hd | ⟨ho, hm⟩
      · subst h34
        have hnx : Hid (nxK (c :: m) = kStr ∧ nxT (c :: m) = ⟨#[]⟩ ∧ nxN (c :: m) = 1) := hide (by
          have : c = 34 := UInt8.toNat_inj.1 hC.out
          subst this
          exact nx_str)
        go_wp2_with (first
          | (go_at_call 48; refine (take_any _ r s k x kStr ⟨#[]⟩ a 1 bad (hN.out _) (by omega)).mono ?_; rintro e w2 ⟨rfl, h2, o2⟩; replace h2 := hide h2; replace o2 := hide o2))
        go_end0
        refine ⟨rfl, ?_, ((Only.refl (· = r) wr).drewN _).trans o2.out⟩
        rw [hnx.out.1, hnx.out.2.1, hnx.out.2.2]
        exact h2.out
      · have hnx := hide (nx_dig (m := m) hd)
        have hdd : 48 ≤ c.toNat ∧ c.toNat ≤ 57 := hd
        rw [hC.out] at hdd
        have d1 : ((C : Int) == 34) = false := by simp; omega
        have d2 : (48 : Int) ≤ (C : Int) := by omega
        have d3 : (C : Int) ≤ 57 := by omega
        replace hd := hide hd
        replace hdd := hide hdd
        go_wp2_with (first
          | (go_at_call 49; refine (number_any _ r s k x a bad (c :: m) (hN.out _) hp.out hs).mono ?_; rintro e w2 ⟨rfl, h2, o2⟩; replace h2 := hide h2; replace o2 := hide o2))
        go_end0
        refine ⟨rfl, ?_, ((Only.refl (· = r) wr).drewN _).trans o2.out⟩
        rw [hnx.out.1, hnx.out.2.1, hnx.out.2.2]
        exact h2.out
      · have hnx := hide (nx_op (m := m) ho)
        have hdd : C < 48 ∨ 57 < C := by
          have h1 := dig_op ho
          have h2 : ¬ (48 ≤ c.toNat ∧ c.toNat ≤ 57) := h1
          rw [hC.out] at h2
          omega
        have d1 : ((C : Int) == 34) = false := by
          have h2 : C ≠ 34 := by
            rw [← hC.out]
            rcases ho with rfl | rfl | rfl | rfl | rfl | rfl | rfl <;> decide
          simp
          omega
        replace ho := hide ho
        replace hm := hide hm
        rcases hdd with hdd | hdd
        · have d2 : ¬ (48 : Int) ≤ (C : Int) := by omega
          replace hdd := hide hdd
          go_wp2_with (first
                | (go_at_call 50; refine (sign_any _ r s k x a bad c m (hN.out _) hp.out hs ho.out hm.out).mono ?_; rintro e w2 ⟨rfl, h2, o2⟩; replace h2 := hide h2; replace o2 := hide o2))
          go_end0
          refine ⟨rfl, ?_, ((Only.refl (· = r) wr).drewN _).trans o2.out⟩
          rw [hnx.out.1, hnx.out.2.1, hnx.out.2.2]
          exact h2.out
        · have d2 : (48 : Int) ≤ (C : Int) := by omega
          have d3 : ¬ (C : Int) ≤ 57 := by omega
          replace hdd := hide hdd
          go_wp2_with (first
                | (go_at_call 50; refine (sign_any _ r s k x a bad c m (hN.out _) hp.out hs ho.out hm.out).mono ?_; rintro e w2 ⟨rfl, h2, o2⟩; replace h2 := hide h2; replace o2 := hide o2))
          go_end0
          refine ⟨rfl, ?_, ((Only.refl (· = r) wr).drewN _).trans o2.out⟩
          rw [hnx.out.1, hnx.out.2.1, hnx.out.2.2]
          exact h2.out

theorem move_any (w : World) (r : Nat) (s k x : ByteArray) (a : Nat) (bad : Bool) (l : List UInt8) (h : Rd w r s a k x bad) (hp : Pt s a l) (hs : s.size ≤ 1000000) (hok : OkTok l) :
    Calls Tryz.prog 25 #[.pointer (some ⟨r, 0, none⟩)] w fun e w' => e = .returned (.tuple #[]) ∧ Rd w' r s (a + nxN l) (nxK l) (nxT l) bad ∧ Only (· = r) w w' := by
  rcases hok with rfl | ⟨c, m, rfl, hok⟩
  · exact move_end w r s k x a bad h hp hs
  · exact move_tok w r s k x a bad c m h hp hs hok

/-- .. from a token, l behind it, to the first one of l. -/
theorem move_ready (w : World) (r : Nat) (s k x : ByteArray) (l : List UInt8) (h : Tok w r s k x l) (hs : s.size ≤ 1000000) (hok : OkTok l) :
    Calls Tryz.prog 25 #[.pointer (some ⟨r, 0, none⟩)] w fun e w' => e = .returned (.tuple #[]) ∧ Ready w' r s l ∧ Only (· = r) w w' := by
  obtain ⟨a, h1, h2⟩ := h
  refine (move_any w r s k x a false l h1 h2 hs hok).mono ?_
  rintro e w' ⟨rfl, k1, k2⟩
  exact ⟨rfl, ⟨_, k1, h2.skipN (nxN_le l)⟩, k2⟩
end Go.Proofs.YtbnbemacljjimaaGreatDoor

namespace Go.Proofs.YtbnbemacljjimaaGreatDoor
open Go.RowKit Go.Lib
set_option linter.unusedVariables false

set_option maxHeartbeats 2000000 in
set_option maxRecDepth 100000 in
theorem is_no (w : World) (r : Nat) (s k x t : ByteArray) (a : Nat) (h : Rd w r s a k x false) (o m e : Bool) (b1 : (k.toList == [111, 112]) = o) (b2 : (k.toList == [110, 97, 109, 101]) = m) (b3 : (x.toList == t.toList) = e) (hn : ((o || m) && e) = false) :
    Calls Tryz.prog 54 #[.pointer (some ⟨r, 0, none⟩), .string t] w fun e w' => e = .returned (.bool false) ∧ w = w' := by
  have c2 := h.cell 2
  have c3 := h.cell 3
  have c4 := h.cell 4
  simp at c2 c3 c4
  replace h := hide h
  cases o <;> cases m <;> cases e <;> first
    | (exact absurd hn (by decide))
    | (clear hn
       go_enter Tryz.func54, Tryz.ntmps54
       go_wp2
       go_ret
       exact ⟨rfl, rfl⟩)

set_option maxHeartbeats 2000000 in
set_option maxRecDepth 100000 in
theorem is_yes (w : World) (r : Nat) (s x : ByteArray) (l : List UInt8) (h : Tok w r s kOp x l) (hs : s.size ≤ 1000000) (hok : OkTok l) :
    Calls Tryz.prog 54 #[.pointer (some ⟨r, 0, none⟩), .string x] w fun e w' => e = .returned (.bool true) ∧ Ready w' r s l ∧ Only (· = r) w w' := by
  have hmv := hide (move_ready w r s kOp x l h hs hok)
  obtain ⟨a, h1, h2⟩ := h
  have c2 := h1.cell 2
  have c3 := h1.cell 3
  have c4 := h1.cell 4
  simp at c2 c3 c4
  unfold kOp at c2
  have hxx : (x.toList == x.toList) = true := beq_self_eq_true _
  replace h1 := hide h1
  replace h2 := hide h2
  go_enter Tryz.func54, Tryz.ntmps54
  go_wp2_with (go_at_call 25; refine hmv.out.mono ?_; rintro e w2 ⟨rfl, k1, k2⟩; replace k1 := hide k1; replace k2 := hide k2)
  go_ret
  exact ⟨rfl, k1.out, k2.out⟩

set_option maxHeartbeats 2000000 in
set_option maxRecDepth 100000 in
theorem want_yes (w : World) (r : Nat) (s x : ByteArray) (l : List UInt8) (h : Tok w r s kOp x l) (hs : s.size ≤ 1000000) (hok : OkTok l) :
    Calls Tryz.prog 74 #[.pointer (some ⟨r, 0, none⟩), .string x] w fun e w' => e = .returned (.tuple #[]) ∧ Ready w' r s l ∧ Only (· = r) w w' := by
  have hmv := hide (is_yes w r s x l h hs hok)
  go_enter Tryz.func74, Tryz.ntmps74
  go_wp2_with (go_at_call 54; refine hmv.out.mono ?_; rintro e w2 ⟨rfl, k1, k2⟩; replace k1 := hide k1; replace k2 := hide k2)
  go_end0
  exact ⟨rfl, k1.out, k2.out⟩

theorem q_size : (Tryz.prog.info? 41).map (·.size) = some 12 := by kernel_rfl

theorem Blk.new2 (w : World) (o : Obj) (t : TypeId) (cs : Array Value) : Blk ((w.alloc o).alloc (.cells cs t)) (w.heap.size + 1) t cs := by
  have h := Blk.new (w.alloc o) t cs
  simpa using h
theorem ret_q {fn : Func} {R : Ending → World → Prop} {p : Tmp} (h : fn.results = #[.cell p 41]) {a : Act} {w : World} (g : Nat) (cs : Array Value) (hp : a.tmps.getD p undef = .pointer (some ⟨g, 0, none⟩)) (hd : a.defers = [])
    (hb : Blk w g 41 cs) (hs : cs.size = 12) (hR : R (.returned (.agg cs)) w) : bodyPost Tryz.prog fn R .ret a w :=
  bodyPost_ret (results_cell_row h _ _ g _ cs (0, 0) _ hp hb Tryz.underlying41 rfl (by rw [hs]; exact q_size)) hd hR

/-- A query of an op and kids, as cells. -/
def ofC (op : ByteArray) (A : Option Addr) (n c : Nat) : List Value := [.string op, .string ⟨#[]⟩, .int .i64 0, .int .i64 0, .string ⟨#[]⟩, .slice none 0 0, .slice none 0 0, .slice none 0 0, .slice A n c, .slice none 0 0, .slice none 0 0, .slice none 0 0]

set_option maxHeartbeats 1000000 in
set_option maxRecDepth 100000 in
theorem of_any (w : World) (op : ByteArray) (A : Option Addr) (n c : Nat) :
    Calls Tryz.prog 33 #[.string op, .slice A n c] w fun e w' => e = .returned (.agg (ofC op A n c).toArray) ∧ Below w.heap.size w w' := by
  go_enter Tryz.func33, Tryz.ntmps33
  go_wp2
  refine ret_q Tryz.results33 w.heap.size _ rfl rfl (Blk.new _ _ _) rfl ⟨rfl, (Below.refl _ _).alloc (Nat.le_refl _) _⟩

set_option maxHeartbeats 1000000 in
set_option maxRecDepth 100000 in
theorem dot_any (w : World)  :
    Calls Tryz.prog 51 #[] w fun e w' => e = .returned (.agg (ofC ⟨#[46]⟩ none 0 0).toArray) ∧ Below w.heap.size w w' := by
  go_enter Tryz.func51, Tryz.ntmps51
  go_wp2
  refine ret_q Tryz.results51 w.heap.size _ rfl rfl (Blk.new _ _ _) rfl ⟨rfl, (Below.refl _ _).alloc (Nat.le_refl _) _⟩

set_option maxHeartbeats 1000000 in
set_option maxRecDepth 100000 in
theorem val_any (w : World) (z1 z2 : Int) (t : ByteArray) (la ka va : Option Addr) (l1 l2 k1 k2 v1 v2 : Nat) :
    Calls Tryz.prog 31 #[.agg #[.int .i64 z1, .int .i64 z2, .string t, .slice la l1 l2, .slice ka k1 k2, .slice va v1 v2]] w fun e w' => e = .returned (.agg #[.string opVal, .string ⟨#[]⟩, .int .i64 z1, .int .i64 z2, .string t, .slice la l1 l2, .slice ka k1 k2, .slice va v1 v2, .slice none 0 0, .slice none 0 0, .slice none 0 0, .slice none 0 0]) ∧ Below w.heap.size w w' := by
  go_enter Tryz.func31, Tryz.ntmps31
  go_wp2
  refine ret_q Tryz.results31 (w.heap.size + 1) _ rfl rfl (Blk.new2 _ _ _ _) rfl ⟨rfl, ((Below.refl _ _).alloc (Nat.le_refl _) _).alloc (by simp) _⟩

set_option maxHeartbeats 1000000 in
set_option maxRecDepth 100000 in
theorem among_no (w : World) (t : ByteArray) (g n : Nat) (cs : Array Value) (hg : Blk w g 9 cs) (hn : n ≤ 100) (hno : ∀ i, i < n → ∃ sg : ByteArray, cs[i]? = some (.string sg) ∧ (sg.toList == t.toList) = false) :
    Calls Tryz.prog 110 #[.slice (some ⟨g, 0, none⟩) n n, .string t] w fun e w' => e = .returned (.bool false) ∧ w = w' := by
  replace hno := hide hno
  replace hg := hide hg
  go_enter Tryz.func110, Tryz.ntmps110
  go_wp2
  go_loopw [5] (fun s5 wr => ∃ i : Nat, s5 = .int .i64 (i : Int) ∧ i ≤ n ∧ wr = w) (fun i _ => n - (RowKit.intOf i).toNat)
  case atStart => exact ⟨0, rfl, Nat.zero_le _, rfl⟩
  case round =>
    obtain ⟨i, rfl, hi, rfl⟩ := hrel
    by_cases hlt : i < n
    · obtain ⟨sg, h1, h2⟩ := hno.out i hlt
      have hc := hg.out.cell i
      rw [h1] at hc
      replace h1 := hide h1
      go_wp2
      go_roundw
      case rel => exact ⟨i + 1, by go_num, by omega, trivial⟩
      case measure => simp [RowKit.intOf]; omega
    · obtain rfl : i = n := by omega
      go_wp2
      go_ret
      exact ⟨rfl, rfl⟩

/-- The signs that end a value. -/
def folC (t : ByteArray) : Prop := t = ⟨#[44]⟩ ∨ t = ⟨#[58]⟩ ∨ t = ⟨#[93]⟩ ∨ t = ⟨#[125]⟩
theorem nfol {sg t : ByteArray} (h1 : ¬ folC sg) (h2 : folC t) : (sg.toList == t.toList) = false := ba_ne (fun e => h1 (e ▸ h2))
instance (t : ByteArray) : Decidable (folC t) := by unfold folC; infer_instance

set_option maxHeartbeats 1000000 in
set_option maxRecDepth 100000 in
theorem loose_any (w : World) (n : Nat) (hn : n ≤ 5) :
    Calls Tryz.prog 111 #[.int .i64 (n : Int)] w fun e w' => ∃ (m : Nat) (cs : Array Value), e = .returned (.slice (some ⟨w.heap.size, 0, none⟩) m m) ∧ m ≤ 100 ∧ Blk w' w.heap.size 9 cs ∧ Below w.heap.size w w' ∧ ∀ i, i < m → ∃ sg : ByteArray, cs[i]? = some (.string sg) ∧ ¬ folC sg := by
  rcases (by omega : n = 0 ∨ n = 1 ∨ n = 2 ∨ n = 3 ∨ n = 4 ∨ n = 5) with rfl | rfl | rfl | rfl | rfl | rfl
  all_goals
    go_enter Tryz.func111, Tryz.ntmps111
    go_wp2
    go_ret
    refine ⟨_, _, rfl, by decide, Blk.new _ _ _, (Below.refl _ _).alloc (Nat.le_refl _) _, fun i hi => ?_⟩
  · rcases (by omega : i = 0 ∨ i = 1 ∨ i = 2 ∨ i = 3 ∨ i = 4 ∨ i = 5 ∨ i = 6 ∨ i = 7) with rfl | rfl | rfl | rfl | rfl | rfl | rfl | rfl <;> exact ⟨_, rfl, by decide⟩
  · obtain rfl : i = 0 := by omega
    exact ⟨_, rfl, by decide⟩
  · obtain rfl : i = 0 := by omega
    exact ⟨_, rfl, by decide⟩
  · rcases (by omega : i = 0 ∨ i = 1 ∨ i = 2 ∨ i = 3 ∨ i = 4 ∨ i = 5) with rfl | rfl | rfl | rfl | rfl | rfl <;> exact ⟨_, rfl, by decide⟩
  · rcases (by omega : i = 0 ∨ i = 1) with rfl | rfl <;> exact ⟨_, rfl, by decide⟩
  · rcases (by omega : i = 0 ∨ i = 1 ∨ i = 2) with rfl | rfl | rfl <;> exact ⟨_, rfl, by decide⟩

theorem fol_tok {l : List UInt8} (h : Fol l) : (nxK l = kEnd ∧ nxT l = ⟨#[]⟩) ∨ (nxK l = kOp ∧ folC (nxT l)) := by
  rcases h with rfl | ⟨c, r, rfl, h⟩
  · exact Or.inl ⟨rfl, rfl⟩
  · refine Or.inr ?_
    have ho : opc c := by
      unfold opc
      rcases h with rfl | rfl | rfl | rfl <;> simp
    obtain ⟨h1, h2, -⟩ := nx_op (m := r) ho
    refine ⟨h1, ?_⟩
    rw [h2]
    rcases h with rfl | rfl | rfl | rfl <;> decide

/-- The token is no such sign. -/
theorem is_not (w : World) (r : Nat) (s t : ByteArray) (l : List UInt8) (h : Ready w r s l) (hn : (nxK l = kEnd ∨ nxK l = kStr ∨ nxK l = kNum) ∨ nxT l ≠ t) :
    Calls Tryz.prog 54 #[.pointer (some ⟨r, 0, none⟩), .string t] w fun e w' => e = .returned (.bool false) ∧ w = w' := by
  obtain ⟨a, h1, h2⟩ := h
  rcases hn with (hn | hn | hn) | hn
  · rw [hn] at h1
    exact is_no w r s _ _ t a h1 false false _ (by rw [Lib.toList_data]; decide) (by rw [Lib.toList_data]; decide) rfl rfl
  · rw [hn] at h1
    exact is_no w r s _ _ t a h1 false false _ (by rw [Lib.toList_data]; decide) (by rw [Lib.toList_data]; decide) rfl rfl
  · rw [hn] at h1
    exact is_no w r s _ _ t a h1 false false _ (by rw [Lib.toList_data]; decide) (by rw [Lib.toList_data]; decide) rfl rfl
  · exact is_no w r s _ _ t a h1 _ _ false rfl rfl (ba_ne hn) (by simp)
theorem is_fol (w : World) (r : Nat) (s t : ByteArray) (l : List UInt8) (h : Ready w r s l) (hf : Fol l) (ht : ¬ folC t) :
    Calls Tryz.prog 54 #[.pointer (some ⟨r, 0, none⟩), .string t] w fun e w' => e = .returned (.bool false) ∧ w = w' := by
  refine is_not w r s t l h ?_
  rcases fol_tok hf with ⟨h1, -⟩ | ⟨-, h1⟩
  · exact Or.inl (Or.inl h1)
  · exact Or.inr (fun e => ht (e ▸ h1))
/-- The token is this sign, l behind it. -/
theorem is_this (w : World) (r : Nat) (s : ByteArray) (c : UInt8) (l : List UInt8) (h : Ready w r s (c :: l)) (hc : opc c) (hs : s.size ≤ 1000000) (hok : OkTok l) :
    Calls Tryz.prog 54 #[.pointer (some ⟨r, 0, none⟩), .string ⟨#[c]⟩] w fun e w' => e = .returned (.bool true) ∧ Ready w' r s l ∧ Only (· = r) w w' := by
  obtain ⟨h1, h2, h3⟩ := nx_op (m := l) hc
  unfold Ready at h
  rw [h1, h2, h3] at h
  exact is_yes w r s ⟨#[c]⟩ l h hs hok
theorem want_this (w : World) (r : Nat) (s : ByteArray) (c : UInt8) (l : List UInt8) (h : Ready w r s (c :: l)) (hc : opc c) (hs : s.size ≤ 1000000) (hok : OkTok l) :
    Calls Tryz.prog 74 #[.pointer (some ⟨r, 0, none⟩), .string ⟨#[c]⟩] w fun e w' => e = .returned (.tuple #[]) ∧ Ready w' r s l ∧ Only (· = r) w w' := by
  obtain ⟨h1, h2, h3⟩ := nx_op (m := l) hc
  unfold Ready at h
  rw [h1, h2, h3] at h
  exact want_yes w r s ⟨#[c]⟩ l h hs hok
end Go.Proofs.YtbnbemacljjimaaGreatDoor

namespace Go.Proofs.YtbnbemacljjimaaGreatDoor
open Go.RowKit Go.Lib
set_option linter.unusedVariables false

/-- A query is read; rest stands behind it. -/
def Yields (w : World) (r : Nat) (s : ByteArray) (rest : List UInt8) (q : QV) (e : Ending) (w' : World) : Prop :=
  ∃ y, e = .returned (.agg y.toArray) ∧ QAt w' (w.heap.size ≤ ·) y q ∧ Ready w' r s rest ∧ Only (· = r) w w'
/-- A function of the reader alone reads a query. -/
def FnSays (f : FuncId) (r : Nat) (s : ByteArray) (l rest : List UInt8) (q : QV) : Prop := ∀ W, Ready W r s l → Calls Tryz.prog f #[.pointer (some ⟨r, 0, none⟩)] W (Yields W r s rest q)

theorem Ready.lt {w : World} {r : Nat} {s : ByteArray} {l : List UInt8} (h : Ready w r s l) : r < w.heap.size := by
  obtain ⟨a, h1, -⟩ := h
  exact Blk.lt h1
theorem Ready.only {w w' : World} {r : Nat} {s : ByteArray} {l : List UInt8} {P : Nat → Prop} (h : Ready w r s l) (ho : Only P w w') (hn : ¬ P r) : Ready w' r s l := Tok.only h ho hn
theorem Ready.cells {w : World} {r : Nat} {s : ByteArray} {l : List UInt8} (h : Ready w r s l) : w.cell? ⟨r, 0, none⟩ = some (.string s) ∧ (∃ a : Nat, w.cell? ⟨r, 1, none⟩ = some (.int .i64 a)) ∧ w.cell? ⟨r, 2, none⟩ = some (.string (nxK l)) ∧ w.cell? ⟨r, 3, none⟩ = some (.string (nxT l)) ∧ w.cell? ⟨r, 4, none⟩ = some (.bool false) := by
  obtain ⟨a, h1, -⟩ := h
  have c0 := h1.cell 0
  have c1 := h1.cell 1
  have c2 := h1.cell 2
  have c3 := h1.cell 3
  have c4 := h1.cell 4
  simp at c0 c1 c2 c3 c4
  exact ⟨c0, ⟨a, c1⟩, c2, c3, c4⟩

/-- The cells of an empty query. -/
def zC : Array Value := #[.string ⟨#[]⟩, .string ⟨#[]⟩, .int .i64 0, .int .i64 0, .string ⟨#[]⟩, .slice none 0 0, .slice none 0 0, .slice none 0 0, .slice none 0 0, .slice none 0 0, .slice none 0 0, .slice none 0 0]

theorem only_new {W1 W3 : World} {o : Obj} (h : Only (· = W1.heap.size) (W1.alloc o) W3) : Only (fun _ => False) W1 W3 :=
  ⟨h.os, h.tape, h.output, by have := h.size; simp at this; omega, fun k hk _ => (h.block k (by simp; omega) (by omega)).trans (Below.heap_alloc W1 o k hk)⟩
theorem Only.no {w w' : World} (h : Only (fun _ => False) w w') {P : Nat → Prop} : Only P w w' := h.mono (fun _ h => h.elim)

/-- What is written besides r is new. -/
theorem Only.back {r : Nat} {w w1 w2 : World} {P : Nat → Prop} (h : Only (· = r) w w1) (k : Only P w1 w2) (hP : ∀ b, P b → b = r ∨ w.heap.size ≤ b) : Only (· = r) w w2 :=
  ⟨k.os.trans h.os, k.tape.trans h.tape, k.output.trans h.output, Nat.le_trans h.size k.size, fun b hb hn => (k.block b (Nat.lt_of_lt_of_le hb h.size) (fun hp => by rcases hP b hp with e | e; exact hn e; omega)).trans (h.block b hb hn)⟩

theorem fol_kind {l : List UInt8} (h : Fol l) : ((nxK l).toList == [102, 105, 101, 108, 100]) = false := by
  rcases fol_tok h with ⟨h, -⟩ | ⟨h, -⟩ <;> rw [h, Lib.toList_data] <;> decide

theorem bs_one (a0 a1 a2 a3 a4 a5 a6 a7 a8 a9 a10 a11 : Value) (w : World) : (Instr.buildSlice 37 1 #[(0, .agg #[a0, a1, a2, a3, a4, a5, a6, a7, a8, a9, a10, a11])]).run Tryz.prog w = .ok (.slice (some ⟨w.heap.size, 0, none⟩) 1 1) (w.alloc (.cells #[a0, a1, a2, a3, a4, a5, a6, a7, a8, a9, a10, a11] 41)) := by kernel_rfl
theorem bs_two (a0 a1 a2 a3 a4 a5 a6 a7 a8 a9 a10 a11 b0 b1 b2 b3 b4 b5 b6 b7 b8 b9 b10 b11 : Value) (w : World) : (Instr.buildSlice 37 2 #[(0, .agg #[a0, a1, a2, a3, a4, a5, a6, a7, a8, a9, a10, a11]), (1, .agg #[b0, b1, b2, b3, b4, b5, b6, b7, b8, b9, b10, b11])]).run Tryz.prog w = .ok (.slice (some ⟨w.heap.size, 0, none⟩) 2 2) (w.alloc (.cells #[a0, a1, a2, a3, a4, a5, a6, a7, a8, a9, a10, a11, b0, b1, b2, b3, b4, b5, b6, b7, b8, b9, b10, b11] 41)) := by kernel_rfl
theorem twelve {y : List Value} (h : y.toArray.size = 12) : ∃ a0 a1 a2 a3 a4 a5 a6 a7 a8 a9 a10 a11, y = [a0, a1, a2, a3, a4, a5, a6, a7, a8, a9, a10, a11] := by
  rw [List.size_toArray] at h
  match y, h with
  | [a0, a1, a2, a3, a4, a5, a6, a7, a8, a9, a10, a11], _ => exact ⟨a0, a1, a2, a3, a4, a5, a6, a7, a8, a9, a10, a11, rfl⟩
theorem bs_one' {y : List Value} (h : y.toArray.size = 12) (w : World) : (Instr.buildSlice 37 1 #[(0, .agg y.toArray)]).run Tryz.prog w = .ok (.slice (some ⟨w.heap.size, 0, none⟩) 1 1) (w.alloc (.cells y.toArray 41)) := by
  obtain ⟨a0, a1, a2, a3, a4, a5, a6, a7, a8, a9, a10, a11, rfl⟩ := twelve h
  exact bs_one a0 a1 a2 a3 a4 a5 a6 a7 a8 a9 a10 a11 w
theorem bs_two' {y z : List Value} (h : y.toArray.size = 12) (h2 : z.toArray.size = 12) (w : World) : (Instr.buildSlice 37 2 #[(0, .agg y.toArray), (1, .agg z.toArray)]).run Tryz.prog w = .ok (.slice (some ⟨w.heap.size, 0, none⟩) 2 2) (w.alloc (.cells (y ++ z).toArray 41)) := by
  obtain ⟨a0, a1, a2, a3, a4, a5, a6, a7, a8, a9, a10, a11, rfl⟩ := twelve h
  obtain ⟨b0, b1, b2, b3, b4, b5, b6, b7, b8, b9, b10, b11, rfl⟩ := twelve h2
  exact bs_two a0 a1 a2 a3 a4 a5 a6 a7 a8 a9 a10 a11 b0 b1 b2 b3 b4 b5 b6 b7 b8 b9 b10 b11 w

section
variable {ops : Array Oper} {rest : List Oper} {o : Oper} {a : Act} {w : World} {Q : Exit → Act → World → Prop}
theorem wpList_bs1 (hg : o.guard = none) (x : Operand) (ho : o.op = .buildSlice 37 1 #[(0, x)]) (y : List Value) (hx : a.eval x = .agg y.toArray) (hy : y.toArray.size = 12)
    (h : ∀ w', Blk w' w.heap.size 41 y.toArray → Only (fun _ => False) w w' → w'.heap.size = w.heap.size + 1 → wpList Tryz.prog ops Q rest (a.put o.dst (.slice (some ⟨w.heap.size, 0, none⟩) 1 1)) w') : wpList Tryz.prog ops Q (o :: rest) a w :=
  wpList_plain hg fun _ hK => by
    unfold Oper.wp execOp
    simp only [ho, List.map_toArray, List.map_cons, List.map_nil, hx, Sem.run_bind, bs_one' hy, Result.andThen_ok]
    exact hK _ _ (h _ (Blk.new w _ _) ((Only.refl _ w).alloc _) (by simp))
theorem wpList_bs2 (hg : o.guard = none) (x1 x2 : Operand) (ho : o.op = .buildSlice 37 2 #[(0, x1), (1, x2)]) (y z : List Value) (hx : a.eval x1 = .agg y.toArray) (hx2 : a.eval x2 = .agg z.toArray) (hy : y.toArray.size = 12) (hz : z.toArray.size = 12)
    (h : ∀ w', Blk w' w.heap.size 41 (y ++ z).toArray → Only (fun _ => False) w w' → w'.heap.size = w.heap.size + 1 → wpList Tryz.prog ops Q rest (a.put o.dst (.slice (some ⟨w.heap.size, 0, none⟩) 2 2)) w') : wpList Tryz.prog ops Q (o :: rest) a w :=
  wpList_plain hg fun _ hK => by
    unfold Oper.wp execOp
    simp only [ho, List.map_toArray, List.map_cons, List.map_nil, hx, hx2, Sem.run_bind, bs_two' hy hz, Result.andThen_ok]
    exact hK _ _ (h _ (Blk.new w _ _) ((Only.refl _ w).alloc _) (by simp))
end

theorem Cln.zero : Cln (.mk 0 0 ⟨#[]⟩ [] [] []) 0 0 0 := ⟨rfl, rfl, rfl, by decide, by decide, by decide, Nat.zero_le _, by decide, by decide⟩
/-- A query of an op and kids lies as 'of' makes it. -/
theorem QAt.of {w : World} {P : Nat → Prop} {op : ByteArray} {qs : List QV} {A : Option Addr} {n c : Nat} (hn : n = qs.length) (h2 : op.size ≤ 100) (h3 : n ≤ c) (h4 : c ≤ 9223372036854775807) (h5 : VecQ w P A qs) : QAt w P (ofC op A n c) (ofQ op qs) := by
  subst hn
  exact QAt.make (q := ofQ op qs) Cln.zero h2 h3 h4 h5

set_option maxHeartbeats 2000000 in
set_option maxRecDepth 100000 in
theorem term_step {r : Nat} {s : ByteArray} {l rest : List UInt8} {q : QV} (hs : s.size ≤ 1000000) (hf : Fol rest) (h : FnSays 152 r s l rest q) : FnSays 129 r s l rest q := by
  intro w hR
  have hrw := hR.lt
  have hkind := fol_kind hf
  replace hf := hide hf
  replace h := hide h
  obtain ⟨W0, hW0⟩ : ∃ W0, W0 = w.alloc (.cells zC 41) := ⟨_, rfl⟩
  have o0 : Only (· = r) w W0 := by rw [hW0]; exact (Only.refl _ w).alloc _
  have k0 : Blk W0 w.heap.size 41 zC := by rw [hW0]; exact Blk.new w _ _
  have s0 : W0.heap.size = w.heap.size + 1 := by rw [hW0]; simp
  have hR0 : Ready W0 r s l := by rw [hW0]; exact hR.only ((Only.refl (fun _ => False) w).alloc _) (fun h => h)
  replace o0 := hide o0
  replace s0 := hide s0
  replace hR0 := hide hR0
  replace k0 := hide k0
  clear hR
  unfold zC at hW0
  go_enter Tryz.func129, Tryz.ntmps129
  go_wp2_with fail
  rw [← hW0]
  clear hW0
  refine (h.out W0 hR0.out).mono ?_
  rintro e W1 ⟨y, rfl, hy, hR1, o1⟩
  have k1 := hide (o1.blk k0.out (by omega))
  have hlt1 := o1.size
  have hys := hy.sz
  have hya := hy.all
  replace hys := hide hys
  replace hya := hide hya
  replace hy := hide hy
  replace hR1 := hide hR1
  replace o1 := hide o1
  go_wp2_with (refine wpList_store_blk rfl _ _ _ rfl W1.heap.size y.toArray rfl rfl 41 _ (Blk.new W1 _ _) (by rw [hys.out]; exact q_size) (by rw [hys.out]; rfl) hya.out ?_; intro W3 k3 o3 s3; replace k3 := hide k3; replace o3 := hide (only_new o3); clear s3)
  go_frame
  go_loopw [] (fun wr => wr = W3) (fun _ => 0)
  case atStart => rfl
  case round =>
    subst hrel
    have hR3 := hR1.out.only o3.out (fun h => h)
    obtain ⟨-, -, c2, c3, c4⟩ := hR3.cells
    have k13 := hide (o3.out.blk k1.out (fun h => h))
    replace hR3 := hide hR3
    go_wp2_with (first
      | (go_at_call 54; refine (is_fol wr r s _ rest hR3.out hf.out (by decide)).mono ?_; rintro e w2 ⟨rfl, rfl⟩)
      | (refine wpList_load_row rfl _ _ rfl W1.heap.size rfl 41 y.toArray (0, 0) _ k3.out Tryz.underlying41 rfl (by rw [hys.out]; exact q_size) ?_)
      | (refine wpList_store_blk rfl _ _ _ rfl w.heap.size y.toArray rfl rfl 41 _ k13.out (by rw [hys.out]; exact q_size) (by rw [hys.out]; rfl) hya.out ?_; intro W5 k5 o5 s5; replace k5 := hide k5; replace o5 := hide o5; clear s5))
    (try simp only [Exit.inBlock, Exit.then])
    refine ret_q Tryz.results129 w.heap.size y.toArray rfl rfl k5.out hys.out ⟨y, rfl, ?_, ?_, ?_⟩
    · have l3 := o3.out.size
      have l5 := o5.out.size
      have e0 := s0.out
      exact (hy.out.only o3.out (fun _ _ _ h => h) (fun b _ h => h)).only o5.out (fun b h1 h2 => by omega) (fun b _ h => by omega)
    · exact hR3.out.only o5.out (by omega)
    · exact ((o0.out.trans o1.out).trans o3.out.no).back o5.out (fun b h => Or.inr (by omega))

set_option maxHeartbeats 2000000 in
set_option maxRecDepth 100000 in
theorem bound_any {r : Nat} {s : ByteArray} {rest : List UInt8} {y : List Value} (w : World) (hs : s.size ≤ 1000000) (hf : Fol rest) (hR : Ready w r s rest) (hys : y.toArray.size = 12) (hya : y.toArray.all (·.oneCell') = true) :
    Calls Tryz.prog 128 #[.pointer (some ⟨r, 0, none⟩), .agg y.toArray] w fun e w' => e = .returned (.agg y.toArray) ∧ Only (fun _ => False) w w' := by
  have hrw := hR.lt
  replace hf := hide hf
  replace hys := hide hys
  replace hya := hide hya
  go_enter Tryz.func128, Tryz.ntmps128
  obtain ⟨W2, hW2⟩ : ∃ W2, W2 = (w.alloc (.cells y.toArray 41)).alloc (.cells zC 41) := ⟨_, rfl⟩
  have o2 : Only (fun _ => False) w W2 := by rw [hW2]; exact ((Only.refl _ w).alloc _).alloc _
  have k2 : Blk W2 w.heap.size 41 y.toArray := by rw [hW2]; exact (Blk.new w _ _).alloc _
  have g2 : Blk W2 (w.heap.size + 1) 41 zC := by rw [hW2]; exact Blk.new2 w _ _ _
  have hR2 := hR.only o2 (fun h => h)
  replace o2 := hide o2
  replace k2 := hide k2
  replace g2 := hide g2
  replace hR2 := hide hR2
  clear hR
  unfold zC at hW2
  go_wp2_with fail
  rw [← hW2]
  clear hW2
  refine (is_fol W2 r s _ rest hR2.out hf.out (by decide)).mono ?_
  rintro e W3 ⟨rfl, rfl⟩
  go_wp2_with (first
    | (refine wpList_load_row rfl _ _ rfl w.heap.size rfl 41 y.toArray (0, 0) _ k2.out Tryz.underlying41 rfl (by rw [hys.out]; exact q_size) ?_)
    | (refine wpList_store_blk rfl _ _ _ rfl (w.heap.size + 1) y.toArray rfl rfl 41 _ g2.out (by rw [hys.out]; exact q_size) (by rw [hys.out]; rfl) hya.out ?_; intro W5 k5 o5 s5; replace k5 := hide k5; replace o5 := hide o5; clear s5))
  (try simp only [Exit.inBlock, Exit.then])
  refine ret_q Tryz.results128 (w.heap.size + 1) y.toArray rfl rfl k5.out hys.out ⟨rfl, ?_⟩
  have h2 := o2.out
  have h5 := o5.out
  exact ⟨h5.os.trans h2.os, h5.tape.trans h2.tape, h5.output.trans h2.output, Nat.le_trans h2.size h5.size, fun b hb _ => (h5.block b (Nat.lt_of_lt_of_le hb h2.size) (by omega)).trans (h2.block b hb (fun h => h))⟩

set_option maxHeartbeats 2000000 in
set_option maxRecDepth 100000 in
theorem unary_step {r : Nat} {s : ByteArray} {l rest : List UInt8} {q : QV} (hs : s.size ≤ 1000000) (hf : Fol rest) (hn : (nxK l = kEnd ∨ nxK l = kStr ∨ nxK l = kNum) ∨ nxT l ≠ ⟨#[45]⟩) (h : FnSays 129 r s l rest q) : FnSays 109 r s l rest q := by
  intro w hR
  have hrw := hR.lt
  replace h := hide h
  obtain ⟨W0, hW0⟩ : ∃ W0, W0 = w.alloc (.cells zC 41) := ⟨_, rfl⟩
  have o0 : Only (· = r) w W0 := by rw [hW0]; exact (Only.refl _ w).alloc _
  have k0 : Blk W0 w.heap.size 41 zC := by rw [hW0]; exact Blk.new w _ _
  have s0 : W0.heap.size = w.heap.size + 1 := by rw [hW0]; simp
  have hR0 : Ready W0 r s l := by rw [hW0]; exact hR.only ((Only.refl (fun _ => False) w).alloc _) (fun h => h)
  replace o0 := hide o0
  replace s0 := hide s0
  replace hR0 := hide hR0
  replace k0 := hide k0
  clear hR
  unfold zC at hW0
  replace hf := hide hf
  replace hn := hide hn
  go_enter Tryz.func109, Tryz.ntmps109
  go_wp2_with fail
  rw [← hW0]
  clear hW0
  refine (is_not W0 r s _ l hR0.out hn.out).mono ?_
  rintro e W1 ⟨rfl, rfl⟩
  go_wp2_with fail
  refine (h.out W0 hR0.out).mono ?_
  rintro e W1 ⟨y, rfl, hy, hR1, o1⟩
  have hlt1 := o1.size
  have hys := hy.sz
  have hya := hy.all
  have hbd := hide (bound_any W1 hs hf.out hR1 hys hya)
  have k1 := o1.blk k0.out (by omega)
  replace hys := hide hys
  replace hya := hide hya
  go_wp2_with (first
    | (go_at_call 128; refine hbd.out.mono ?_; rintro e W2 ⟨rfl, o2⟩; have k2 := hide (o2.blk k1 (fun h => h)); replace o2 := hide o2)
    | (refine wpList_store_blk rfl _ _ _ rfl w.heap.size y.toArray rfl rfl 41 _ k2.out (by rw [hys.out]; exact q_size) (by rw [hys.out]; rfl) hya.out ?_; intro W5 k5 o5 s5; replace k5 := hide k5; replace o5 := hide o5; clear s5))
  (try simp only [Exit.inBlock, Exit.then])
  refine ret_q Tryz.results109 w.heap.size y.toArray rfl rfl k5.out hys.out ⟨y, rfl, ?_, ?_, ?_⟩
  · have l2 := o2.out.size
    have e0 := s0.out
    exact (hy.only o2.out (fun _ _ _ h => h) (fun b _ h => h)).only o5.out (fun b h1 h2 => by omega) (fun b _ h => by omega)
  · exact (hR1.only o2.out (fun h => h)).only o5.out (by omega)
  · exact ((o0.out.trans o1).trans o2.out.no).back o5.out (fun b h => Or.inr (by omega))

set_option maxHeartbeats 2000000 in
set_option maxRecDepth 100000 in
theorem unary_neg {r : Nat} {s : ByteArray} {l rest : List UInt8} {q : QV} (hs : s.size ≤ 1000000) (hok : OkTok l) (h : FnSays 109 r s l rest q) : FnSays 109 r s (45 :: l) rest (ofQ opNeg [q]) := by
  intro w hR
  have hrw := hR.lt
  replace h := hide h
  obtain ⟨W0, hW0⟩ : ∃ W0, W0 = w.alloc (.cells zC 41) := ⟨_, rfl⟩
  have o0 : Only (· = r) w W0 := by rw [hW0]; exact (Only.refl _ w).alloc _
  have k0 : Blk W0 w.heap.size 41 zC := by rw [hW0]; exact Blk.new w _ _
  have s0 : W0.heap.size = w.heap.size + 1 := by rw [hW0]; simp
  have hR0 : Ready W0 r s (45 :: l) := by rw [hW0]; exact hR.only ((Only.refl (fun _ => False) w).alloc _) (fun h => h)
  replace o0 := hide o0
  replace s0 := hide s0
  replace hR0 := hide hR0
  replace k0 := hide k0
  clear hR
  unfold zC at hW0
  go_enter Tryz.func109, Tryz.ntmps109
  go_wp2_with fail
  rw [← hW0]
  clear hW0
  refine (is_this W0 r s 45 l hR0.out (by unfold opc; simp) hs hok).mono ?_
  rintro e W1 ⟨rfl, hR1, o1⟩
  go_wp2_with fail
  refine (h.out W1 hR1).mono ?_
  rintro e W2 ⟨y, rfl, hy, hR2, o2⟩
  have hlt1 := o1.size
  have hlt2 := o2.size
  have hys := hy.sz
  have hya := hy.all
  have k1 := hide ((o1.trans o2).blk k0.out (by omega))
  replace hys := hide hys
  replace hya := hide hya
  have hq1 := hide hy
  clear hy
  go_wp2_with (first
    | (refine wpList_bs1 rfl _ rfl y rfl hys.out ?_; intro W3 k3 o3 s3; have ho2 := hide o2; clear o2; have hk1 := hide (o3.blk k1.out (fun h => h)); replace k3 := hide k3; replace o3 := hide o3; replace s3 := hide s3)
    | (go_at_call 33; refine (of_any W3 opNeg _ 1 1).mono ?_; rintro e W4 ⟨rfl, b4⟩; have k4 := hide (hk1.out.below b4 (by have := hk1.out.lt; omega)); replace b4 := hide b4)
    | (refine wpList_store_blk rfl _ _ _ rfl w.heap.size (ofC opNeg (some ⟨W2.heap.size, 0, none⟩) 1 1).toArray rfl rfl 41 _ k4.out q_size rfl (by simp [ofC, Value.oneCell']) ?_; intro W5 k5 o5 s5; replace k5 := hide k5; replace o5 := hide o5; clear s5))
  (try simp only [Exit.inBlock, Exit.then])
  refine ret_q Tryz.results109 w.heap.size (ofC opNeg (some ⟨W2.heap.size, 0, none⟩) 1 1).toArray rfl rfl k5.out rfl ⟨_, rfl, ?_, ?_, ?_⟩
  · have e0 := s0.out
    have e3 := s3.out
    have o4 : Only (fun _ => False) W3 W4 := Only.of_below b4.out (fun k hk _ => hk)
    have h5 : VecQ W5 (w.heap.size ≤ ·) (some ⟨W2.heap.size, 0, none⟩) [q] := by
      have l4 := o4.size
      have h3 := (QRow.one (hq1.out.only o3.out (fun _ _ _ h => h) (fun b _ (h : W1.heap.size ≤ b) => (show W1.heap.size ≤ b from h)))).blk (P := (W1.heap.size ≤ ·)) k3.out hlt2
      exact (h3.only o4 (fun _ _ _ h => h) (fun b _ h => h)).only o5.out (fun b (h1 : W1.heap.size ≤ b) h2 => by omega) (fun b _ (h : W1.heap.size ≤ b) => by omega)
    exact QAt.of rfl (by decide) (by decide) (by decide) h5
  · have o4 : Only (fun _ => False) W3 W4 := Only.of_below b4.out (fun k hk _ => hk)
    exact ((hR2.only o3.out (fun h => h)).only o4 (fun h => h)).only o5.out (by omega)
  · have o4 : Only (fun _ => False) W3 W4 := Only.of_below b4.out (fun k hk _ => hk)
    exact ((((o0.out.trans o1).trans ho2.out).trans o3.out.no).trans o4.no).back o5.out (fun b h => Or.inr (by omega))

/-- A level of the reader reads a query. -/
def LvSays (n : Nat) (r : Nat) (s : ByteArray) (l rest : List UInt8) (q : QV) : Prop := ∀ W, Ready W r s l → Calls Tryz.prog 94 #[.pointer (some ⟨r, 0, none⟩), .int .i64 (n : Int)] W (Yields W r s rest q)

set_option maxHeartbeats 2000000 in
set_option maxRecDepth 100000 in
theorem alt_step {r : Nat} {s : ByteArray} {l rest : List UInt8} {q : QV} (hs : s.size ≤ 1000000) (hf : Fol rest) (h : LvSays 0 r s l rest q) : FnSays 75 r s l rest q := by
  intro w hR
  have hrw := hR.lt
  replace h := hide h
  obtain ⟨W0, hW0⟩ : ∃ W0, W0 = w.alloc (.cells zC 41) := ⟨_, rfl⟩
  have o0 : Only (· = r) w W0 := by rw [hW0]; exact (Only.refl _ w).alloc _
  have k0 : Blk W0 w.heap.size 41 zC := by rw [hW0]; exact Blk.new w _ _
  have s0 : W0.heap.size = w.heap.size + 1 := by rw [hW0]; simp
  have hR0 : Ready W0 r s l := by rw [hW0]; exact hR.only ((Only.refl (fun _ => False) w).alloc _) (fun h => h)
  replace o0 := hide o0
  replace s0 := hide s0
  replace hR0 := hide hR0
  replace k0 := hide k0
  clear hR
  unfold zC at hW0
  replace hf := hide hf
  go_enter Tryz.func75, Tryz.ntmps75
  go_wp2_with fail
  rw [← hW0]
  clear hW0
  refine (h.out W0 hR0.out).mono ?_
  rintro e W1 ⟨y, rfl, hy, hR1, o1⟩
  have k1 := hide (o1.blk k0.out (by omega))
  have hlt1 := o1.size
  have hys := hy.sz
  have hya := hy.all
  replace hys := hide hys
  replace hya := hide hya
  replace hy := hide hy
  replace hR1 := hide hR1
  replace o1 := hide o1
  go_wp2_with (first
    | (go_at_call 54; refine (is_fol W3 r s _ rest (hR1.out.only o3.out (fun h => h)) hf.out (by decide)).mono ?_; rintro e w2 ⟨rfl, rfl⟩; have k13 := hide (o3.out.blk k1.out (fun h => h)))
    | (refine wpList_load_row rfl _ _ rfl W1.heap.size rfl 41 y.toArray (0, 0) _ k3.out Tryz.underlying41 rfl (by rw [hys.out]; exact q_size) ?_)
    | (refine wpList_store_blk rfl _ _ _ rfl W1.heap.size y.toArray rfl rfl 41 _ (Blk.new W1 _ _) (by rw [hys.out]; exact q_size) (by rw [hys.out]; rfl) hya.out ?_; intro W3 k3 o3 s3; replace k3 := hide k3; replace o3 := hide (only_new o3); clear s3)
    | (refine wpList_store_blk rfl _ _ _ rfl w.heap.size y.toArray rfl rfl 41 _ k13.out (by rw [hys.out]; exact q_size) (by rw [hys.out]; rfl) hya.out ?_; intro W5 k5 o5 s5; replace k5 := hide k5; replace o5 := hide o5; clear s5))
  (try simp only [Exit.inBlock, Exit.then])
  refine ret_q Tryz.results75 w.heap.size y.toArray rfl rfl k5.out hys.out ⟨y, rfl, ?_, ?_, ?_⟩
  · have l3 := o3.out.size
    have l5 := o5.out.size
    have e0 := s0.out
    exact (hy.out.only o3.out (fun _ _ _ h => h) (fun b _ h => h)).only o5.out (fun b h1 h2 => by omega) (fun b _ h => by omega)
  · exact (hR1.out.only o3.out (fun h => h)).only o5.out (by omega)
  · exact ((o0.out.trans o1.out).trans o3.out.no).back o5.out (fun b h => Or.inr (by omega))

set_option maxHeartbeats 2000000 in
set_option maxRecDepth 100000 in
theorem level_top {r : Nat} {s : ByteArray} {l rest : List UInt8} {q : QV} (h : FnSays 109 r s l rest q) : LvSays 6 r s l rest q := by
  intro w hR
  have hrw := hR.lt
  replace h := hide h
  obtain ⟨W0, hW0⟩ : ∃ W0, W0 = w.alloc (.cells zC 41) := ⟨_, rfl⟩
  have o0 : Only (· = r) w W0 := by rw [hW0]; exact (Only.refl _ w).alloc _
  have k0 : Blk W0 w.heap.size 41 zC := by rw [hW0]; exact Blk.new w _ _
  have s0 : W0.heap.size = w.heap.size + 1 := by rw [hW0]; simp
  have hR0 : Ready W0 r s l := by rw [hW0]; exact hR.only ((Only.refl (fun _ => False) w).alloc _) (fun h => h)
  replace o0 := hide o0
  replace s0 := hide s0
  replace hR0 := hide hR0
  replace k0 := hide k0
  clear hR
  unfold zC at hW0
  go_enter Tryz.func94, Tryz.ntmps94
  go_wp2_with fail
  rw [← hW0]
  clear hW0
  refine (h.out W0 hR0.out).mono ?_
  rintro e W1 ⟨y, rfl, hy, hR1, o1⟩
  have k1 := hide (o1.blk k0.out (by omega))
  have hlt1 := o1.size
  have hys := hy.sz
  have hya := hy.all
  replace hys := hide hys
  replace hya := hide hya
  replace hy := hide hy
  replace hR1 := hide hR1
  replace o1 := hide o1
  go_wp2_with (refine wpList_store_blk rfl _ _ _ rfl w.heap.size y.toArray rfl rfl 41 _ k1.out (by rw [hys.out]; exact q_size) (by rw [hys.out]; rfl) hya.out ?_; intro W5 k5 o5 s5; replace k5 := hide k5; replace o5 := hide o5; clear s5)
  (try simp only [Exit.inBlock, Exit.then])
  refine ret_q Tryz.results94 w.heap.size y.toArray rfl rfl k5.out hys.out ⟨y, rfl, ?_, ?_, ?_⟩
  · have l5 := o5.out.size
    have e0 := s0.out
    exact hy.out.only o5.out (fun b h1 h2 => by omega) (fun b _ h => by omega)
  · exact hR1.out.only o5.out (by omega)
  · exact (o0.out.trans o1.out).back o5.out (fun b h => Or.inr (by omega))
end Go.Proofs.YtbnbemacljjimaaGreatDoor
