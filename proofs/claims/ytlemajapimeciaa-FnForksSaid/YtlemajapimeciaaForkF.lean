/- The machine's forks in memory: what a fork keeps. -/
import Derived.Test.YtlemajapimeciaaForkE
namespace Go.Proofs.Ytlemajapimeciaa
open Go.RowKit
set_option linter.unusedVariables false

theorem dbg_any (w : World) (a b d : Value) : Calls Try.prog 34 #[a, b, d] w fun e w' => e = .returned (.tuple #[]) ∧ w = w' := by
  go_enter Try.func34, Try.ntmps34
  go_wp2
  go_end0
  exact ⟨rfl, rfl⟩

theorem Try.info81 : (Try.prog.info? 81).map (fun i => (i.zero, i.size, i.bytes)) = some (some (.agg #[.int .i64 0, .int .i64 0, .int .i64 0, .int .i64 0, .int .i64 0, .int .i64 0, .int .i64 0, .int .i64 0, .int .i64 0]), 9, 72) := by kernel_rfl

def fbox (a b c d e f g : Int) : Array Value := #[.int .i64 a, .int .i64 b, .int .i64 c, .int .i64 d, .int .i64 e, .int .i64 f, .int .i64 g, .int .i64 0, .int .i64 0]

def MP (eb s p c : Nat) (v1 v2 v3 : Value) (k : Nat) : Prop := k = eb ∨ k = s ∨ k = p ∨ k = c ∨ v1.ownBlock = some k ∨ v2.ownBlock = some k ∨ v3.ownBlock = some k

section
variable {w w' : World} {B eb s p c : Nat} {v1 v2 v3 : Value} {M : Mach}
theorem row_type {B e sz n : Nat} {v : Value} {xs : List Value} (ho : w.ownsRow B e sz v n xs) {k t : Nat} {cs : Array Value} (hk : v.ownBlock = some k) (hb : Blk w k t cs) : t = e := by
  rcases Nat.decEq t e with hne | he
  · exact absurd hk (own_blk_ne ho hb (Ne.symm hne))
  · exact he
theorem MachAt.mp_type (h : MachAt w B eb s p c v1 v2 v3 M) {k t : Nat} {cs : Array Value} (hk : MP eb s p c v1 v2 v3 k) (hb : Blk w k t cs) : t = 57 ∨ t = 77 ∨ t = 72 ∨ t = 79 ∨ t = 81 := by
  rcases hk with rfl | rfl | rfl | rfl | hk | hk | hk
  · exact Or.inl (Decidable.byContradiction fun hn => Blk.ne_ hb h.env hn rfl)
  · exact Or.inr (Or.inl (Decidable.byContradiction fun hn => Blk.ne_ hb h.st.blk hn rfl))
  · exact Or.inr (Or.inl (Decidable.byContradiction fun hn => Blk.ne_ hb h.pa.blk hn rfl))
  · exact Or.inr (Or.inr (Or.inl (Decidable.byContradiction fun hn => Blk.ne_ hb h.sc hn rfl)))
  · exact Or.inr (Or.inr (Or.inr (Or.inl (row_type h.st.own hk hb))))
  · exact Or.inr (Or.inr (Or.inr (Or.inl (row_type h.pa.own hk hb))))
  · exact Or.inr (Or.inr (Or.inr (Or.inr (row_type h.fk hk hb))))
theorem MachAt.mp_lt (h : MachAt w B eb s p c v1 v2 v3 M) {k : Nat} (hk : MP eb s p c v1 v2 v3 k) : B ≤ k ∧ k < w.heap.size := by
  obtain ⟨l1, l2, l3, l4⟩ := h.lo
  rcases hk with rfl | rfl | rfl | rfl | hk | hk | hk
  · exact ⟨l1, h.env.lt⟩
  · exact ⟨l2, h.st.blk.lt⟩
  · exact ⟨l3, h.pa.blk.lt⟩
  · exact ⟨l4, h.sc.lt⟩
  · exact h.st.own.lt k hk
  · exact h.pa.own.lt k hk
  · exact h.fk.lt k hk
theorem MachAt.rest (h : MachAt w B eb s p c v1 v2 v3 M) (ho : Only (MP eb s p c v1 v2 v3) w w') : Rest B w w' :=
  ⟨ho.below (fun k hk => (h.mp_lt hk).1) h.hi, fun g t cs h1 h2 h3 h4 h5 hb => ho.blk hb fun hk => by
    rcases h.mp_type hk hb with e | e | e | e | e
    · exact h1 e
    · exact h3 e
    · exact h2 e
    · exact h4 e
    · exact h5 e⟩
/-- A store into a block that is none of the machine's. -/
theorem MachAt.setFar (h : MachAt w B eb s p c v1 v2 v3 M) {a : Addr} (hn : ¬ MP eb s p c v1 v2 v3 a.block) (u : Value) : MachAt (w.setCell a u) B eb s p c v1 v2 v3 M := by
  have ho : Only (fun k => k = a.block) w (w.setCell a u) := (Only.refl (fun k => k = a.block) w).setCell (p := a) (Or.inl rfl) u
  have e : ∀ k, MP eb s p c v1 v2 v3 k → ¬ (k = a.block) := fun k hk he => hn (he ▸ hk)
  exact ⟨ho.blk h.env (e _ (Or.inl rfl)), h.st.only ho (e _ (Or.inr (Or.inl rfl))) (fun k hk => e _ (Or.inr (Or.inr (Or.inr (Or.inr (Or.inl hk)))))),
    h.pa.only ho (e _ (Or.inr (Or.inr (Or.inl rfl)))) (fun k hk => e _ (Or.inr (Or.inr (Or.inr (Or.inr (Or.inr (Or.inl hk))))))), ho.blk h.sc (e _ (Or.inr (Or.inr (Or.inr (Or.inl rfl))))),
    ho.own h.fk (fun k hk => e _ (Or.inr (Or.inr (Or.inr (Or.inr (Or.inr (Or.inr hk))))))), h.ne, h.own, h.lo, Nat.le_trans h.hi ho.size⟩
theorem MachAt.grow (h : MachAt w B eb s p c v1 v2 v3 M) (ho : Only (fun _ => False) w w') : MachAt w' B eb s p c v1 v2 v3 M := h.only ho (fun _ _ _ h => h.elim)
/-- The block of the scopes is written with what it holds. -/
theorem MachAt.afterSc (h : MachAt w B eb s p c v1 v2 v3 M) (hb : Blk w' c 72 freshStack) (ho : Only (fun k => k = c) w w') : MachAt w' B eb s p c v1 v2 v3 M := by
  have e : ∀ (g : Nat) (t : TypeId) (cs : Array Value), t ≠ 72 → Blk w g t cs → ¬ (g = c) := fun g t cs ht hg => Blk.ne_ hg h.sc ht
  have row : ∀ {e sz n : Nat} {v : Value} {xs : List Value}, e ≠ 72 → w.ownsRow B e sz v n xs → ∀ k, v.ownBlock = some k → ¬ (k = c) := fun he ho k hk hkc => he (row_type ho hk (hkc ▸ h.sc)).symm
  exact ⟨ho.blk h.env (e _ _ _ (by decide) h.env), h.st.only ho (e _ _ _ (by decide) h.st.blk) (row (by decide) h.st.own), h.pa.only ho (e _ _ _ (by decide) h.pa.blk) (row (by decide) h.pa.own), hb, ho.own h.fk (row (by decide) h.fk), h.ne, h.own, h.lo, Nat.le_trans h.hi ho.size⟩
end

theorem MachAt.afterFk {w w' : World} {B eb s p c : Nat} {v1 v2 v3 v3' : Value} {M : Mach} {fk' : List Frk} (h : MachAt w B eb s p c v1 v2 v3 M) (hb : Blk w' eb 57 (envCells s p c v3')) (hown : w'.ownsRow B 81 9 v3' fk'.length (frksCells fk'))
    (ho : Only (fun k => k = eb ∨ v3.ownBlock = some k) w w') : MachAt w' B eb s p c v1 v2 v3' ⟨M.st, M.pa, fk'⟩ := by
  have e : ∀ (g : Nat) (t : TypeId) (cs : Array Value), t ≠ 57 → t ≠ 81 → Blk w g t cs → ¬ (g = eb ∨ v3.ownBlock = some g) := by
    rintro g t cs h1 h2 hg (rfl | hk)
    · exact Blk.ne_ hg h.env h1 rfl
    · exact h2 (row_type h.fk hk hg)
  have row : ∀ {n : Nat} {v : Value} {xs : List Value}, w.ownsRow B 79 2 v n xs → ∀ k, v.ownBlock = some k → ¬ (k = eb ∨ v3.ownBlock = some k) := by
    rintro n v xs hr k hk hkc
    rcases hr.2 with ⟨rfl, _⟩ | ⟨g, cap, cur, rfl, _, hh, _⟩
    · simp [Value.ownBlock] at hk
    · obtain rfl : g = k := by simpa [Value.ownBlock] using hk
      exact e g 79 cur (by decide) (by decide) hh hkc
  exact ⟨hb, h.st.only ho (e _ _ _ (by decide) (by decide) h.st.blk) (row h.st.own), h.pa.only ho (e _ _ _ (by decide) (by decide) h.pa.blk) (row h.pa.own), ho.blk h.sc (e _ _ _ (by decide) (by decide) h.sc), hown, h.ne, h.own, h.lo, Nat.le_trans h.hi ho.size⟩

theorem frksCells_cons (f : Frk) (l : List Frk) : frksCells (f :: l) = frksCells l ++ frkCells f := by simp [frksCells]

theorem fbox_set (x a b d e f g : Int) (k : Nat) (u : Int) {w : World} {n : Nat} (h : Blk w n 81 (fbox x a b d e f g)) {cs : Array Value} (hc : (fbox x a b d e f g).setIfInBounds k (.int .i64 u) = cs) : Blk (w.setCell ⟨n, k, none⟩ (.int .i64 u)) n 81 cs := hc ▸ h.set_ k _

theorem fork_end {w W3 w4 : World} {B eb s p c cap cap' : Nat} {v1 v2 : Value} {ao ao' : Option Addr} {M N : Mach} {f : Frk} {o : Obj} (h : MachAt w B eb s p c v1 v2 (.slice ao M.fk.length cap) M) (m3 : MachAt W3 B eb s p c v1 v2 (.slice ao M.fk.length cap) ⟨N.st, N.pa, M.fk⟩)
    (u3 : Only (MP eb s p c v1 v2 (.slice ao M.fk.length cap)) w W3) (hb1 : Blk w4 eb 57 (envCells s p c (.slice ao M.fk.length cap))) (hg : (W3.alloc o).drew.grownBy w4 (Value.slice ao M.fk.length cap).ownBlock)
    (hown' : w4.ownsRow B 81 9 (.slice ao' (M.fk.length + 1) cap') (M.fk.length + 1) (frksCells M.fk ++ frkCells f)) :
    (∃ v3', MachAt (w4.setCell ⟨eb, 7, none⟩ (.slice ao' (M.fk.length + 1) cap')) B eb s p c v1 v2 v3' ⟨N.st, N.pa, f :: M.fk⟩) ∧ Rest B w (w4.setCell ⟨eb, 7, none⟩ (.slice ao' (M.fk.length + 1) cap')) := by
  have o1 : Only (fun k => k = eb ∨ (Value.slice ao M.fk.length cap).ownBlock = some k) W3 w4 := (((Only.refl _ W3).alloc o).drew).grown hg (fun k hk => Or.inl (Or.inr hk))
  have o2 := o1.setCell (p := ⟨eb, 7, none⟩) (Or.inl (Or.inl rfl)) (.slice ao' (M.fk.length + 1) cap')
  refine ⟨⟨.slice ao' (M.fk.length + 1) cap', m3.afterFk (fk' := f :: M.fk) (hb1.set_ 7 _) ?_ o2⟩, h.rest (u3.trans (o2.mono ?_))⟩
  · rw [frksCells_cons, List.length_cons]
    exact ownsRow_setCell_other hown' (a := ⟨eb, 7, none⟩) (own_blk_ne hown' hb1 (by decide)) _
  · rintro k (rfl | hk)
    · exact Or.inl rfl
    · exact Or.inr (Or.inr (Or.inr (Or.inr (Or.inr (Or.inr hk)))))

theorem reads_new9 (w : World) (a b c d e f g h i : Value) (t : TypeId) : Reads (w.alloc (.cells #[a, b, c, d, e, f, g, h, i] t)) (w.heap.size + 1) 9 (some ⟨w.heap.size, 0, none⟩) 1 [a, b, c, d, e, f, g, h, i] := by
  refine ⟨rfl, fun _ => ⟨_, rfl, by simp, fun j u hu => ?_⟩⟩
  have hb := Blk.new w t #[a, b, c, d, e, f, g, h, i]
  have : (⟨w.heap.size, 0, none⟩ : Addr).add j = ⟨w.heap.size, j, none⟩ := by unfold Addr.add; split <;> simp_all
  rw [this, hb.cell, ← hu]; simp

set_option maxHeartbeats 2000000 in
theorem pushfork_any (w : World) (B eb s p c : Nat) (v1 v2 v3 : Value) (M : Mach) (x : Int) (h : MachAt w B eb s p c v1 v2 v3 M) (hl : M.fk.length ≤ 2000) :
    Calls Try.prog 28 #[.pointer (some ⟨eb, 0, none⟩), .int .i64 x] w fun e w' => e = .returned (.tuple #[]) ∧
      (∃ v3', MachAt w' B eb s p c v1 v2 v3' ⟨M.st.save, M.pa.save, ⟨x, M.st.index, M.st.limit, M.pa.index, M.pa.limit⟩ :: M.fk⟩) ∧ Rest B w w' := by
  have c9 := h.env.cell 9
  have c10 := h.env.cell 10
  simp [envCells] at c9 c10
  have hel := h.env.lt
  have hnf : ¬ MP eb s p c v1 v2 v3 w.heap.size := fun hk => Nat.lt_irrefl _ (h.mp_lt hk).2
  have NF := Lib.hid hnf
  have H := hide h
  clear h hnf
  go_enter Try.func28, Try.ntmps28
  go_wp2
  go_region
  obtain ⟨W0, hW0⟩ : ∃ W0, W0 = (w.alloc (.cells #[.int .i64 x, .int .i64 0, .int .i64 0, .int .i64 0, .int .i64 0, .int .i64 0, .int .i64 0, .int .i64 0, .int .i64 0] 81)).drew := ⟨_, rfl⟩
  rw [← hW0]
  have o0 : Only (fun _ => False) w W0 := by rw [hW0]; exact ((Only.refl _ w).alloc _).drew
  have M0 := hide ((unhide H).grow o0)
  have b0 : Blk W0 w.heap.size 81 (fbox x 0 0 0 0 0 0) := by rw [hW0]; exact (Blk.new _ _ _).drew
  have B0 := hide b0
  have U0 := hide (o0.mono (Q := MP eb s p c v1 v2 v3) (fun _ h => h.elim))
  have e1 : W0.cell? ⟨eb, 1, none⟩ = some (.pointer (some ⟨s, 0, none⟩)) := by have := (unhide M0).env.cell 1; simpa [envCells] using this
  clear hW0 o0 b0 c9 c10
  go_wp2_with fail
  -- the first save
  refine (stkSave_any _ B s v1 M.st (unhide M0).st).mono ?_
  rintro e w1 ⟨rfl, hs1, ho1⟩
  have m1 := ((unhide M0).afterSt hs1 (Or.inl rfl) (ho1.mono fun k hk => Or.inl hk)).1
  have b1 := ho1.blk (unhide B0) (Blk.ne_ (unhide B0) (unhide M0).st.blk (by decide))
  have u1 := (unhide U0).trans (ho1.mono fun k hk => Or.inr (Or.inl hk))
  have k1 := b1.cell 1
  have k2 := b1.cell 2
  have f1 := b1.frozen 1
  have f2 := b1.frozen 2
  have e3 := m1.env.cell 3
  simp [fbox] at k1 k2
  simp [envCells] at e3
  have M1 := hide m1
  have B1 := hide b1
  have U1 := hide u1
  clear m1 b1 u1 hs1 ho1 e1 M0 B0 U0
  go_wp2_with fail
  obtain ⟨W1, hW1⟩ : ∃ W1, W1 = (w1.setCell ⟨w.heap.size, 1, none⟩ (.int .i64 M.st.index)).setCell ⟨w.heap.size, 2, none⟩ (.int .i64 M.st.limit) := ⟨_, rfl⟩
  rw [← hW1]
  have m1 : MachAt W1 B eb s p c v1 v2 v3 ⟨M.st.save, M.pa, M.fk⟩ := by rw [hW1]; exact ((unhide M1).setFar NF.out _).setFar NF.out _
  have b1 : Blk W1 w.heap.size 81 (fbox x M.st.index M.st.limit 0 0 0 0) := by rw [hW1]; exact fbox_set _ _ _ _ _ _ _ 2 _ (fbox_set _ _ _ _ _ _ _ 1 _ (unhide B1) rfl) rfl
  have u1 : Only (MP eb s p c v1 v2 v3) w W1 := by rw [hW1]; exact ((unhide U1).setCell (p := ⟨w.heap.size, 1, none⟩) (Or.inr (Nat.le_refl _)) _).setCell (p := ⟨w.heap.size, 2, none⟩) (Or.inr (Nat.le_refl _)) _
  clear hW1 M1 B1 U1 e3 k1 k2 f1 f2
  -- the scopes' save
  refine (scSave_any _ c m1.sc).mono ?_
  rintro e w2 ⟨rfl, nd, hd⟩
  have o2 : Only (fun _ => False) W1 w2 := by rw [← hd]; exact ⟨rfl, rfl, rfl, Nat.le_refl _, fun _ _ _ => rfl⟩
  have m2 := m1.grow o2
  have b2 : Blk w2 w.heap.size 81 (fbox x M.st.index M.st.limit 0 0 0 0) := o2.blk b1 (fun h => h)
  have u2 := u1.trans (o2.mono fun _ h => h.elim)
  have k3 := b2.cell 3
  have k4 := b2.cell 4
  have f3 := b2.frozen 3
  have f4 := b2.frozen 4
  have e2 := m2.env.cell 2
  simp [fbox] at k3 k4
  simp [envCells] at e2
  have M2 := hide m2
  have B2 := hide b2
  have U2 := hide u2
  clear m1 b1 u1 m2 b2 u2 o2 hd
  go_wp2_with fail
  obtain ⟨W2, hW2⟩ : ∃ W2, W2 = (w2.setCell ⟨w.heap.size, 3, none⟩ (.int .i64 (-1))).setCell ⟨w.heap.size, 4, none⟩ (.int .i64 (-1)) := ⟨_, rfl⟩
  rw [← hW2]
  have m2 : MachAt W2 B eb s p c v1 v2 v3 ⟨M.st.save, M.pa, M.fk⟩ := by rw [hW2]; exact ((unhide M2).setFar NF.out _).setFar NF.out _
  have b2 : Blk W2 w.heap.size 81 (fbox x M.st.index M.st.limit (-1) (-1) 0 0) := by rw [hW2]; exact fbox_set _ _ _ _ _ _ _ 4 _ (fbox_set _ _ _ _ _ _ _ 3 _ (unhide B2) rfl) rfl
  have u2 : Only (MP eb s p c v1 v2 v3) w W2 := by rw [hW2]; exact ((unhide U2).setCell (p := ⟨w.heap.size, 3, none⟩) (Or.inr (Nat.le_refl _)) _).setCell (p := ⟨w.heap.size, 4, none⟩) (Or.inr (Nat.le_refl _)) _
  clear hW2 M2 B2 U2 e2 k3 k4 f3 f4
  -- the other stack's save
  refine (stkSave_any _ B p v2 M.pa m2.pa).mono ?_
  rintro e w3 ⟨rfl, hs3, ho3⟩
  have m3 := (m2.afterPa hs3 (Or.inl rfl) (ho3.mono fun k hk => Or.inl hk)).1
  have b3 := ho3.blk b2 (Blk.ne_ b2 m2.pa.blk (by decide))
  have u3 := u2.trans (ho3.mono fun k hk => Or.inr (Or.inr (Or.inl hk)))
  have k5 := b3.cell 5
  have k6 := b3.cell 6
  have f5 := b3.frozen 5
  have f6 := b3.frozen 6
  simp [fbox] at k5 k6
  have M3 := hide m3
  have B3 := hide b3
  have U3 := hide u3
  clear m2 b2 u2 m3 b3 u3 hs3 ho3
  go_wp2_with fail
  obtain ⟨W3, hW3⟩ : ∃ W3, W3 = (w3.setCell ⟨w.heap.size, 5, none⟩ (.int .i64 M.pa.index)).setCell ⟨w.heap.size, 6, none⟩ (.int .i64 M.pa.limit) := ⟨_, rfl⟩
  rw [← hW3]
  have m3 : MachAt W3 B eb s p c v1 v2 v3 ⟨M.st.save, M.pa.save, M.fk⟩ := by rw [hW3]; exact ((unhide M3).setFar NF.out _).setFar NF.out _
  have b3 : Blk W3 w.heap.size 81 (fbox x M.st.index M.st.limit (-1) (-1) M.pa.index M.pa.limit) := by rw [hW3]; exact fbox_set _ _ _ _ _ _ _ 6 _ (fbox_set _ _ _ _ _ _ _ 5 _ (unhide B3) rfl) rfl
  have u3 : Only (MP eb s p c v1 v2 v3) w W3 := by rw [hW3]; exact ((unhide U3).setCell (p := ⟨w.heap.size, 5, none⟩) (Or.inr (Nat.le_refl _)) _).setCell (p := ⟨w.heap.size, 6, none⟩) (Or.inr (Nat.le_refl _)) _
  clear hW3 M3 B3 U3 k5 k6 f5 f6
  -- the append
  obtain ⟨i0, hi0, hz0, hz1, hz2⟩ := info_parts Try.info81
  obtain ⟨ao, cap, rfl⟩ := own_slice m3.fk
  have c0 := b3.cell 0
  have c1 := b3.cell 1
  have c2 := b3.cell 2
  have c3 := b3.cell 3
  have c4 := b3.cell 4
  have c5 := b3.cell 5
  have c6 := b3.cell 6
  have c7 := b3.cell 7
  have c8 := b3.cell 8
  simp [fbox] at c0 c1 c2 c3 c4 c5 c6 c7 c8
  have e7 := m3.env.cell 7
  simp [envCells] at e7
  have he3 := m3.env.lt
  have hb3 := b3.lt
  have hlo := m3.hi
  have hn0 : (Value.slice ao M.fk.length cap).ownBlock ≠ some eb := own_blk_ne m3.fk m3.env (by decide)
  have hw0 : Hid (∀ o, Blk (W3.alloc o).drew eb 57 (envCells s p c (.slice ao M.fk.length cap))) := fun o => (m3.env.alloc o).drew
  have ho0 : Hid (∀ o, (W3.alloc o).drew.ownsRow B 81 9 (.slice ao M.fk.length cap) M.fk.length (frksCells M.fk)) := fun o => m3.fk.alloc o
  have hr0 : Hid (Reads (W3.alloc (.cells #[.int .i64 x, .int .i64 M.st.index, .int .i64 M.st.limit, .int .i64 (-1), .int .i64 (-1), .int .i64 M.pa.index, .int .i64 M.pa.limit, .int .i64 0, .int .i64 0] 81)).drew (W3.heap.size + 1) 9 (some ⟨W3.heap.size, 0, none⟩) 1 [.int .i64 x, .int .i64 M.st.index, .int .i64 M.st.limit, .int .i64 (-1), .int .i64 (-1), .int .i64 M.pa.index, .int .i64 M.pa.limit, .int .i64 0, .int .i64 0]) := reads_new9 W3 _ _ _ _ _ _ _ _ _ _
  have hs0 : Hid (∀ o, B ≤ (W3.alloc o).drew.heap.size) := fun o => by simp; omega
  have q1 : Hid (M.fk.length + 1 ≤ maxLen) := by unfold maxLen; show _ ≤ _; omega
  have q2 : Hid ((M.fk.length + 1) * 72 ≤ 140737488355328) := by show _ ≤ _; omega
  have q3 : ∀ u ∈ [Value.int .i64 x, .int .i64 M.st.index, .int .i64 M.st.limit, .int .i64 (-1), .int .i64 (-1), .int .i64 M.pa.index, .int .i64 M.pa.limit, .int .i64 0, .int .i64 0], u.oneCell' = true := by simp [Value.oneCell']
  have Q3 := Lib.hid q3
  have M3 := hide m3
  have U3 := hide u3
  clear q3 m3 u3 b3
  go_region_law (refine step_append_any _ rfl (.tmp 49) (.tmp 51) 54 rfl B 81 i0 _ 9 72 Try.underlying54 hi0 hz0 hz1 hz2 rfl (Nat.zero_lt_succ _) (.slice ao M.fk.length cap) M.fk.length (frksCells M.fk) rfl (ho0.out _) (W3.heap.size + 1) (some ⟨W3.heap.size, 0, none⟩) 1 1 [.int .i64 x, .int .i64 M.st.index, .int .i64 M.st.limit, .int .i64 (-1), .int .i64 (-1), .int .i64 M.pa.index, .int .i64 M.pa.limit, .int .i64 0, .int .i64 0] rfl hr0.out Q3.out q1.out q2.out (hs0.out _) ?_; intro v' w4 hown' hg hno; obtain ⟨ao', cap', rfl⟩ := own_slice hown'; have hb1 := Blk.grown (hw0.out _) hg (Ne.symm hn0); have k0 := hb1.cell 7; have f0' := hb1.frozen 7; simp [envCells] at k0)
  all_goals
    go_wp2_with (go_at_call 34; refine (dbg_any _ _ _ _).mono ?_; rintro e w5 ⟨rfl, rfl⟩)
    go_end0
    exact ⟨rfl, fork_end (N := ⟨M.st.save, M.pa.save, []⟩) (f := ⟨x, M.st.index, M.st.limit, M.pa.index, M.pa.limit⟩) (unhide H) (unhide M3) (unhide U3) hb1 hg hown'⟩
end Go.Proofs.Ytlemajapimeciaa
