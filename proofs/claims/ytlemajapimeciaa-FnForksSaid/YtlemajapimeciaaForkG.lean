/- The machine's forks in memory: the way back to the newest fork. -/
import Derived.Test.YtlemajapimeciaaForkF
import Derived.StillTailTactics
namespace Go.Proofs.Ytlemajapimeciaa
open Go.RowKit
set_option linter.unusedVariables false

theorem frksCells_length : ∀ l : List Frk, (frksCells l).length = 9 * l.length
  | [] => rfl
  | f :: r => by rw [frksCells_cons, List.length_append, frksCells_length r]; simp [frkCells]; omega

set_option maxHeartbeats 2000000 in
theorem popfork_any (w : World) (B eb s p c : Nat) (v1 v2 v3 : Value) (st pa : Stk) (f : Frk) (r : List Frk) (h : MachAt w B eb s p c v1 v2 v3 ⟨st, pa, f :: r⟩) (hl : r.length ≤ 2000) :
    Calls Try.prog 29 #[.pointer (some ⟨eb, 0, none⟩)] w fun e w' => e = .returned (.int .i64 f.pc) ∧
      (∃ v3', MachAt w' B eb s p c v1 v2 v3' ⟨st.restore f.si f.sl, pa.restore f.pi f.pl, r⟩) ∧ Rest B w w' := by
  obtain ⟨g, cap, rfl, hBg, hgl⟩ := h.fk.form (by simp)
  have e7 := h.env.cell 7
  have g7 := h.env.frozen 7
  simp [envCells] at e7
  have hel := h.env.lt
  have hlen := frksCells_length r
  have hat : ∀ j, j < 9 → w.cell? ⟨g, r.length * 9 + j, none⟩ = (frkCells f)[j]? := by
    intro j hj
    have := h.fk.cellAt (r.length * 9 + j) (by simp; omega)
    rw [this, frksCells_cons, List.getElem?_append_right (by omega)]
    rw [hlen, show r.length * 9 + j - 9 * r.length = j by omega]
  have a0 := hat 0 (by omega)
  have a1 := hat 1 (by omega)
  have a2 := hat 2 (by omega)
  have a3 := hat 3 (by omega)
  have a4 := hat 4 (by omega)
  have a5 := hat 5 (by omega)
  have a6 := hat 6 (by omega)
  have a7 := hat 7 (by omega)
  have a8 := hat 8 (by omega)
  simp [frkCells] at a0 a1 a2 a3 a4 a5 a6 a7 a8
  have H := hide h
  clear h hat hlen
  go_enter Try.func29, Try.ntmps29
  go_wp2
  go_region
  obtain ⟨W0, hW0⟩ : ∃ W0, W0 = (w.alloc (.cells #[.int .i64 f.pc, .int .i64 f.si, .int .i64 f.sl, .int .i64 (-1), .int .i64 (-1), .int .i64 f.pi, .int .i64 f.pl, .int .i64 0, .int .i64 0] 81)).drew := ⟨_, rfl⟩
  rw [← hW0]
  have o0 : Only (fun _ => False) w W0 := by rw [hW0]; exact ((Only.refl _ w).alloc _).drew
  have m0 := (unhide H).grow o0
  have b0 : Blk W0 w.heap.size 81 (fbox f.pc f.si f.sl (-1) (-1) f.pi f.pl) := by rw [hW0]; exact (Blk.new _ _ _).drew
  have u0 := o0.mono (Q := MP eb s p c v1 v2 (.slice (some ⟨g, 0, none⟩) (f :: r).length cap)) (fun _ h => h.elim)
  have e7' := m0.env.cell 7
  have e9 := m0.env.cell 9
  have e10 := m0.env.cell 10
  have g7' := m0.env.frozen 7
  have g9 := m0.env.frozen 9
  have g10 := m0.env.frozen 10
  simp [envCells] at e7' e9 e10
  have c0 := b0.cell 0
  have c7 := b0.cell 7
  have c8 := b0.cell 8
  simp [fbox] at c0 c7 c8
  have hne : w.heap.size ≠ eb := Blk.ne_ b0 m0.env (by decide)
  have M0 := hide m0
  have B0 := hide b0
  have U0 := hide u0
  clear m0 b0 u0 hW0 o0 a0 a1 a2 a3 a4 a5 a6 a7 a8 e7 g7
  have hcap : ((r.length : Nat) : Int) ≤ (cap : Int) := by
    rcases (unhide H).fk.2 with ⟨hh, _⟩ | ⟨g', cap', cur, hh, _, _, hnc, _⟩
    · simp at hh
    · injection hh with _ _ hc
      subst hc
      simp at hnc
      omega
  have hwr : IntKind.i64.wrap (r.length : Int) = (r.length : Int) := by rw [IntKind.wrap_i64]; omega
  go_wp2_with (go_at_call 34; refine (dbg_any _ _ _ _).mono ?_; rintro e w5 ⟨rfl, rfl⟩)
  go_region
  obtain ⟨W1, hW1⟩ : ∃ W1, W1 = (((W0.setCell ⟨eb, 7, none⟩ (.slice (some ⟨g, 0, none⟩) r.length cap)).setCell ⟨eb, 9, none⟩ (.int .i64 0)).setCell ⟨eb, 10, none⟩ (.int .i64 0)).drew := ⟨_, rfl⟩
  rw [← hW1]
  have hE : (fun k => k = eb ∨ (Value.slice (some ⟨g, 0, none⟩) (f :: r).length cap).ownBlock = some k) eb := Or.inl rfl
  have o1 : Only (fun k => k = eb ∨ (Value.slice (some ⟨g, 0, none⟩) (f :: r).length cap).ownBlock = some k) W0 W1 := by
    rw [hW1]
    have q1 := (Only.refl (fun k => k = eb ∨ (Value.slice (some ⟨g, 0, none⟩) (f :: r).length cap).ownBlock = some k) W0).setCell (p := ⟨eb, 7, none⟩) (Or.inl hE) (.slice (some ⟨g, 0, none⟩) r.length cap)
    have q2 := q1.setCell (p := ⟨eb, 9, none⟩) (Or.inl hE) (.int .i64 0)
    have q3 := q2.setCell (p := ⟨eb, 10, none⟩) (Or.inl hE) (.int .i64 0)
    exact q3.drew
  have hb1 : Blk W1 eb 57 (envCells s p c (.slice (some ⟨g, 0, none⟩) r.length cap)) := by
    rw [hW1]
    have q1 := (((unhide M0).env.set_ 7 (.slice (some ⟨g, 0, none⟩) r.length cap)).set_ 9 (.int .i64 0)).set_ 10 (.int .i64 0)
    exact q1
  have hw1 : W1.ownsRow B 81 9 (.slice (some ⟨g, 0, none⟩) r.length cap) r.length (frksCells r) := by
    have q0 := (unhide M0).fk
    rw [frksCells_cons] at q0
    have hn : (Value.slice (some ⟨g, 0, none⟩) (f :: r).length cap).ownBlock ≠ some eb := own_blk_ne q0 (unhide M0).env (by decide)
    have q1 := ownsRow_setCell_other (ownsRow_setCell_other (ownsRow_setCell_other q0 (a := ⟨eb, 7, none⟩) hn (.slice (some ⟨g, 0, none⟩) r.length cap)) (a := ⟨eb, 9, none⟩) hn (.int .i64 0)) (a := ⟨eb, 10, none⟩) hn (.int .i64 0)
    rw [hW1]
    exact ownsRow_pop (by rw [frksCells_length]; omega) q1
  have m1 := (unhide M0).afterFk (fk' := r) hb1 hw1 o1
  have b1 := o1.blk (unhide B0) (by
    rintro (he | he)
    · exact hne he
    · have : g = w.heap.size := by simpa [Value.ownBlock] using he
      omega)
  have u1 := (unhide U0).trans (o1.mono (Q := MP eb s p c v1 v2 (.slice (some ⟨g, 0, none⟩) (f :: r).length cap)) (by
    rintro k (rfl | hk)
    · exact Or.inl rfl
    · exact Or.inr (Or.inr (Or.inr (Or.inr (Or.inr (Or.inr hk)))))))
  clear hW1 o1 hb1 hw1 e7' e9 e10 g7' g9 g10 c0 c7 c8 hE M0 B0 U0
  have e1 := m1.env.cell 1
  have c1 := b1.cell 1
  have c2 := b1.cell 2
  simp [envCells] at e1
  simp [fbox] at c1 c2
  have M1 := hide m1
  have B1 := hide b1
  have U1 := hide u1
  clear m1 b1 u1
  go_wp2
  go_still_tail 8, (by kernel_rfl)
  change wpList _ _ _ _ _ W1.drew
  go_wp2_with fail
  have d1 : Only (fun _ => False) W1 W1.drew := (Only.refl _ W1).drew
  have m2 := (unhide M1).grow d1
  have b2 := d1.blk (unhide B1) (fun h => h)
  refine (stkRestore_any _ B s v1 st f.si f.sl m2.st).mono ?_
  rintro e w2 ⟨rfl, hs2, ho2⟩
  have m3 := (m2.afterSt hs2 (Or.inl rfl) (ho2.mono fun k hk => Or.inl hk)).1
  have b3 := ho2.blk b2 (Blk.ne_ b2 m2.st.blk (by decide))
  have u3 := ((unhide U1).trans (d1.mono (fun _ h => h.elim))).trans (ho2.mono fun k hk => Or.inr (Or.inl hk))
  have e3 := m3.env.cell 3
  have c3 := b3.cell 3
  have c4 := b3.cell 4
  simp [envCells] at e3
  simp [fbox] at c3 c4
  have M3 := hide m3
  have B3 := hide b3
  have U3 := hide u3
  clear m2 b2 m3 b3 u3 d1 hs2 ho2 M1 B1 U1 e1 c1 c2
  go_wp2
  go_still_tail 8, (by kernel_rfl)
  change wpList _ _ _ _ _ w2.drew
  go_wp2_with fail
  have d3 : Only (fun _ => False) w2 w2.drew := (Only.refl _ w2).drew
  have m4 := (unhide M3).grow d3
  have b4 := d3.blk (unhide B3) (fun h => h)
  refine (scRestore_any _ c m4.sc).mono ?_
  rintro e w3 ⟨rfl, hs3, ho3⟩
  have m5 := m4.afterSc hs3 ho3
  have b5 := ho3.blk b4 (Blk.ne_ b4 m4.sc (by decide))
  have u5 := ((unhide U3).trans (d3.mono (fun _ h => h.elim))).trans (ho3.mono fun k hk => Or.inr (Or.inr (Or.inr (Or.inl hk))))
  have e5 := m5.env.cell 2
  have c5 := b5.cell 5
  have c6 := b5.cell 6
  simp [envCells] at e5
  simp [fbox] at c5 c6
  have M5 := hide m5
  have B5 := hide b5
  have U5 := hide u5
  clear m4 b4 m5 b5 u5 d3 hs3 ho3 M3 B3 U3 e3 c3 c4
  go_wp2
  go_still_tail 8, (by kernel_rfl)
  change wpList _ _ _ _ _ w3.drew
  go_wp2_with fail
  have d5 : Only (fun _ => False) w3 w3.drew := (Only.refl _ w3).drew
  have m6 := (unhide M5).grow d5
  have b6 := d5.blk (unhide B5) (fun h => h)
  refine (stkRestore_any _ B p v2 pa f.pi f.pl m6.pa).mono ?_
  rintro e w4 ⟨rfl, hs4, ho4⟩
  have m7 := (m6.afterPa hs4 (Or.inl rfl) (ho4.mono fun k hk => Or.inl hk)).1
  have b7 := ho4.blk b6 (Blk.ne_ b6 m6.pa.blk (by decide))
  have u7 := ((unhide U5).trans (d5.mono (fun _ h => h.elim))).trans (ho4.mono fun k hk => Or.inr (Or.inr (Or.inl hk)))
  have c7 := b7.cell 0
  simp [fbox] at c7
  have M7 := hide m7
  have U7 := hide u7
  clear m6 b6 m7 b7 u7 d5 hs4 ho4 M5 B5 U5 e5 c5 c6
  go_wp2
  go_ret
  exact ⟨rfl, ⟨_, unhide M7⟩, (unhide H).rest (unhide U7)⟩

theorem zzBack_any (w : World) (B eb s p c : Nat) (v1 v2 v3 : Value) (st pa : Stk) (f : Frk) (r : List Frk) (h : MachAt w B eb s p c v1 v2 v3 ⟨st, pa, f :: r⟩) (hl : r.length ≤ 2000) :
    Calls Try.prog 19 #[.pointer (some ⟨eb, 0, none⟩)] w fun e w' => e = .returned (.int .i64 f.pc) ∧
      (∃ v3', MachAt w' B eb s p c v1 v2 v3' ⟨st.restore f.si f.sl, pa.restore f.pi f.pl, r⟩) ∧ Rest B w w' := by
  have H := hide h
  clear h
  go_enter Try.func19, Try.ntmps19
  go_wp2_with (go_at_call 29; refine (popfork_any _ B eb s p c v1 v2 v3 st pa f r (unhide H) hl).mono ?_; rintro e w' ⟨rfl, hm, hr⟩)
  go_ret
  exact ⟨rfl, hm, hr⟩

theorem zzFork_any (w : World) (B eb s p c : Nat) (v1 v2 v3 : Value) (M : Mach) (x : Int) (h : MachAt w B eb s p c v1 v2 v3 M) (hl : M.fk.length ≤ 2000) :
    Calls Try.prog 17 #[.pointer (some ⟨eb, 0, none⟩), .int .i64 x] w fun e w' => e = .returned (.tuple #[]) ∧
      (∃ v3', MachAt w' B eb s p c v1 v2 v3' ⟨M.st.save, M.pa.save, ⟨x, M.st.index, M.st.limit, M.pa.index, M.pa.limit⟩ :: M.fk⟩) ∧ Rest B w w' := by
  have H := hide h
  clear h
  go_enter Try.func17, Try.ntmps17
  go_wp2_with (go_at_call 28; refine (pushfork_any _ B eb s p c v1 v2 v3 M x (unhide H) hl).mono ?_; rintro e w' ⟨rfl, hm, hr⟩)
  go_end0
  exact ⟨rfl, hm, hr⟩
end Go.Proofs.Ytlemajapimeciaa
