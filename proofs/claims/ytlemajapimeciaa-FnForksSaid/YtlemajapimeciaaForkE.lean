/- The machine's two stacks and its forks in memory: what pushes, pops and looks do to them. -/
import Derived.Test.YtlemajapimeciaaForkD
namespace Go.Proofs.Ytlemajapimeciaa
open Go.RowKit
set_option linter.unusedVariables false

def frkCells (f : Frk) : List Value := [.int .i64 f.pc, .int .i64 f.si, .int .i64 f.sl, .int .i64 (-1), .int .i64 (-1), .int .i64 f.pi, .int .i64 f.pl, .int .i64 0, .int .i64 0]
def frksCells (l : List Frk) : List Value := l.reverse.flatMap frkCells

structure MachAt (w : World) (B eb s p c : Nat) (v1 v2 v3 : Value) (M : Mach) : Prop where
  env : Blk w eb 57 (envCells s p c v3)
  st : StkAt w B s v1 M.st
  pa : StkAt w B p v2 M.pa
  sc : Blk w c 72 freshStack
  fk : w.ownsRow B 81 9 v3 M.fk.length (frksCells M.fk)
  ne : s ≠ p
  own : ∀ k, v1.ownBlock = some k → v2.ownBlock ≠ some k
  lo : B ≤ eb ∧ B ≤ s ∧ B ≤ p ∧ B ≤ c
  hi : B ≤ w.heap.size

/-- What a step of the machine leaves alone. -/
structure Rest (B : Nat) (w w' : World) : Prop where
  below : Below B w w'
  keep : ∀ g t cs, t ≠ 57 → t ≠ 72 → t ≠ 77 → t ≠ 79 → t ≠ 81 → Blk w g t cs → Blk w' g t cs

theorem Rest.refl (B : Nat) (w : World) : Rest B w w := ⟨Below.refl _ _, fun _ _ _ _ _ _ _ _ h => h⟩
theorem Rest.trans {B : Nat} {a w w' : World} (h : Rest B a w) (k : Rest B w w') : Rest B a w' :=
  ⟨h.below.trans k.below, fun g t cs h1 h2 h3 h4 h5 hb => k.keep g t cs h1 h2 h3 h4 h5 (h.keep g t cs h1 h2 h3 h4 h5 hb)⟩

section
variable {w w' : World} {B eb s p c : Nat} {v1 v2 v3 : Value} {M : Mach}

theorem MachAt.afterSt (h : MachAt w B eb s p c v1 v2 v3 M) {v' : Value} {st' : Stk} (h1 : StkAt w' B s v' st') (h2 : NewOwn w v1 v') (h3 : Only (Stk.Cells s v1) w w') :
    MachAt w' B eb s p c v' v2 v3 ⟨st', M.pa, M.fk⟩ ∧ Rest B w w' := by
  have e1 : ∀ (g : Nat) (t : TypeId) (cs : Array Value), t ≠ 77 → t ≠ 79 → Blk w g t cs → ¬ Stk.Cells s v1 g := by
    intro g t cs h7 h9 hb hc
    rcases hc with rfl | hc
    · exact Blk.ne_ hb h.st.blk h7 rfl
    · exact own_blk_ne h.st.own hb (Ne.symm h9) hc
  have e2 : ¬ Stk.Cells s v1 p := by
    rintro (he | he)
    · exact h.ne he.symm
    · exact own_blk_ne h.st.own h.pa.blk (by decide) he
  have e3 : ∀ k, v2.ownBlock = some k → ¬ Stk.Cells s v1 k := by
    rintro k hk (rfl | he)
    · exact own_blk_ne h.pa.own h.st.blk (by decide) hk
    · exact h.own k he hk
  have hlo : ∀ k, Stk.Cells s v1 k → B ≤ k := by
    rintro k (rfl | hk)
    · exact h.lo.2.1
    · exact (h.st.own.lt k hk).1
  have e4 : ∀ k, v3.ownBlock = some k → ¬ Stk.Cells s v1 k := by
    rintro k hk (rfl | he)
    · exact own_blk_ne h.fk h.st.blk (by decide) hk
    · rcases h.fk.2 with ⟨rfl, _⟩ | ⟨g, cap, cur, rfl, _, hh, _⟩
      · simp [Value.ownBlock] at hk
      · obtain rfl : g = k := by simpa [Value.ownBlock] using hk
        exact own_blk_ne h.st.own (g := g) (t := 81) (cs := cur) hh (by decide) he
  refine ⟨⟨h3.blk h.env (e1 _ _ _ (by decide) (by decide) h.env), h1, h.pa.only h3 e2 e3, h3.blk h.sc (e1 _ _ _ (by decide) (by decide) h.sc), h3.own h.fk e4, h.ne, ?_, h.lo, Nat.le_trans h.hi h3.size⟩, ⟨h3.below hlo h.hi, ?_⟩⟩
  · intro k hk hk2
    rcases h2 with h2 | ⟨g, hg, h2⟩
    · exact h.own k (h2 ▸ hk) hk2
    · have := (h.pa.own.lt k hk2).2
      rw [h2] at hk
      injection hk with hk
      omega
  · intro g t cs _ _ h7 h9 _ hb
    exact h3.blk hb (e1 g t cs h7 h9 hb)

theorem MachAt.afterPa (h : MachAt w B eb s p c v1 v2 v3 M) {v' : Value} {pa' : Stk} (h1 : StkAt w' B p v' pa') (h2 : NewOwn w v2 v') (h3 : Only (Stk.Cells p v2) w w') :
    MachAt w' B eb s p c v1 v' v3 ⟨M.st, pa', M.fk⟩ ∧ Rest B w w' := by
  have e1 : ∀ (g : Nat) (t : TypeId) (cs : Array Value), t ≠ 77 → t ≠ 79 → Blk w g t cs → ¬ Stk.Cells p v2 g := by
    intro g t cs h7 h9 hb hc
    rcases hc with rfl | hc
    · exact Blk.ne_ hb h.pa.blk h7 rfl
    · exact own_blk_ne h.pa.own hb (Ne.symm h9) hc
  have e2 : ¬ Stk.Cells p v2 s := by
    rintro (he | he)
    · exact h.ne he
    · exact own_blk_ne h.pa.own h.st.blk (by decide) he
  have e3 : ∀ k, v1.ownBlock = some k → ¬ Stk.Cells p v2 k := by
    rintro k hk (rfl | he)
    · exact own_blk_ne h.st.own h.pa.blk (by decide) hk
    · exact h.own k hk he
  have hlo : ∀ k, Stk.Cells p v2 k → B ≤ k := by
    rintro k (rfl | hk)
    · exact h.lo.2.2.1
    · exact (h.pa.own.lt k hk).1
  have e4 : ∀ k, v3.ownBlock = some k → ¬ Stk.Cells p v2 k := by
    rintro k hk (rfl | he)
    · exact own_blk_ne h.fk h.pa.blk (by decide) hk
    · rcases h.fk.2 with ⟨rfl, _⟩ | ⟨g, cap, cur, rfl, _, hh, _⟩
      · simp [Value.ownBlock] at hk
      · obtain rfl : g = k := by simpa [Value.ownBlock] using hk
        exact own_blk_ne h.pa.own (g := g) (t := 81) (cs := cur) hh (by decide) he
  refine ⟨⟨h3.blk h.env (e1 _ _ _ (by decide) (by decide) h.env), h.st.only h3 e2 e3, h1, h3.blk h.sc (e1 _ _ _ (by decide) (by decide) h.sc), h3.own h.fk e4, h.ne, ?_, h.lo, Nat.le_trans h.hi h3.size⟩, ⟨h3.below hlo h.hi, ?_⟩⟩
  · intro k hk hk2
    rcases h2 with h2 | ⟨g, hg, h2⟩
    · exact h.own k hk (h2 ▸ hk2)
    · have := (h.st.own.lt k hk).2
      rw [h2] at hk2
      injection hk2 with hk2
      omega
  · intro g t cs _ _ h7 h9 _ hb
    exact h3.blk hb (e1 g t cs h7 h9 hb)

/-- Memory has only grown, or a block of another kind was written. -/
theorem MachAt.only (h : MachAt w B eb s p c v1 v2 v3 M) {P : Nat → Prop} (ho : Only P w w') (hp : ∀ g t cs, P g → Blk w g t cs → t ≠ 57 ∧ t ≠ 72 ∧ t ≠ 77 ∧ t ≠ 79 ∧ t ≠ 81) : MachAt w' B eb s p c v1 v2 v3 M := by
  have row : ∀ {e : TypeId} {sz n : Nat} {v : Value} {xs : List Value}, (e = 79 ∨ e = 81) → w.ownsRow B e sz v n xs → ∀ k, v.ownBlock = some k → ¬ P k := by
    intro e sz n v xs he ho k hk hpk
    rcases ho.2 with ⟨rfl, _⟩ | ⟨g, cap, cur, rfl, _, hh, _⟩
    · simp [Value.ownBlock] at hk
    · obtain rfl : g = k := by simpa [Value.ownBlock] using hk
      have := hp g e cur hpk hh
      rcases he with rfl | rfl
      · exact this.2.2.2.1 rfl
      · exact this.2.2.2.2 rfl
  exact ⟨ho.blk h.env fun hpk => (hp _ _ _ hpk h.env).1 rfl, h.st.only ho (fun hpk => (hp _ _ _ hpk h.st.blk).2.2.1 rfl) (row (Or.inl rfl) h.st.own), h.pa.only ho (fun hpk => (hp _ _ _ hpk h.pa.blk).2.2.1 rfl) (row (Or.inl rfl) h.pa.own),
    ho.blk h.sc fun hpk => (hp _ _ _ hpk h.sc).2.1 rfl, ho.own h.fk (row (Or.inr rfl) h.fk), h.ne, h.own, h.lo, Nat.le_trans h.hi ho.size⟩
theorem MachAt.alloc (h : MachAt w B eb s p c v1 v2 v3 M) (o : Obj) : MachAt (w.alloc o) B eb s p c v1 v2 v3 M := h.only (P := fun _ => False) ((Only.refl _ w).alloc o) (fun _ _ _ h => h.elim)
end

section
variable (w : World) (B eb s p c : Nat) (v1 v2 v3 : Value) (M : Mach) (h : MachAt w B eb s p c v1 v2 v3 M)
include h

theorem zzEnvPush_any (x : Int) (hok : M.st.Ok 2000) :
    Calls Try.prog 11 #[.pointer (some ⟨eb, 0, none⟩), .iface 3 (.int .i64 x)] w fun e w' => e = .returned (.tuple #[]) ∧ (∃ v', MachAt w' B eb s p c v' v2 v3 ⟨M.st.push x, M.pa, M.fk⟩) ∧ Rest B w w' := by
  have c1 := h.env.cell 1
  simp [envCells] at c1
  have H := hide h
  have HO := Lib.hid hok
  clear h hok
  have inner : Calls Try.prog 23 #[.pointer (some ⟨eb, 0, none⟩), .iface 3 (.int .i64 x)] w fun e w' => e = .returned (.tuple #[]) ∧ (∃ v', MachAt w' B eb s p c v' v2 v3 ⟨M.st.push x, M.pa, M.fk⟩) ∧ Rest B w w' := by
    go_enter Try.func23, Try.ntmps23
    go_wp2_with (go_at_call 26; refine (stkPush_any _ B s v1 M.st x (unhide H).st HO.out (unhide H).hi).mono ?_; rintro e w' ⟨rfl, v', hs, hn, ho⟩)
    go_end0
    have := (unhide H).afterSt hs hn ho
    exact ⟨rfl, ⟨v', this.1⟩, this.2⟩
  have HI := hide inner
  clear inner
  go_enter Try.func11, Try.ntmps11
  go_wp2_with (go_at_call 23; refine (unhide HI).mono ?_; rintro e w' ⟨rfl, hs, hr⟩)
  go_end0
  exact ⟨rfl, hs, hr⟩

theorem zzPathPush_any (x : Int) (hok : M.pa.Ok 2000) :
    Calls Try.prog 14 #[.pointer (some ⟨eb, 0, none⟩), .iface 3 (.int .i64 x)] w fun e w' => e = .returned (.tuple #[]) ∧ (∃ v', MachAt w' B eb s p c v1 v' v3 ⟨M.st, M.pa.push x, M.fk⟩) ∧ Rest B w w' := by
  have c1 := h.env.cell 2
  simp [envCells] at c1
  have H := hide h
  have HO := Lib.hid hok
  clear h hok
  go_enter Try.func14, Try.ntmps14
  go_wp2_with (go_at_call 26; refine (stkPush_any _ B p v2 M.pa x (unhide H).pa HO.out (unhide H).hi).mono ?_; rintro e w' ⟨rfl, v', hs, hn, ho⟩)
  go_end0
  have := (unhide H).afterPa hs hn ho
  exact ⟨rfl, ⟨v', this.1⟩, this.2⟩

theorem zzEnvEmpty_any : Calls Try.prog 12 #[.pointer (some ⟨eb, 0, none⟩)] w fun e w' => e = .returned (.bool (decide (M.st.index < 0))) ∧ w = w' := by
  have c1 := h.env.cell 1
  simp [envCells] at c1
  have H := hide h
  clear h
  go_enter Try.func12, Try.ntmps12
  go_wp2_with (go_at_call 24; refine (stkEmpty_any _ B s v1 M.st (unhide H).st).mono ?_; rintro e w' ⟨rfl, rfl⟩)
  go_ret
  exact ⟨rfl, rfl⟩

theorem zzPathEmpty_any : Calls Try.prog 15 #[.pointer (some ⟨eb, 0, none⟩)] w fun e w' => e = .returned (.bool (decide (M.pa.index < 0))) ∧ w = w' := by
  have c1 := h.env.cell 2
  simp [envCells] at c1
  have H := hide h
  clear h
  go_enter Try.func15, Try.ntmps15
  go_wp2_with (go_at_call 24; refine (stkEmpty_any _ B p v2 M.pa (unhide H).pa).mono ?_; rintro e w' ⟨rfl, rfl⟩)
  go_ret
  exact ⟨rfl, rfl⟩

theorem zzEnvPop_any (hok : M.st.Ok 2000) (hi : 0 ≤ M.st.index) :
    Calls Try.prog 13 #[.pointer (some ⟨eb, 0, none⟩)] w fun e w' => e = .returned (.iface 3 (.int .i64 M.st.top.1)) ∧ MachAt w' B eb s p c v1 v2 v3 ⟨M.st.pop, M.pa, M.fk⟩ ∧ Rest B w w' := by
  have c1 := h.env.cell 1
  simp [envCells] at c1
  have H := hide h
  have HO := Lib.hid hok
  clear h hok
  have inner : Calls Try.prog 25 #[.pointer (some ⟨eb, 0, none⟩)] w fun e w' => e = .returned (.iface 3 (.int .i64 M.st.top.1)) ∧ MachAt w' B eb s p c v1 v2 v3 ⟨M.st.pop, M.pa, M.fk⟩ ∧ Rest B w w' := by
    go_enter Try.func25, Try.ntmps25
    go_wp2_with (go_at_call 27; refine (stkPop_any _ B s 2000 v1 M.st (unhide H).st HO.out (Nat.le_refl _) hi).mono ?_; rintro e w' ⟨rfl, hs, ho⟩)
    go_ret
    have := (unhide H).afterSt hs (Or.inl rfl) (ho.mono fun k hk => Or.inl hk)
    exact ⟨rfl, this.1, this.2⟩
  have HI := hide inner
  clear inner
  go_enter Try.func13, Try.ntmps13
  go_wp2_with (go_at_call 25; refine (unhide HI).mono ?_; rintro e w' ⟨rfl, hs, hr⟩)
  go_ret
  exact ⟨rfl, hs, hr⟩

theorem zzPathPop_any (hok : M.pa.Ok 2000) (hi : 0 ≤ M.pa.index) :
    Calls Try.prog 16 #[.pointer (some ⟨eb, 0, none⟩)] w fun e w' => e = .returned (.iface 3 (.int .i64 M.pa.top.1)) ∧ MachAt w' B eb s p c v1 v2 v3 ⟨M.st, M.pa.pop, M.fk⟩ ∧ Rest B w w' := by
  have c1 := h.env.cell 2
  simp [envCells] at c1
  have H := hide h
  have HO := Lib.hid hok
  clear h hok
  go_enter Try.func16, Try.ntmps16
  go_wp2_with (go_at_call 27; refine (stkPop_any _ B p 2000 v2 M.pa (unhide H).pa HO.out (Nat.le_refl _) hi).mono ?_; rintro e w' ⟨rfl, hs, ho⟩)
  go_ret
  have := (unhide H).afterPa hs (Or.inl rfl) (ho.mono fun k hk => Or.inl hk)
  exact ⟨rfl, this.1, this.2⟩

theorem zzForks_any : Calls Try.prog 18 #[.pointer (some ⟨eb, 0, none⟩)] w fun e w' => e = .returned (.int .i64 M.fk.length) ∧ w = w' := by
  obtain ⟨ao, cap, rfl⟩ := own_slice h.fk
  have c1 := h.env.cell 7
  simp [envCells] at c1
  have H := hide h
  clear h
  go_enter Try.func18, Try.ntmps18
  go_wp2
  go_ret
  exact ⟨rfl, rfl⟩
end
end Go.Proofs.Ytlemajapimeciaa
