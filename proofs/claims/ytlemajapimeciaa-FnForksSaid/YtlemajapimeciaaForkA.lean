/- The machine's stack of values: what a push, a pop, a look at its emptiness, a save and a restore do, against a plain model. -/
import Derived.Test.YtlemajapimeciaaScopeA
import Derived.Test.YtlemajapimeciaaForkP
namespace Go.Proofs.Ytlemajapimeciaa
open Go.RowKit
set_option linter.unusedVariables false

/-- All that was there is as it was, but for the blocks of P. -/
structure Only (P : Nat → Prop) (w w' : World) : Prop where
  os : w'.os = w.os
  tape : w'.tape = w.tape
  output : w'.output = w.output
  size : w.heap.size ≤ w'.heap.size
  block : ∀ k, k < w.heap.size → ¬ P k → w'.heap[k]? = w.heap[k]?

section
variable {P Q : Nat → Prop} {a w w' : World}
theorem Only.refl (P : Nat → Prop) (w : World) : Only P w w := ⟨rfl, rfl, rfl, Nat.le_refl _, fun _ _ _ => rfl⟩
theorem Only.trans (h : Only P a w) (k : Only P w w') : Only P a w' :=
  ⟨k.os.trans h.os, k.tape.trans h.tape, k.output.trans h.output, Nat.le_trans h.size k.size, fun i hi hn => (k.block i (Nat.lt_of_lt_of_le hi h.size) hn).trans (h.block i hi hn)⟩
theorem Only.mono (h : Only P w w') (hpq : ∀ k, P k → Q k) : Only Q w w' := ⟨h.os, h.tape, h.output, h.size, fun i hi hn => h.block i hi (fun hp => hn (hpq i hp))⟩
theorem Only.drew (h : Only P a w) : Only P a w.drew := ⟨h.os, h.tape, h.output, h.size, h.block⟩
theorem Only.alloc (h : Only P a w) (o : Obj) : Only P a (w.alloc o) := 
  ⟨h.os, h.tape, h.output, by have := h.size; simp; omega, fun i hi hn => (Below.heap_alloc w o i (Nat.lt_of_lt_of_le hi h.size)).trans (h.block i hi hn)⟩
theorem Only.setCell (h : Only P a w) {p : Addr} (hp : P p.block ∨ a.heap.size ≤ p.block) (u : Value) : Only P a (w.setCell p u) :=
  ⟨h.os, h.tape, h.output, by have := h.size; simpa [World.setCell] using this, fun i hi hn => (Below.heap_setCell w p u i (by rintro rfl; rcases hp with hp | hp; exact hn hp; omega)).trans (h.block i hi hn)⟩
theorem Only.grown (h : Only P a w) {row : Option Nat} (hg : w.grownBy w' row) (hr : ∀ k, row = some k → P k ∨ a.heap.size ≤ k) : Only P a w' :=
  ⟨hg.os.trans h.os, hg.tape.trans h.tape, hg.output.trans h.output, Nat.le_trans h.size hg.size, fun i hi hn => (hg.block i (Nat.lt_of_lt_of_le hi h.size) (fun e => by rcases hr i e.symm with hp | hp; exact hn hp; omega)).trans (h.block i hi hn)⟩
theorem Only.below {B : Nat} (h : Only P w w') (hB : ∀ k, P k → B ≤ k) (hs : B ≤ w.heap.size) : Below B w w' :=
  ⟨h.os, h.tape, h.output, h.size, fun k hk => h.block k (by omega) (fun hp => by have := hB k hp; omega)⟩
theorem Only.blk (h : Only P w w') {g : Nat} {t : TypeId} {cs : Array Value} (hb : Blk w g t cs) (hn : ¬ P g) : Blk w' g t cs := (h.block g hb.lt hn).trans hb
theorem Only.own (h : Only P w w') {B : Nat} {e : TypeId} {size n : Nat} {v : Value} {xs : List Value} (ho : w.ownsRow B e size v n xs) (hn : ∀ k, v.ownBlock = some k → ¬ P k) : w'.ownsRow B e size v n xs := by
  obtain ⟨h1, h2⟩ := ho
  refine ⟨h1, ?_⟩
  rcases h2 with h2 | ⟨g, cap, cur, rfl, hg, hh, r⟩
  · exact Or.inl h2
  · exact Or.inr ⟨g, cap, cur, rfl, hg, (h.blk hh (hn g rfl)), r⟩
end

def stkCell (x : Int × Int) : List Value := [.iface 3 (.int .i64 x.1), .int .i64 x.2]
def stkCells (l : List (Int × Int)) : List Value := l.flatMap stkCell

theorem stkCells_length : ∀ l : List (Int × Int), (stkCells l).length = 2 * l.length
  | [] => rfl
  | x :: r => by have := stkCells_length r; simp [stkCells, stkCell] at this ⊢; omega
theorem stkCells_cons (x : Int × Int) (r : List (Int × Int)) : stkCells (x :: r) = .iface 3 (.int .i64 x.1) :: .int .i64 x.2 :: stkCells r := rfl
theorem stkCells_at : ∀ (l : List (Int × Int)) (i : Nat) (x : Int × Int), l[i]? = some x → (stkCells l)[i * 2]? = some (.iface 3 (.int .i64 x.1)) ∧ (stkCells l)[i * 2 + 1]? = some (.int .i64 x.2)
  | [], _, _, h => by simp at h
  | y :: r, 0, x, h => by simp at h; subst h; simp [stkCells_cons]
  | y :: r, i + 1, x, h => by
    have := stkCells_at r i x (by simpa using h)
    rw [stkCells_cons, show (i + 1) * 2 = i * 2 + 2 by omega]
    exact this
theorem stkCells_set : ∀ (l : List (Int × Int)) (i : Nat) (x : Int × Int), i < l.length → ((stkCells l).set (i * 2) (.iface 3 (.int .i64 x.1))).set (i * 2 + 1) (.int .i64 x.2) = stkCells (l.set i x)
  | [], _, _, h => by simp at h
  | y :: r, 0, x, _ => by simp [stkCells_cons]
  | y :: r, i + 1, x, h => by
    have := stkCells_set r i x (by simpa using h)
    rw [List.set_cons_succ, stkCells_cons, stkCells_cons, show (i + 1) * 2 = i * 2 + 2 by omega, show i * 2 + 2 + 1 = (i * 2 + 1) + 2 by omega]
    simp only [List.set_cons_succ]
    rw [this]
theorem stkCells_snoc (l : List (Int × Int)) (x : Int × Int) : stkCells (l ++ [x]) = stkCells l ++ [.iface 3 (.int .i64 x.1), .int .i64 x.2] := by simp [stkCells, stkCell]

/-- A stack in memory: its block, the slice of its row. -/
structure StkAt (w : World) (B sb : Nat) (v : Value) (s : Stk) : Prop where
  blk : Blk w sb 77 #[v, .int .i64 s.index, .int .i64 s.limit]
  own : w.ownsRow B 79 2 v s.data.length (stkCells s.data)

def Stk.Cells (sb : Nat) (v : Value) (k : Nat) : Prop := k = sb ∨ v.ownBlock = some k

theorem StkAt.only {P : Nat → Prop} {w w' : World} {B sb : Nat} {v : Value} {s : Stk} (h : StkAt w B sb v s) (ho : Only P w w') (h1 : ¬ P sb) (h2 : ∀ k, v.ownBlock = some k → ¬ P k) : StkAt w' B sb v s := ⟨ho.blk h.blk h1, ho.own h.own h2⟩

theorem Try.info79 : (Try.prog.info? 79).map (fun i => (i.zero, i.size, i.bytes)) = some (some (.agg #[.nilIface, .int .i64 0]), 2, 24) := by kernel_rfl

theorem reads_new2 (w : World) (a b : Value) (t : TypeId) : Reads (w.alloc (.cells #[a, b] t)) (w.heap.size + 1) 2 (some ⟨w.heap.size, 0, none⟩) 1 [a, b] := by
  refine ⟨rfl, fun _ => ⟨_, rfl, by simp, fun j u hu => ?_⟩⟩
  have hb := Blk.new w t #[a, b]
  have : (⟨w.heap.size, 0, none⟩ : Addr).add j = ⟨w.heap.size, j, none⟩ := by unfold Addr.add; split <;> simp_all
  rw [this, hb.cell, ← hu]; simp

theorem stkEmpty_any (w : World) (B sb : Nat) (v : Value) (s : Stk) (h : StkAt w B sb v s) :
    Calls Try.prog 24 #[.pointer (some ⟨sb, 0, none⟩)] w fun e w' => e = .returned (.bool (decide (s.index < 0))) ∧ w = w' := by
  have c1 := h.blk.cell 1
  simp at c1
  go_enter Try.func24, Try.ntmps24
  go_wp2
  go_ret
  exact ⟨rfl, rfl⟩

theorem stkRestore_any (w : World) (B sb : Nat) (v : Value) (s : Stk) (i l : Int) (h : StkAt w B sb v s) :
    Calls Try.prog 35 #[.pointer (some ⟨sb, 0, none⟩), .int .i64 i, .int .i64 l] w fun e w' => e = .returned (.tuple #[]) ∧ StkAt w' B sb v (s.restore i l) ∧ Only (· = sb) w w' := by
  have c1 := h.blk.cell 1
  have c2 := h.blk.cell 2
  have f1 := h.blk.frozen 1
  have f2 := h.blk.frozen 2
  simp at c1 c2
  go_enter Try.func35, Try.ntmps35
  go_wp2
  go_end0
  have hn := own_blk_ne h.own h.blk (by decide)
  refine ⟨rfl, ⟨?_, ?_⟩, ?_⟩
  · have := (h.blk.set_ 1 (.int .i64 i)).set_ 2 (.int .i64 l)
    simpa [Stk.restore] using this
  · exact ownsRow_setCell_other (ownsRow_setCell_other h.own hn _) hn _
  · exact ((Only.refl (fun x => x = sb) w).setCell (p := ⟨sb, 1, none⟩) (Or.inl rfl) _).setCell (p := ⟨sb, 2, none⟩) (Or.inl rfl) _

theorem scRestore_any (w : World) (c : Nat) (h : Blk w c 72 freshStack) :
    Calls Try.prog 36 #[.pointer (some ⟨c, 0, none⟩), .int .i64 (-1), .int .i64 (-1)] w fun e w' => e = .returned (.tuple #[]) ∧ Blk w' c 72 freshStack ∧ Only (· = c) w w' := by
  have c1 := h.cell 1
  have c2 := h.cell 2
  have f1 := h.frozen 1
  have f2 := h.frozen 2
  simp [freshStack] at c1 c2
  go_enter Try.func36, Try.ntmps36
  go_wp2
  go_end0
  refine ⟨rfl, ?_, ?_⟩
  · have := (h.set_ 1 (.int .i64 (-1))).set_ 2 (.int .i64 (-1))
    simpa [freshStack] using this
  · exact ((Only.refl (fun x => x = c) w).setCell (p := ⟨c, 1, none⟩) (Or.inl rfl) _).setCell (p := ⟨c, 2, none⟩) (Or.inl rfl) _

theorem scSave_any (w : World) (c : Nat) (h : Blk w c 72 freshStack) :
    Calls Try.prog 33 #[.pointer (some ⟨c, 0, none⟩)] w fun e w' => e = .returned (.tuple #[.int .i64 (-1), .int .i64 (-1)]) ∧ ∃ n, w.drewN n = w' := by
  have c1 := h.cell 1
  have c2 := h.cell 2
  simp [freshStack] at c1 c2
  go_enter Try.func33, Try.ntmps33
  go_wp2
  go_region
  go_wp2
  go_region
  go_wp2
  go_ret2
  exact ⟨rfl, 2, rfl⟩

set_option maxHeartbeats 400000 in
theorem stkSave_any (w : World) (B sb : Nat) (v : Value) (s : Stk) (h : StkAt w B sb v s) :
    Calls Try.prog 32 #[.pointer (some ⟨sb, 0, none⟩)] w fun e w' => e = .returned (.tuple #[.int .i64 s.index, .int .i64 s.limit]) ∧ StkAt w' B sb v s.save ∧ Only (· = sb) w w' := by
  have c1 := h.blk.cell 1
  have c2 := h.blk.cell 2
  have f2 := h.blk.frozen 2
  simp at c1 c2
  have hn := own_blk_ne h.own h.blk (by decide)
  by_cases hi : s.limit < s.index
  · go_enter Try.func32, Try.ntmps32
    go_wp2
    go_region
    go_wp2
    go_region
    go_wp2
    go_ret2
    refine ⟨rfl, ⟨?_, ?_⟩, ?_⟩
    · have := h.blk.set_ 2 (.int .i64 s.index)
      have e : max s.index s.limit = s.index := by omega
      have h2 : Blk (w.setCell ⟨sb, 2, none⟩ (.int .i64 s.index)) sb 77 #[v, .int .i64 s.index, .int .i64 s.index] := by simpa using this
      simp only [Stk.save, e]
      exact h2.drew.drew
    · exact ownsRow_setCell_other h.own hn _
    · exact ((Only.refl (fun x => x = sb) w).setCell (p := ⟨sb, 2, none⟩) (Or.inl rfl) _).drew.drew
  · go_enter Try.func32, Try.ntmps32
    go_wp2
    go_region
    go_wp2
    go_region
    go_wp2
    go_ret2
    have e : max s.index s.limit = s.limit := by omega
    refine ⟨rfl, ⟨?_, h.own⟩, (Only.refl _ _).drew.drew⟩
    have h2 := h.blk
    simp only [Stk.save, e]
    exact h2.drew.drew
end Go.Proofs.Ytlemajapimeciaa
