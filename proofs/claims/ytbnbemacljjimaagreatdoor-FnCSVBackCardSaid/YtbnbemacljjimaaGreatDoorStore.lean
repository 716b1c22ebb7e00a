/- A whole aggregate stored into a block that is known. -/
import Derived.Test.YtbnbemacljjimaaGreatDoorAs
import Derived.Laws.Tables
namespace Go.Proofs.YtbnbemacljjimaaGreatDoor
open Go.RowKit
set_option linter.unusedVariables false

theorem setRow_blk {w : World} {g : Nat} {t : TypeId} {old cells : Array Value} (h : Blk w g t old) : Blk (w.setRow g cells) g t cells := by
  unfold Blk at h ⊢
  simp [World.setRow, Array.getElem?_modify, h]
theorem setRow_only (w : World) (g : Nat) (cells : Array Value) : Only (· = g) w (w.setRow g cells) := by
  refine ⟨rfl, rfl, rfl, by simp [World.setRow], fun i _ hi => ?_⟩
  simp [World.setRow, Array.getElem?_modify]
  intro e
  exact absurd e.symm hi

theorem wpList_store_blk {P : Program} {ops : Array Oper} {rest : List Oper} {o : Oper} {a : Act} {w : World} {Q : Exit → Act → World → Prop} (hgd : o.guard = none) (ty : TypeId) (x y : Operand) (ho : o.op = .store ty x y)
    (g : Nat) (cells : Array Value) (hx : a.eval x = .pointer (some ⟨g, 0, none⟩)) (hy : a.eval y = .agg cells)
    (t : TypeId) (old : Array Value) (hg : Blk w g t old) (hi : (P.info? ty).map (·.size) = some cells.size)
    (hold : old.size = cells.size) (h1 : cells.all (·.oneCell') = true)
    (h : ∀ w', Blk w' g t cells → Only (· = g) w w' → w'.heap.size = w.heap.size → wpList P ops Q rest (a.put o.dst undef) w') : wpList P ops Q (o :: rest) a w :=
  wpList_store_row hgd ty x y ho g cells hx hy t old hg hi hold h1 (h _ (setRow_blk hg) (setRow_only w g cells) (by simp [World.setRow]))

theorem val_one (k h : Int) (s : ByteArray) (la ka va : Option Addr) (l lc m kc p vc : Nat) : (#[.int .i64 k, .int .i64 h, .string s, .slice la l lc, .slice ka m kc, .slice va p vc] : Array Value).all (·.oneCell') = true := by simp [Value.oneCell']
theorem res_one (k h z : Int) (s : ByteArray) (la ka va : Option Addr) (l lc m kc p vc : Nat) : (#[.int .i64 k, .int .i64 h, .string s, .slice la l lc, .slice ka m kc, .slice va p vc, .int .i64 z] : Array Value).all (·.oneCell') = true := by simp [Value.oneCell']
theorem val_size : (Tryz.prog.info? 26).map (·.size) = some 6 := by kernel_rfl
theorem res_size : (Tryz.prog.info? 35).map (·.size) = some 7 := by kernel_rfl

/-- The seven cells of a block of answers. -/
theorem blk_seven {w : World} {g : Nat} {t : TypeId} {a0 a1 a2 a3 a4 a5 a6 : Value} (h : Blk w g t #[a0, a1, a2, a3, a4, a5, a6]) :
    w.cell? ⟨g, 0, none⟩ = some a0 ∧ w.cell? ⟨g, 1, none⟩ = some a1 ∧ w.cell? ⟨g, 2, none⟩ = some a2 ∧ w.cell? ⟨g, 3, none⟩ = some a3 ∧ w.cell? ⟨g, 4, none⟩ = some a4 ∧ w.cell? ⟨g, 5, none⟩ = some a5 ∧ w.cell? ⟨g, 6, none⟩ = some a6 :=
  ⟨h.cell 0, h.cell 1, h.cell 2, h.cell 3, h.cell 4, h.cell 5, h.cell 6⟩
theorem blk_six {w : World} {g : Nat} {t : TypeId} {a0 a1 a2 a3 a4 a5 : Value} (h : Blk w g t #[a0, a1, a2, a3, a4, a5]) :
    w.cell? ⟨g, 0, none⟩ = some a0 ∧ w.cell? ⟨g, 1, none⟩ = some a1 ∧ w.cell? ⟨g, 2, none⟩ = some a2 ∧ w.cell? ⟨g, 3, none⟩ = some a3 ∧ w.cell? ⟨g, 4, none⟩ = some a4 ∧ w.cell? ⟨g, 5, none⟩ = some a5 :=
  ⟨h.cell 0, h.cell 1, h.cell 2, h.cell 3, h.cell 4, h.cell 5⟩
end Go.Proofs.YtbnbemacljjimaaGreatDoor
