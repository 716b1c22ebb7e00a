/- The machine's stack of values: what a push does, whether the row has the place or not. -/
import Derived.Test.YtlemajapimeciaaForkC
namespace Go.Proofs.Ytlemajapimeciaa
open Go.RowKit
set_option linter.unusedVariables false

set_option maxHeartbeats 1000000 in
theorem stkPush_set (w : World) (B sb : Nat) (g cap : Nat) (data : List (Int × Int)) (index limit x : Int) 
    (hblk : Blk w sb 77 #[.slice (some ⟨g, 0, none⟩) data.length cap, .int .i64 index, .int .i64 limit]) (hown : w.ownsRow B 79 2 (.slice (some ⟨g, 0, none⟩) data.length cap) data.length (stkCells data)) (hgl : g < w.heap.size)
    (hlen : data.length ≤ 2000) (hi0 : -1 ≤ index) (hi1 : index < data.length) (hl0 : -1 ≤ limit) (hl1 : limit < data.length) (hml : max index limit + 1 < data.length) :
    Calls Try.prog 26 #[.pointer (some ⟨sb, 0, none⟩), .iface 3 (.int .i64 x)] w fun e w' => e = .returned (.tuple #[]) ∧ StkAt w' B sb (.slice (some ⟨g, 0, none⟩) data.length cap) ((Stk.mk data index limit).push x) ∧
      Only (Stk.Cells sb (.slice (some ⟨g, 0, none⟩) data.length cap)) w w' := by
  obtain ⟨j, hj⟩ : ∃ j : Nat, (max index limit + 1).toNat = j := ⟨_, rfl⟩
  have hjl : j < data.length := by omega
  have hbs := hblk.lt
  have c0 := hblk.cell 0
  have c1 := hblk.cell 1
  have c2 := hblk.cell 2
  have f0 := hblk.frozen 0
  have f1 := hblk.frozen 1
  simp at c0 c1 c2
  have hne := own_blk_ne hown hblk (by decide)
  have hgs : g ≠ sb := fun e => hne (by simp [Value.ownBlock, e])
  obtain ⟨y, hy⟩ : ∃ y, data[j]? = some y := ⟨_, List.getElem?_eq_getElem hjl⟩
  obtain ⟨a0, a1⟩ := stkCells_at data j y hy
  rw [← hown.cellAt (j * 2) (by omega), ← hj] at a0
  rw [← hown.cellAt (j * 2 + 1) (by omega), ← hj] at a1
  have g0 := hown.frozenAt ((max index limit + 1).toNat * 2)
  have g1 := hown.frozenAt ((max index limit + 1).toNat * 2 + 1)
  have hm0 : (0 : Int) ≤ max index limit + 1 := by omega
  have HB := Lib.hid hblk
  have HO := Lib.hid hown
  have HN := Lib.hid hne
  have HJ := Lib.hid hj
  clear hblk hown hne hy hj
  go_enter Try.func26, Try.ntmps26
  go_wp2
  go_region
  go_wp2
  go_region
  go_wp2
  go_region
  all_goals
    go_wp2
    go_end0
    refine ⟨rfl, ⟨?_, ?_⟩, ?_⟩
    · have h2 : Blk (w.setCell ⟨sb, 1, none⟩ (.int .i64 (max index limit + 1))) sb 77 #[.slice (some ⟨g, 0, none⟩) data.length cap, .int .i64 (max index limit + 1), .int .i64 limit] := by simpa using HB.out.set_ 1 (.int .i64 (max index limit + 1))
      exact ((((h2.far (p := ⟨g, _, none⟩) (Ne.symm hgs) _).far (p := ⟨g, _, none⟩) (Ne.symm hgs) _).alloc _).drew).drew.drew
    · have h0 := ownsRow_setCell_other HO.out (a := ⟨sb, 1, none⟩) HN.out (.int .i64 (max index limit + 1))
      have h1 := (h0.stored ((max index limit + 1).toNat * 2) (.iface 3 (.int .i64 x))).1
      have h2 := (h1.stored ((max index limit + 1).toNat * 2 + 1) (.int .i64 index)).1
      have e := stkCells_set data (max index limit + 1).toNat (x, index) (by rw [HJ.out]; exact hjl)
      simp only at e
      rw [e] at h2
      simp only [Stk.push, if_pos hml, List.length_set]
      exact h2.alloc _
    · have e0 : Stk.Cells sb (.slice (some ⟨g, 0, none⟩) data.length cap) sb := Or.inl rfl
      have e1 : Stk.Cells sb (.slice (some ⟨g, 0, none⟩) data.length cap) g := Or.inr rfl
      have o1 := (Only.refl (Stk.Cells sb (.slice (some ⟨g, 0, none⟩) data.length cap)) w).setCell (p := ⟨sb, 1, none⟩) (Or.inl e0) (.int .i64 (max index limit + 1))
      have o2 := o1.setCell (p := ⟨g, (max index limit + 1).toNat * 2, none⟩) (Or.inl e1) (.iface 3 (.int .i64 x))
      have o3 := o2.setCell (p := ⟨g, (max index limit + 1).toNat * 2 + 1, none⟩) (Or.inl e1) (.int .i64 index)
      exact (o3.alloc _).drew.drew.drew

theorem stkPush_any (w : World) (B sb : Nat) (v : Value) (s : Stk) (x : Int) (h : StkAt w B sb v s) (hok : s.Ok 2000) (hB : B ≤ w.heap.size) :
    Calls Try.prog 26 #[.pointer (some ⟨sb, 0, none⟩), .iface 3 (.int .i64 x)] w fun e w' => e = .returned (.tuple #[]) ∧ ∃ v', StkAt w' B sb v' (s.push x) ∧ NewOwn w v v' ∧ Only (Stk.Cells sb v) w w' := by
  obtain ⟨data, index, limit⟩ := s
  obtain ⟨hlen, hi0, hi1, hl0, hl1⟩ := hok
  obtain ⟨hblk, hown⟩ := h
  simp only at hlen hi0 hi1 hl0 hl1 hblk hown
  obtain ⟨ao, cap, rfl⟩ := own_slice hown
  by_cases hml : max index limit + 1 < data.length
  · obtain ⟨g, cap', hv, hBg, hgl⟩ := hown.form (by omega)
    obtain ⟨rfl, rfl⟩ : ao = some ⟨g, 0, none⟩ ∧ cap = cap' := by injection hv; exact ⟨by assumption, by assumption⟩
    exact (stkPush_set w B sb g cap data index limit x hblk hown hgl hlen hi0 hi1 hl0 hl1 hml).mono fun e w' ⟨he, hs, ho⟩ => ⟨he, _, hs, Or.inl rfl, ho⟩
  · exact stkPush_app w B sb ao cap data index limit _ x hB hblk hown hlen hi0 hi1 hl0 hl1 rfl hml
end Go.Proofs.Ytlemajapimeciaa
