/- The machine's stack of values: what a pop gives. -/
import Derived.Test.YtlemajapimeciaaForkA
namespace Go.Proofs.Ytlemajapimeciaa
open Go.RowKit
set_option linter.unusedVariables false

set_option maxHeartbeats 1000000 in
theorem stkPop_any (w : World) (B sb N : Nat) (v : Value) (s : Stk) (h : StkAt w B sb v s) (hok : s.Ok N) (hN : N ≤ 2000) (hi : 0 ≤ s.index) :
    Calls Try.prog 27 #[.pointer (some ⟨sb, 0, none⟩)] w fun e w' => e = .returned (.iface 3 (.int .i64 s.top.1)) ∧ StkAt w' B sb v s.pop ∧ Only (· = sb) w w' := by
  obtain ⟨data, index, limit⟩ := s
  obtain ⟨hlen, -, hi1, -, -⟩ := hok
  simp only at hlen hi1 hi
  obtain ⟨j, rfl⟩ : ∃ j : Nat, index = j := ⟨index.toNat, by omega⟩
  have hblk := h.blk
  have hown := h.own
  simp only at hblk hown
  have hbs := hblk.lt
  have hjl : j < data.length := by omega
  obtain ⟨x, hx⟩ : ∃ x, data[j]? = some x := ⟨_, List.getElem?_eq_getElem hjl⟩
  obtain ⟨g, cap, rfl, hBg, hgl⟩ := hown.form (by omega)
  have hnb := own_blk_ne hown hblk (by decide)
  have c0 := hblk.cell 0
  have c1 := hblk.cell 1
  have f1 := hblk.frozen 1
  simp at c0 c1
  obtain ⟨a0, a1⟩ := stkCells_at data j x hx
  rw [← hown.cellAt (j * 2) (by omega)] at a0
  rw [← hown.cellAt (j * 2 + 1) (by omega)] at a1
  have htop : Hid ((Stk.mk data j limit).top = x) := by show _ = _; simp [Stk.top, hx]
  clear hx
  have HB := Lib.hid hblk
  have HO := Lib.hid hown
  have HN := Lib.hid hnb
  clear hblk hown hnb h
  go_enter Try.func27, Try.ntmps27
  go_wp2
  go_region
  all_goals
    go_wp2
    go_ret
    refine ⟨by rw [htop.out]; rfl, ⟨?_, ?_⟩, ?_⟩
    · have h2 : Blk (w.setCell ⟨sb, 1, none⟩ (.int .i64 x.2)) sb 77 #[.slice (some ⟨g, 0, none⟩) data.length cap, .int .i64 x.2, .int .i64 limit] := by simpa using HB.out.set_ 1 (.int .i64 x.2)
      simp only [Stk.pop, htop.out]
      exact (h2.alloc _).drew
    · exact (ownsRow_setCell_other HO.out HN.out _).alloc _
    · exact (((Only.refl (fun x => x = sb) w).setCell (p := ⟨sb, 1, none⟩) (Or.inl rfl) _).alloc _).drew
end Go.Proofs.Ytlemajapimeciaa
