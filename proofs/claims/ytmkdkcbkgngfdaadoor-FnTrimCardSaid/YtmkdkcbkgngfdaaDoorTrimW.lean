/- The doors LTrim, RTrim, Trim. -/
import Derived.Test.YtmkdkcbkgngfdaaDoorTm
import Derived.Test.YtmkdkcbkgngfdaaDoorTrimP
namespace Go.Proofs.YtmkdkcbkgngfdaaDoor
open Go.RowKit Go.Lib
set_option linter.unusedVariables false

set_option maxHeartbeats 2000000 in
set_option maxRecDepth 100000 in
theorem space_pays (w : World) : PredAt Tryd.prog 95 #[] encR sp w := fun W r _ => by
  unfold FnGives
  have e : sp r = true ↔ (r = 9 ∨ r = 10 ∨ r = 11 ∨ r = 12 ∨ r = 13 ∨ r = 32 ∨ r = 133 ∨ r = 160 ∨ r = 5760 ∨ r = 8232 ∨ r = 8233 ∨ r = 8239 ∨ r = 8287 ∨ r = 12288 ∨ (8192 ≤ r ∧ r ≤ 8202)) := by
    simp only [sp, Bool.or_eq_true, Bool.and_eq_true, decide_eq_true_eq]
    omega
  obtain ⟨b, hb⟩ : ∃ b, sp r = b := ⟨_, rfl⟩
  rw [hb] at e ⊢
  replace e := hide e
  clear hb
  go_enter Tryd.func95, Tryd.ntmps95
  go_wp2
  all_goals
    simp only [beq_iff_eq, beq_eq_false_iff_ne, ne_eq] at *
    go_ret
    refine ⟨?_, 0, rfl⟩
    have e := e.out
    cases b <;> simp at e
    all_goals first | rfl | (exfalso; omega) | (congr 2; simp; omega)
end Go.Proofs.YtmkdkcbkgngfdaaDoor
