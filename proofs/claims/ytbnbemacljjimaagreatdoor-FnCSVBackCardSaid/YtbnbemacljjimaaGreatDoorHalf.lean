/- half: a float that is a small whole number, as a value. -/
import Derived.Test.YtbnbemacljjimaaGreatDoorRes
import Derived.Test.YtbnbemacljjimaaGreatDoorFltB
import Derived.Laws.Externs
namespace Go.Proofs.YtbnbemacljjimaaGreatDoor
open Go.RowKit
set_option linter.unusedVariables false

theorem trunc_form : ∃ f : Nat → Bool → Nat → Sem Value, ∀ x : Nat, Extern.MathFloor.toIntegral "math.archTrunc" .zero #[.float .f64 x] =
    (match FloatKind.f64.decode x with
      | .nan s r => f x s r
      | d => pure (.float .f64 (FloatKind.f64.encode (d.integral .zero)))) := ⟨_, fun x => rfl⟩

theorem trunc_entry {P : Program} (w : World) (h : Int) (hs : Sml h) : (Extern.MathFloor.toIntegral "math.archTrunc" .zero #[.float .f64 (floatOfInt .f64 h)]).run P w = .ok (.float .f64 (floatOfInt .f64 h)) w := by
  have e1 : FloatKind.f64.decode (floatOfInt .f64 h) = .number (decide (h < 0)) (sigOf h.natAbs) (-(upOf h.natAbs : Int)) := read_int hs
  have e2 : FloatKind.f64.encode ((Ieee.Datum.number (decide (h < 0)) (sigOf h.natAbs) (-(upOf h.natAbs : Int))).integral .zero) = floatOfInt .f64 h := by
    rw [← e1]; exact trunc_int hs
  obtain ⟨f, hf⟩ := trunc_form
  rw [hf, e1]
  show Sem.run P (pure (Value.float .f64 (FloatKind.f64.encode ((Ieee.Datum.number (decide (h < 0)) (sigOf h.natAbs) (-(upOf h.natAbs : Int))).integral .zero)))) w = _
  rw [e2]
  rfl

theorem archTrunc_run (w : World) (h : Int) (hs : Sml h) : (callFunc 97 #[.float .f64 (floatOfInt .f64 h)]).run Tryz.prog w = .ok (.value (.float .f64 (floatOfInt .f64 h))) w := by
  rw [run_callFunc_extern (e := Extern.MathFloor.toIntegral "math.archTrunc" .zero) Tryz.func97 (by kernel_rfl) (by kernel_rfl) (by kernel_rfl) (by kernel_rfl), trunc_entry w h hs]
  rfl

theorem trunc_any (w : World) (h : Int) (hs : Sml h) : Calls Tryz.prog 89 #[.float .f64 (floatOfInt .f64 h)] w fun e w' => e = .returned (.float .f64 (floatOfInt .f64 h)) ∧ w = w' := by
  have hr := fun w => archTrunc_run w h hs
  go_enter Tryz.func89, Tryz.ntmps89
  go_wp2
  go_ret
  exact ⟨rfl, rfl⟩

set_option maxHeartbeats 1000000 in
set_option maxRecDepth 100000 in
theorem half_any (w : World) (h : Int) (hs : Sml h) : Calls Tryz.prog 67 #[.float .f64 (floatOfInt .f64 h)] w fun e w' => e = .returned (.tuple #[.agg #[.int .i64 3, .int .i64 h, .string ⟨#[]⟩, .slice none 0 0, .slice none 0 0, .slice none 0 0], .bool true]) ∧ Below w.heap.size w w' := by
  have h1 := order_self hs
  have h2 := order_big hs
  have h3 := order_low hs
  have hc : ∀ W : World, (convert 82 3 (.float .f64 (floatOfInt .f64 h))).run Tryz.prog W = .ok (.int .i64 h) W := fun W => run_convert_float_int W 82 3 .f64 .i64 _ h (by kernel_rfl) Tryz.underlying3 (toInt_int hs)
  obtain ⟨x, hx⟩ : ∃ x, x = floatOfInt .f64 h := ⟨_, rfl⟩
  have ht : ∀ W, Calls Tryz.prog 89 #[.float .f64 x] W fun e w' => e = .returned (.float .f64 x) ∧ W = w' := by rw [hx]; exact fun W => trunc_any W h hs
  rw [← hx] at h1 h2 h3 hc ⊢
  clear hx
  replace hs := hide hs
  replace ht := hide ht
  go_enter Tryz.func67, Tryz.ntmps67
  go_wp2_with (go_at_call 89; refine (ht.out _).mono ?_; rintro e W2 ⟨rfl, rfl⟩)
  exact bodyPost_ret (v := .tuple #[.agg #[.int .i64 3, .int .i64 h, .string ⟨#[]⟩, .slice none 0 0, .slice none 0 0, .slice none 0 0], .bool true]) (by simp [results, Tryz.results67, go_sem]) rfl ⟨rfl, (Below.refl _ _).alloc (Nat.le_refl _) _⟩
end Go.Proofs.YtbnbemacljjimaaGreatDoor
