/- The thin package's Abs and Negate of a number. -/
import Derived.Test.YtmkdkcbkgngfdaaDoorLawB
import Derived.Test.YtmkdkcbkgngfdaaDoorAbsP
namespace Go.Proofs.YtmkdkcbkgngfdaaDoor
open Go.RowKit
set_option linter.unusedVariables false

/-- A number as the program takes it. -/
def numG (h : Int) : Value := if h.tmod 2 = 0 then .iface 3 (.int .i64 (h.tdiv 2)) else .iface 66 (.float .f64 (halfBits h))

/-- What a half may be. -/
def NumOk (h : Int) : Prop := (-18014398509481984 ≤ h ∧ h ≤ 18014398509481984) ∧ (h.tmod 2 = 0 ∨ -9007199254740992 < h ∧ h < 9007199254740992)

theorem NumOk.sml {h : Int} (hn : NumOk h) (ho : ¬ h.tmod 2 = 0) : Sml h := by
  obtain ⟨h1, h2⟩ := hn
  refine ⟨by intro e; rw [e] at ho; exact ho rfl, ?_, ?_⟩ <;> (rcases h2 with h2 | h2 <;> omega)
theorem NumOk.abs {h : Int} (hn : NumOk h) : NumOk (h.natAbs : Int) := by
  obtain ⟨h1, h2⟩ := hn
  refine ⟨by omega, ?_⟩
  rcases h2 with h2 | h2
  · exact Or.inl (even_abs h2).1
  · exact Or.inr (by omega)
theorem NumOk.neg {h : Int} (hn : NumOk h) : NumOk (-h) := by
  obtain ⟨h1, h2⟩ := hn
  refine ⟨by omega, ?_⟩
  rcases h2 with h2 | h2
  · exact Or.inl (even_neg h2).1
  · exact Or.inr (by omega)

@[go_sem] theorem unary_neg_float (b : Nat) : Op.unary .neg (.float .f64 b) = pure (.float .f64 (Op.negFloat .f64 b)) := rfl

theorem f64bits_run (w : World) (b : Nat) : (callFunc 105 #[.float .f64 b]).run Tryd.prog w = .ok (.value (.int .u64 b)) w := by
  rw [run_callFunc_extern (e := Extern.MathFloatBits.float64bits) Tryd.func105 (by kernel_rfl) (by kernel_rfl) (by kernel_rfl) (by kernel_rfl)]
  rfl
theorem f64frombits_run (w : World) (b : Nat) : (callFunc 104 #[.int .u64 b]).run Tryd.prog w = .ok (.value (.float .f64 b)) w := by
  rw [run_callFunc_extern (e := Extern.MathFloatBits.float64frombits) Tryd.func104 (by kernel_rfl) (by kernel_rfl) (by kernel_rfl) (by kernel_rfl)]
  rfl

theorem mathAbs_any (w : World) (h : Int) (hs : Sml h) : Calls Tryd.prog 88 #[.float .f64 (halfBits h)] w fun e w' => e = .returned (.float .f64 (halfBits (h.natAbs : Int))) ∧ w = w' := by
  have h1 := fun w => f64bits_run w (halfBits h)
  have h2 := fun w => f64frombits_run w (halfBits (h.natAbs : Int))
  have h3 := half_abs hs
  obtain ⟨y, hy⟩ : ∃ y, y = halfBits (h.natAbs : Int) := ⟨_, rfl⟩
  obtain ⟨x, hx⟩ : ∃ x, x = halfBits h := ⟨_, rfl⟩
  rw [← hy] at h2 h3 ⊢
  rw [← hx] at h1 h3 ⊢
  clear hx hy
  replace hs := hide hs
  go_enter Tryd.func88, Tryd.ntmps88
  go_wp2
  go_ret
  exact ⟨rfl, rfl⟩

theorem negate_any (w : World) (k : Int) (hk : -1000000000000000000 ≤ k ∧ k ≤ 1000000000000000000) : Calls Tryd.prog 87 #[.int .i64 k] w fun e w' => e = .returned (.iface 3 (.int .i64 (-k))) ∧ w = w' := by
  obtain ⟨h1, h2⟩ := hk
  have hne : (k == -9223372036854775808) = false := by simp; omega
  have hw : IntKind.i64.wrap (-k) = -k := by rw [IntKind.wrap_i64]; omega
  have hw2 : IntKind.i64.wrap (0 - k) = -k := by rw [IntKind.wrap_i64]; omega
  go_enter Tryd.func87, Tryd.ntmps87
  go_wp2
  go_ret
  exact ⟨by first | rfl | simp, rfl⟩

set_option maxHeartbeats 1000000 in
theorem funcAbs_any (w : World) (h : Int) (hn : NumOk h) : Calls Tryd.prog 71 #[numG h] w fun e w' => e = .returned (numG (h.natAbs : Int)) ∧ w = w' := by
  by_cases he : h.tmod 2 = 0
  · have e1 : numG h = .iface 3 (.int .i64 (h.tdiv 2)) := if_pos he
    have e2 : numG (h.natAbs : Int) = .iface 3 (.int .i64 ((h.tdiv 2).natAbs : Int)) := by
      unfold numG
      rw [if_pos (even_abs he).1, (even_abs he).2]
    rw [e1, e2]
    have hb := even_half he
    obtain ⟨⟨n1, n2⟩, -⟩ := hn
    obtain ⟨k, hk⟩ : ∃ k, k = h.tdiv 2 := ⟨_, rfl⟩
    rw [← hk] at hb ⊢
    clear e1 e2 hk
    have k1 : -1000000000000000000 ≤ k := by omega
    have k2 : k ≤ 1000000000000000000 := by omega
    replace hb := hide hb
    by_cases hp : 0 ≤ k
    · have e3 : ((k.natAbs : Nat) : Int) = k := by omega
      rw [e3]
      clear e3
      go_enter Tryd.func71, Tryd.ntmps71
      go_wp2
      go_ret
      exact ⟨rfl, rfl⟩
    · have e3 : ((k.natAbs : Nat) : Int) = -k := by omega
      rw [e3]
      clear e3
      go_enter Tryd.func71, Tryd.ntmps71
      go_wp2_with (go_at_call 87; refine (negate_any _ k ⟨k1, k2⟩).mono ?_; rintro e w' ⟨rfl, rfl⟩)
      go_ret
      exact ⟨rfl, rfl⟩
  · have e1 : numG h = .iface 66 (.float .f64 (halfBits h)) := if_neg he
    have e2 : numG (h.natAbs : Int) = .iface 66 (.float .f64 (halfBits (h.natAbs : Int))) := if_neg (odd_abs he)
    rw [e1, e2]
    have hs := hide (hn.sml he)
    replace hn := hide hn
    clear e1 e2
    replace he := hide he
    go_enter Tryd.func71, Tryd.ntmps71
    go_wp2_with (go_at_call 88; refine (mathAbs_any _ h hs.out).mono ?_; rintro e w' ⟨rfl, rfl⟩)
    go_ret
    exact ⟨rfl, rfl⟩

set_option maxHeartbeats 1000000 in
theorem funcNeg_any (w : World) (h : Int) (hn : NumOk h) : Calls Tryd.prog 72 #[numG h] w fun e w' => e = .returned (numG (-h)) ∧ w = w' := by
  by_cases he : h.tmod 2 = 0
  · have e1 : numG h = .iface 3 (.int .i64 (h.tdiv 2)) := if_pos he
    have e2 : numG (-h) = .iface 3 (.int .i64 (-(h.tdiv 2))) := by
      unfold numG
      rw [if_pos (even_neg he).1, (even_neg he).2]
    rw [e1, e2]
    have hb := even_half he
    obtain ⟨⟨n1, n2⟩, -⟩ := hn
    obtain ⟨k, hk⟩ : ∃ k, k = h.tdiv 2 := ⟨_, rfl⟩
    rw [← hk] at hb ⊢
    clear e1 e2 hk
    have k1 : -1000000000000000000 ≤ k := by omega
    have k2 : k ≤ 1000000000000000000 := by omega
    replace hb := hide hb
    go_enter Tryd.func72, Tryd.ntmps72
    go_wp2_with (go_at_call 87; refine (negate_any _ k ⟨k1, k2⟩).mono ?_; rintro e w' ⟨rfl, rfl⟩)
    go_ret
    exact ⟨rfl, rfl⟩
  · have e1 : numG h = .iface 66 (.float .f64 (halfBits h)) := if_neg he
    have e2 : numG (-h) = .iface 66 (.float .f64 (halfBits (-h))) := if_neg (odd_neg he)
    rw [e1, e2]
    have hs := half_neg (hn.sml he)
    replace hn := hide hn
    clear e1 e2
    replace he := hide he
    obtain ⟨y, hy⟩ : ∃ y, y = halfBits (-h) := ⟨_, rfl⟩
    obtain ⟨x, hx⟩ : ∃ x, x = halfBits h := ⟨_, rfl⟩
    rw [← hy] at hs ⊢
    rw [← hx] at hs ⊢
    clear hx hy
    go_enter Tryd.func72, Tryd.ntmps72
    go_wp2
    go_ret
    exact ⟨rfl, rfl⟩
theorem numG_form (h : Int) : ∃ t u, numG h = .iface t u := by
  unfold numG
  split
  · exact ⟨_, _, rfl⟩
  · exact ⟨_, _, rfl⟩

theorem zzAbs_any (w : World) (h : Int) (hn : NumOk h) : Calls Tryd.prog 48 #[numG h] w fun e w' => e = .returned (numG (h.natAbs : Int)) ∧ w = w' := by
  have hc := hide fun w => funcAbs_any w h hn
  obtain ⟨t, u, e⟩ := numG_form h
  obtain ⟨t2, u2, e2⟩ := numG_form (h.natAbs : Int)
  rw [e, e2] at hc ⊢
  clear e e2
  go_enter Tryd.func48, Tryd.ntmps48
  go_wp2_with (go_at_call 71; refine (hc.out _).mono ?_; rintro e w' ⟨rfl, rfl⟩)
  go_ret
  exact ⟨rfl, rfl⟩

theorem zzNeg_any (w : World) (h : Int) (hn : NumOk h) : Calls Tryd.prog 49 #[numG h] w fun e w' => e = .returned (numG (-h)) ∧ w = w' := by
  have hc := hide fun w => funcNeg_any w h hn
  obtain ⟨t, u, e⟩ := numG_form h
  obtain ⟨t2, u2, e2⟩ := numG_form (-h)
  rw [e, e2] at hc ⊢
  clear e e2
  go_enter Tryd.func49, Tryd.ntmps49
  go_wp2_with (go_at_call 72; refine (hc.out _).mono ?_; rintro e w' ⟨rfl, rfl⟩)
  go_ret
  exact ⟨rfl, rfl⟩
end Go.Proofs.YtmkdkcbkgngfdaaDoor
