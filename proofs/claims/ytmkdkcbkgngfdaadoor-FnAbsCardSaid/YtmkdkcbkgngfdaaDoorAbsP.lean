/- Numbers without their sign, and with the other: the plain laws. -/
import Derived.Test.YtmkdkcbkgngfdaaDoorFltB
import Derived.Laws.BitsAllLaws
namespace Go.Proofs.YtmkdkcbkgngfdaaDoor
open Ieee
set_option linter.unusedVariables false

theorem sgnw_false (r sig : Nat) : sgnw false r sig = r * 4503599627370496 + sig := by
  unfold sgnw Format.word
  simp
theorem sgnw_true (r sig : Nat) : sgnw true r sig = 9223372036854775808 + (r * 4503599627370496 + sig) := by
  unfold sgnw Format.word
  rw [d_sw]
  simp

theorem and_low (a : Nat) : a &&& (18446744073709551615 - 9223372036854775808) = a % 9223372036854775808 := by
  have := Nat.and_two_pow_sub_one_eq_mod a 63
  exact this

theorem xor_top (a : Nat) (h : a < 9223372036854775808) : a ^^^ 9223372036854775808 = 9223372036854775808 + a := by
  have e : (9223372036854775808 : Nat) = 2 ^ 63 := rfl
  rw [e] at h ⊢
  apply Nat.eq_of_testBit_eq
  intro i
  rw [Nat.testBit_xor, Nat.testBit_two_pow]
  rcases Nat.lt_trichotomy i 63 with hi | hi | hi
  · rw [Nat.testBit_two_pow_add_gt hi]
    have : decide (63 = i) = false := by simp; omega
    rw [this]; simp
  · subst hi
    rw [Nat.testBit_two_pow_add_eq]
    simp
  · have h1 : a < 2 ^ i := Nat.lt_of_lt_of_le h (Nat.pow_le_pow_right (by decide) (by omega))
    have h2 : 2 ^ 63 + a < 2 ^ i := by
      have : 2 ^ 63 + a < 2 ^ 64 := by rw [show (2 : Nat) ^ 64 = 2 ^ 63 + 2 ^ 63 from rfl]; omega
      exact Nat.lt_of_lt_of_le this (Nat.pow_le_pow_right (by decide) (by omega))
    rw [Nat.testBit_lt_two_pow h1, Nat.testBit_lt_two_pow h2]
    have : decide (63 = i) = false := by simp; omega
    rw [this]; simp

theorem xor_top' (a : Nat) (h : a < 9223372036854775808) : (9223372036854775808 + a) ^^^ 9223372036854775808 = a := by
  rw [← xor_top a h, Nat.xor_assoc, Nat.xor_self, Nat.xor_zero]

theorem mag_lt {h : Int} (hs : Sml h) : (1073 - upOf h.natAbs) * 4503599627370496 + sigOf h.natAbs < 9223372036854775808 := by
  have := sigOf_bounds hs.pos.1 hs.pos.2
  omega

theorem Sml.neg {h : Int} (hs : Sml h) : Sml (-h) := by
  obtain ⟨a, b, c⟩ := hs
  exact ⟨by omega, by omega, by omega⟩
theorem Sml.abs {h : Int} (hs : Sml h) : Sml (h.natAbs : Int) := by
  obtain ⟨a, b, c⟩ := hs
  exact ⟨by omega, by omega, by omega⟩

theorem half_neg {h : Int} (hs : Sml h) : Op.negFloat .f64 (halfBits h) = halfBits (-h) := by
  have hm := mag_lt hs
  rw [halfBits_eq hs, halfBits_eq hs.neg, Int.natAbs_neg]
  show (sgnw (decide (h < 0)) _ _) ^^^ 9223372036854775808 = _
  obtain ⟨a, b, c⟩ := hs
  by_cases hn : h < 0
  · have e1 : decide (h < 0) = true := by simp [hn]
    have e2 : decide (-h < 0) = false := by simp; omega
    rw [e1, e2, sgnw_true, sgnw_false, xor_top' _ hm]
  · have e1 : decide (h < 0) = false := by simp [hn]
    have e2 : decide (-h < 0) = true := by simp; omega
    rw [e1, e2, sgnw_true, sgnw_false, xor_top _ hm]

theorem half_lt (h : Int) (hs : Sml h) : halfBits h < 18446744073709551616 := by
  have hm := mag_lt hs
  rw [halfBits_eq hs]
  cases decide (h < 0)
  · rw [sgnw_false]; omega
  · rw [sgnw_true]; omega

theorem half_abs {h : Int} (hs : Sml h) : bits .andNot .u64 (halfBits h : Int) 9223372036854775808 = (halfBits (h.natAbs : Int) : Int) := by
  have hm := mag_lt hs
  have := u64_andNot_nat (halfBits h) 9223372036854775808 (half_lt h hs) (by decide)
  have e : ((9223372036854775808 : Nat) : Int) = 9223372036854775808 := rfl
  rw [e] at this
  rw [this, and_low, halfBits_eq hs, halfBits_eq hs.abs]
  have e2 : decide ((h.natAbs : Int) < 0) = false := by simp
  rw [e2, sgnw_false, Int.natAbs_natCast]
  congr 1
  cases decide (h < 0)
  · rw [sgnw_false]; omega
  · rw [sgnw_true]; omega

theorem even_abs {h : Int} (e : h.tmod 2 = 0) : (h.natAbs : Int).tmod 2 = 0 ∧ (h.natAbs : Int).tdiv 2 = ((h.tdiv 2).natAbs : Int) := by
  have h1 := Int.mul_tdiv_add_tmod h 2
  have h2 := Int.mul_tdiv_add_tmod (h.natAbs : Int) 2
  have h3 := Int.tmod_nonneg 2 (show (0 : Int) ≤ (h.natAbs : Int) by omega)
  have h4 := Int.tmod_lt_of_pos (h.natAbs : Int) (show (0 : Int) < 2 by decide)
  omega
theorem even_neg {h : Int} (e : h.tmod 2 = 0) : (-h).tmod 2 = 0 ∧ (-h).tdiv 2 = -(h.tdiv 2) := by
  rw [Int.neg_tmod, Int.neg_tdiv, e]
  exact ⟨rfl, rfl⟩
theorem odd_abs {h : Int} (e : ¬ h.tmod 2 = 0) : ¬ (h.natAbs : Int).tmod 2 = 0 := by
  have h1 := Int.mul_tdiv_add_tmod h 2
  have h2 := Int.mul_tdiv_add_tmod (h.natAbs : Int) 2
  have h5 := Int.tmod_lt_of_pos h (show (0 : Int) < 2 by decide)
  have h6 : -2 < h.tmod 2 := Int.lt_tmod_of_pos h (by decide)
  omega
theorem odd_neg {h : Int} (e : ¬ h.tmod 2 = 0) : ¬ (-h).tmod 2 = 0 := by
  rw [Int.neg_tmod]
  omega
end Go.Proofs.YtmkdkcbkgngfdaaDoor
