/- What a statement asks of an answer: that it is an error, or a value. -/
import Derived.Test.YtbnbemacljjimaaGreatDoorByte
namespace Go.Proofs.YtbnbemacljjimaaGreatDoor
open Go.RowKit
set_option linter.unusedVariables false

theorem zero_say (n : Nat) : Say (n + 1) zeroJ :=
  ⟨by decide, Or.inr rfl, Or.inr (by show (⟨#[]⟩ : ByteArray).toList = []; rw [ByteArray.toList_eq]), Or.inr rfl, Or.inr rfl, rfl, by decide, by decide, by decide, by decide, by intro x hx; exact absurd hx (List.not_mem_nil), by intro i a b h; simp [zeroJ, JV.keys] at h, by intro x hx; exact absurd hx (List.not_mem_nil), by intro x hx; exact absurd hx (List.not_mem_nil), by show (⟨#[]⟩ : ByteArray).size ≤ 9223372036854775807; decide⟩

theorem num_say (n : Nat) (h : Int) (h1 : -18014398509481984 ≤ h ∧ h ≤ 18014398509481984) (h2 : h.tmod 2 = 0 ∨ -9007199254740992 < h ∧ h < 9007199254740992) : Say (n + 1) (numJ h) :=
  ⟨by show (0 : Int) ≤ 3 ∧ (3 : Int) ≤ 6; decide, Or.inl rfl, Or.inr (by show (⟨#[]⟩ : ByteArray).toList = []; rw [ByteArray.toList_eq]), Or.inr rfl, Or.inr rfl, rfl, h1, h2, Nat.zero_le _, Nat.zero_le _, by intro x hx; exact absurd hx (List.not_mem_nil), by intro i a b h; simp [numJ, JV.keys] at h, by intro x hx; exact absurd hx (List.not_mem_nil), by intro x hx; exact absurd hx (List.not_mem_nil), by show (⟨#[]⟩ : ByteArray).size ≤ 9223372036854775807; decide⟩

end Go.Proofs.YtbnbemacljjimaaGreatDoor
