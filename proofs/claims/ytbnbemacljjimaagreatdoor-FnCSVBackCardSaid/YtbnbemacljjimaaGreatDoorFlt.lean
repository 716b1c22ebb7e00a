/- Halves as floats: the plain laws. -/
import Derived.Laws.FloatArith
namespace Go.Proofs.YtbnbemacljjimaaGreatDoor
open Ieee

theorem read_small (s : Bool) (r : Nat) (hr : r ≤ double.infRung) : ∀ neg fr, double.read (double.word s r) ≠ .nan neg fr := by
  intro neg fr
  have hi : double.infRung = 9218868437227405312 := by decide
  have hw : double.signWeight = 9223372036854775808 := by decide
  have hb : double.binade = 4503599627370496 := by decide
  have h1 : double.word s r % double.signWeight = r := by
    unfold Format.word
    split <;> rw [hw] <;> omega
  unfold Format.read
  simp only [h1]
  split
  · simp
  · split
    · simp
    · split
      · simp
      · omega

theorem read_nearest (s : Bool) (m : Nat) (p : Int) : ∀ neg fr, double.read (double.nearest s m p) ≠ .nan neg fr := by
  unfold Format.nearest
  split
  · exact read_small s 0 (Nat.zero_le _)
  · exact read_small s _ (Nat.min_le_right _ _)

theorem two_read : double.read 4611686018427387904 = .number false 4503599627370496 (-51) := by decide

theorem half_bits (h : Int) : ∃ r, floatBits .quo .f64 (floatOfInt .f64 h) 4611686018427387904 = some r := by
  show ∃ r, double.div (double.nearest (h < 0) h.natAbs 0) 4611686018427387904 = some r
  unfold Format.div
  rw [two_read]
  have hn := read_nearest (h < 0) h.natAbs 0
  cases hd : double.read (double.nearest (h < 0) h.natAbs 0) with
  | number s m e => simp [Datum.quotient]
  | infinity s => simp [Datum.quotient]
  | nan s f => exact absurd hd (hn s f)

/-- A half as a float's bits. -/
def halfBits (h : Int) : Nat := (floatBits .quo .f64 (floatOfInt .f64 h) 4611686018427387904).getD 0
theorem half_eq (h : Int) : floatBits .quo .f64 (floatOfInt .f64 h) 4611686018427387904 = some (halfBits h) := by
  obtain ⟨r, hr⟩ := half_bits h
  unfold halfBits
  rw [hr]
  rfl
end Go.Proofs.YtbnbemacljjimaaGreatDoor
