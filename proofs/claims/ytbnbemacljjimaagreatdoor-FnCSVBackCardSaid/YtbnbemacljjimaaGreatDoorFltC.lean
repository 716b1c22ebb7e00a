/- Halves among other floats. -/
import Derived.Test.YtbnbemacljjimaaGreatDoorFltB
import Derived.Test.YtbnbemacljjimaaGreatDoorDecJ
namespace Go.Proofs.YtbnbemacljjimaaGreatDoor
open Go.RowKit Ieee
set_option linter.unusedVariables false

section
variable {neg : Bool} {sig u : Nat}
theorem read_half (h1 : 4503599627370496 ≤ sig) (h2 : sig < 9007199254740992) (hu : u ≤ 52) : double.read (sgnw neg (1073 - u) sig) = .number neg sig (-(u : Int) - 1) := by
  rw [read_word neg (1073 - u) sig h1 h2 (by omega)]
  congr 1
  omega

theorem half_self (h1 : 4503599627370496 ≤ sig) (h2 : sig < 9007199254740992) (hu : u ≤ 52) : FloatKind.f64.format.order (sgnw neg (1073 - u) sig) (sgnw neg (1073 - u) sig) = some .eq := by
  show (double.read _).order (double.read _) = some .eq
  rw [read_half h1 h2 hu]
  simp [Datum.order]

theorem half_hi (h1 : 4503599627370496 ≤ sig) (h2 : sig < 9007199254740992) (hu : u ≤ 52) {c sc ec : Nat} (hc : double.read c = .number false sc (ec : Int)) (hs : 4503599627370496 ≤ sc) (he : 1 ≤ ec) : FloatKind.f64.format.order (sgnw neg (1073 - u) sig) c = some .lt := by
  show (double.read _).order (double.read c) = some .lt
  rw [read_half h1 h2 hu, hc]
  simp only [Datum.order]
  have e0 : min (-(u : Int) - 1) (ec : Int) = -(u : Int) - 1 := by omega
  rw [e0]
  have e1 : (-(u : Int) - 1 - (-(u : Int) - 1)).toNat = 0 := by omega
  have e2 : ((ec : Int) - (-(u : Int) - 1)).toNat = (ec - 1) + u + 2 := by omega
  rw [e1, e2]
  have e3 : signed false sc ((ec - 1) + u + 2) = ((sc * 2 ^ ((ec - 1) + u) * 4 : Nat) : Int) := by
    show ((sc <<< ((ec - 1) + u + 2) : Nat) : Int) = _
    rw [Nat.shiftLeft_eq, Nat.pow_add, ← Nat.mul_assoc]
  have hp : sc ≤ sc * 2 ^ ((ec - 1) + u) := Nat.le_mul_of_pos_right _ (Nat.two_pow_pos _)
  have : compare (signed neg sig 0) (signed false sc ((ec - 1) + u + 2)) = .lt := by
    rw [Int.compare_eq_lt, e3]
    generalize sc * 2 ^ ((ec - 1) + u) = K at *
    unfold signed
    rw [Nat.shiftLeft_zero]
    split <;> omega
  rw [this]

theorem half_lo (h1 : 4503599627370496 ≤ sig) (h2 : sig < 9007199254740992) (hu : u ≤ 52) {c sc ec : Nat} (hc : double.read c = .number true sc (ec : Int)) (hs : 4503599627370496 ≤ sc) (he : 1 ≤ ec) : FloatKind.f64.format.order (sgnw neg (1073 - u) sig) c = some .gt := by
  show (double.read _).order (double.read c) = some .gt
  rw [read_half h1 h2 hu, hc]
  simp only [Datum.order]
  have e0 : min (-(u : Int) - 1) (ec : Int) = -(u : Int) - 1 := by omega
  rw [e0]
  have e1 : (-(u : Int) - 1 - (-(u : Int) - 1)).toNat = 0 := by omega
  have e2 : ((ec : Int) - (-(u : Int) - 1)).toNat = (ec - 1) + u + 2 := by omega
  rw [e1, e2]
  have e3 : signed true sc ((ec - 1) + u + 2) = -((sc * 2 ^ ((ec - 1) + u) * 4 : Nat) : Int) := by
    show -((sc <<< ((ec - 1) + u + 2) : Nat) : Int) = _
    rw [Nat.shiftLeft_eq, Nat.pow_add, ← Nat.mul_assoc]
  have hp : sc ≤ sc * 2 ^ ((ec - 1) + u) := Nat.le_mul_of_pos_right _ (Nat.two_pow_pos _)
  have : compare (signed neg sig 0) (signed true sc ((ec - 1) + u + 2)) = .gt := by
    rw [Int.compare_eq_gt, e3]
    generalize sc * 2 ^ ((ec - 1) + u) = K at *
    unfold signed
    rw [Nat.shiftLeft_zero]
    split <;> omega
  rw [this]

theorem half_small (h1 : 4503599627370496 ≤ sig) (h2 : sig < 9007199254740992) (hu : u ≤ 52) {c sc : Nat} (hc : double.read c = .number false sc (-72)) (hs : sc < 9007199254740992) : FloatKind.f64.format.order (sgnw false (1073 - u) sig) c = some .gt := by
  show (double.read _).order (double.read c) = some .gt
  rw [read_half h1 h2 hu, hc]
  simp only [Datum.order]
  have e0 : min (-(u : Int) - 1) (-72) = -72 := by omega
  rw [e0]
  have e1 : (-(u : Int) - 1 - -72).toNat = (70 - u) + 1 := by omega
  have e2 : ((-72 : Int) - -72).toNat = 0 := by omega
  rw [e1, e2]
  have e3 : signed false sig ((70 - u) + 1) = ((sig * 2 ^ (70 - u) * 2 : Nat) : Int) := by
    show ((sig <<< ((70 - u) + 1) : Nat) : Int) = _
    rw [Nat.shiftLeft_eq, Nat.pow_add, ← Nat.mul_assoc]
  have hp : sig ≤ sig * 2 ^ (70 - u) := Nat.le_mul_of_pos_right _ (Nat.two_pow_pos _)
  have : compare (signed false sig ((70 - u) + 1)) (signed false sc 0) = .gt := by
    rw [Int.compare_eq_gt, e3]
    generalize sig * 2 ^ (70 - u) = K at *
    unfold signed
    rw [Nat.shiftLeft_zero]
    simp
    omega
  rw [this]

theorem half_zero (h1 : 4503599627370496 ≤ sig) (h2 : sig < 9007199254740992) (hu : u ≤ 52) : FloatKind.f64.format.order (sgnw false (1073 - u) sig) 0 = some .gt := by
  show (double.read _).order (double.read 0) = some .gt
  rw [read_half h1 h2 hu, show double.read 0 = .number false 0 (-1074) by decide]
  simp only [Datum.order]
  have e0 : min (-(u : Int) - 1) (-1074) = -1074 := by omega
  rw [e0]
  have e1 : (-(u : Int) - 1 - -1074).toNat = 1073 - u := by omega
  have e2 : ((-1074 : Int) - -1074).toNat = 0 := by omega
  rw [e1, e2]
  have e3 : signed false sig (1073 - u) = ((sig * 2 ^ (1073 - u) : Nat) : Int) := by
    show ((sig <<< (1073 - u) : Nat) : Int) = _
    rw [Nat.shiftLeft_eq]
  have hp : sig ≤ sig * 2 ^ (1073 - u) := Nat.le_mul_of_pos_right _ (Nat.two_pow_pos _)
  have : compare (signed false sig (1073 - u)) (signed false 0 0) = .gt := by
    rw [Int.compare_eq_gt, e3]
    generalize sig * 2 ^ (1073 - u) = K at *
    unfold signed
    rw [Nat.shiftLeft_zero]
    simp
    omega
  rw [this]
end

theorem max_read : double.read 9218868437227405311 = .number false 9007199254740991 ((971 : Nat) : Int) := by decide
theorem min_read : double.read 18442240474082181119 = .number true 9007199254740991 ((971 : Nat) : Int) := by decide
theorem e21_read : double.read 4921056587992461136 = .number false 7629394531250000 ((17 : Nat) : Int) := by decide
theorem e6_read : double.read 4517329193108106637 = .number false 4722366482869645 (-72) := by decide

theorem bits_abs (x : Nat) (hx : x < 18446744073709551616) : bits BinOp.andNot IntKind.u64 ((x : Nat) : Int) 9223372036854775808 = ((x % 9223372036854775808 : Nat) : Int) := by
  have h1 : (BitVec.ofInt 64 (x : Int)).toNat = x := by
    rw [BitVec.ofInt_natCast, BitVec.toNat_ofNat]; exact Nat.mod_eq_of_lt (by omega)
  have h2 : (~~~ BitVec.ofInt 64 9223372036854775808).toNat = 2 ^ 63 - 1 := by decide
  show IntKind.u64.wrap ((BitVec.ofInt 64 (x : Int) &&& ~~~ BitVec.ofInt 64 9223372036854775808).toNat : Int) = _
  rw [BitVec.toNat_and, h1, h2, Nat.and_two_pow_sub_one_eq_mod, IntKind.wrap_u64]
  omega

theorem fof_run (w : World) (x : Nat) : (callFunc 117 #[.int .u64 (x : Nat)]).run Tryz.prog w = .ok (.value (.float .f64 x)) w := by
  rw [run_callFunc_extern Tryz.func117 (by kernel_rfl) (by kernel_rfl) (by kernel_rfl) (e := Extern.MathFloatBits.float64frombits) (by kernel_rfl)]
  rfl

/-- What encodeFloat64 asks of a half. -/
structure HalfSays (X Y : Nat) : Prop where
  self : FloatKind.f64.format.order X X = some .eq
  lo : FloatKind.f64.format.order X 18442240474082181119 = some .gt
  hi : FloatKind.f64.format.order X 9218868437227405311 = some .lt
  abs : X % 9223372036854775808 = Y
  lt : X < 18446744073709551616
  zero : FloatKind.f64.format.order Y 0 = some .gt
  small : FloatKind.f64.format.order Y 4517329193108106637 = some .gt
  big : FloatKind.f64.format.order Y 4921056587992461136 = some .lt

theorem half_says_all {h : Int} (hs : Sml h) : ∃ Y, HalfSays (halfBits h) Y := by
  have hb := sigOf_bounds hs.pos.1 hs.pos.2
  have hu : upOf h.natAbs ≤ 52 := by unfold upOf; omega
  rw [halfBits_eq hs]
  refine ⟨sgnw false (1073 - upOf h.natAbs) (sigOf h.natAbs), half_self hb.1 hb.2 hu, half_lo hb.1 hb.2 hu min_read (by decide) (by decide), half_hi hb.1 hb.2 hu max_read (by decide) (by decide), ?_, ?_, half_zero hb.1 hb.2 hu, half_small hb.1 hb.2 hu e6_read (by decide), half_hi hb.1 hb.2 hu e21_read (by decide) (by decide)⟩
  · unfold sgnw Format.word
    rw [d_sw]
    split <;> simp <;> omega
  · unfold sgnw Format.word
    rw [d_sw]
    split <;> omega
end Go.Proofs.YtbnbemacljjimaaGreatDoor
