/- Halves as floats, exactly: twice a half's float is the float of the whole, which is what it was when made whole. -/
import Derived.Test.YtbnbemacljjimaaGreatDoorFlt
namespace Go.Proofs.YtbnbemacljjimaaGreatDoor
open Ieee

def sgnw (neg : Bool) (r sig : Nat) : Nat := double.word neg (r * 4503599627370496 + sig)

theorem d_sw : double.signWeight = 9223372036854775808 := by decide
theorem d_bin : double.binade = 4503599627370496 := by decide
theorem d_inf : double.infRung = 9218868437227405312 := by decide
theorem d_lp : double.leastPlace = -1074 := by decide
theorem d_fb : double.fractionBits = 52 := rfl

theorem read_word (neg : Bool) (r sig : Nat) (h1 : 4503599627370496 ≤ sig) (h2 : sig < 9007199254740992) (hr : r ≤ 2000) : double.read (sgnw neg r sig) = .number neg sig ((r : Int) - 1074) := by
  have e1 : sgnw neg r sig % double.signWeight = r * 4503599627370496 + sig := by
    unfold sgnw Format.word
    rw [d_sw]
    split <;> omega
  have e2 : (sgnw neg r sig / double.signWeight % 2 == 1) = neg := by
    unfold sgnw Format.word
    rw [d_sw]
    cases neg
    · simp
      omega
    · simp
      omega
  unfold Format.read
  simp only [e1, e2, d_bin, d_inf, d_lp]
  rw [if_neg (by omega), if_pos (by omega)]
  have e3 : (r * 4503599627370496 + sig) % 4503599627370496 = sig - 4503599627370496 := by omega
  have e4 : (r * 4503599627370496 + sig) / 4503599627370496 = r + 1 := by omega
  rw [e3, e4]
  have e5 : 4503599627370496 + (sig - 4503599627370496) = sig := by omega
  rw [e5]
  have e6 : (-1074 : Int) + ((r + 1 - 1 : Nat) : Int) = (r : Int) - 1074 := by omega
  rw [e6]

theorem min_word (r sig : Nat) (hr : r ≤ 2000) (hs : sig < 9007199254740992) : min (r * 4503599627370496 + sig) 9218868437227405312 = r * 4503599627370496 + sig := by omega

theorem log2_bounds {m k : Nat} (h1 : 2 ^ k ≤ m) (h2 : m < 2 ^ (k + 1)) : m.log2 = k := by
  have hm : m ≠ 0 := by have := Nat.two_pow_pos k; omega
  have a := Nat.log2_lt hm (k := k + 1)
  have b := Nat.le_log2 hm (k := k)
  have := a.2 h2
  have := b.2 h1
  omega

theorem cut_exact (neg : Bool) (sig k : Nat) (hk : k ≤ (sig * 2 ^ k).log2 + 2) (way : Toward) (hw : way = .even ∨ way = .zero) : way.cut neg (sig * 2 ^ k) k = sig := by
  unfold Toward.cut
  have e : min k ((sig * 2 ^ k).log2 + 2) = k := by omega
  have hp := Nat.two_pow_pos k
  simp only [e, Nat.one_shiftLeft, Nat.mul_div_cancel _ hp, Nat.mul_mod_left]
  rcases hw with rfl | rfl
  · have h1 : decide (2 ^ k < 2 * 0) = false := by simp
    have h2 : ((2 ^ k == 2 * 0) && sig % 2 == 1) = false := by
      have : (2 ^ k == 2 * 0) = false := by simp
      rw [this]; rfl
    simp
  · simp

theorem log2_sig (sig k : Nat) (h1 : 4503599627370496 ≤ sig) (h2 : sig < 9007199254740992) : (sig * 2 ^ k).log2 = 52 + k := by
  refine log2_bounds ?_ ?_
  · rw [Nat.pow_add]
    exact Nat.mul_le_mul_right _ h1
  · rw [show 52 + k + 1 = 53 + k by omega, Nat.pow_add]
    exact (Nat.mul_lt_mul_right (Nat.two_pow_pos k)).2 h2

theorem nearest_exact (neg : Bool) (sig k : Nat) (place : Int) (h1 : 4503599627370496 ≤ sig) (h2 : sig < 9007199254740992) (p1 : -1000 ≤ place + k) (p2 : place + k ≤ 900) :
    double.nearest neg (sig * 2 ^ k) place = sgnw neg (place + k + 1074).toNat sig := by
  have hl := log2_sig sig k h1 h2
  have hm : sig * 2 ^ k ≠ 0 := by have := Nat.two_pow_pos k; exact Nat.mul_ne_zero (by omega) (by omega)
  unfold Format.nearest
  rw [if_neg hm]
  simp only [hl, d_fb, d_lp, d_bin, d_inf]
  have e1 : max (place + ((52 + k : Nat) : Int) - (52 : Nat)) (-1074) = place + k := by omega
  rw [e1]
  have e2 : (place - (place + (k : Int))).toNat = 0 := by omega
  have e3 : (place + (k : Int) - place).toNat = k := by omega
  have e4 : place + (k : Int) - -1074 = place + k + 1074 := by omega
  rw [e2, e3, Nat.shiftLeft_zero, cut_exact neg sig k (by rw [hl]; omega) .even (Or.inl rfl), e4]
  have e5 : min ((place + (k : Int) + 1074).toNat * 4503599627370496 + sig) 9218868437227405312 = (place + (k : Int) + 1074).toNat * 4503599627370496 + sig := by omega
  rw [e5, sgnw]

/-- The digits of a small whole number, and where they stand. -/
def sigOf (m : Nat) : Nat := m * 2 ^ (52 - m.log2)
def upOf (m : Nat) : Nat := 52 - m.log2

theorem log2_le {m : Nat} (h0 : 0 < m) (h : m < 9007199254740992) : m.log2 ≤ 52 := by
  have := (Nat.log2_lt (by omega) (k := 53)).2 h
  omega

theorem sigOf_bounds {m : Nat} (h0 : 0 < m) (h : m < 9007199254740992) : 4503599627370496 ≤ sigOf m ∧ sigOf m < 9007199254740992 := by
  have hl := log2_le h0 h
  have h1 : 2 ^ m.log2 ≤ m := Nat.log2_self_le (by omega)
  have h2 : m < 2 ^ (m.log2 + 1) := Nat.lt_log2_self
  have hp := Nat.two_pow_pos (52 - m.log2)
  have e1 : 2 ^ m.log2 * 2 ^ (52 - m.log2) = 4503599627370496 := by rw [← Nat.pow_add, show m.log2 + (52 - m.log2) = 52 by omega]
  have e2 : 2 ^ (m.log2 + 1) * 2 ^ (52 - m.log2) = 9007199254740992 := by rw [← Nat.pow_add, show m.log2 + 1 + (52 - m.log2) = 53 by omega]
  unfold sigOf
  refine ⟨?_, ?_⟩
  · rw [← e1]; exact Nat.mul_le_mul_right _ h1
  · rw [← e2]; exact (Nat.mul_lt_mul_right hp).2 h2

theorem small_last (m : Nat) (hl : m.log2 ≤ 52) : max ((0 : Int) + (m.log2 : Int) - ((52 : Nat) : Int)) (-1074) = (m.log2 : Int) - 52 := by omega
theorem small_up (m : Nat) (hl : m.log2 ≤ 52) : ((0 : Int) - ((m.log2 : Int) - 52)).toNat = 52 - m.log2 := by omega
theorem small_drop (m : Nat) (hl : m.log2 ≤ 52) : ((m.log2 : Int) - 52 - 0).toNat = 0 := by omega
theorem small_place (m : Nat) (hl : m.log2 ≤ 52) : ((m.log2 : Int) - 52 - -1074).toNat = 1074 - upOf m := by unfold upOf; omega
theorem nearest_small (neg : Bool) {m : Nat} (h0 : 0 < m) (h : m < 9007199254740992) : double.nearest neg m 0 = sgnw neg (1074 - upOf m) (sigOf m) := by
  have hl := log2_le h0 h
  have hb := sigOf_bounds h0 h
  have e6 := cut_exact neg (sigOf m) 0 (Nat.zero_le _) .even (Or.inl rfl)
  rw [Nat.pow_zero, Nat.mul_one] at e6
  have e7 : m <<< (52 - m.log2) = sigOf m := by rw [sigOf, Nat.shiftLeft_eq]
  have e5 := min_word (1074 - upOf m) (sigOf m) (by omega) hb.2
  unfold Format.nearest
  rw [if_neg (by omega)]
  simp only [d_fb, d_lp, d_bin, d_inf, small_last m hl, small_up m hl, small_drop m hl, small_place m hl, e7, e6, e5]
  rw [sgnw]

theorem read_small' (neg : Bool) {m : Nat} (h0 : 0 < m) (h : m < 9007199254740992) : double.read (double.nearest neg m 0) = .number neg (sigOf m) (-(upOf m : Int)) := by
  have hb := sigOf_bounds h0 h
  have hl := log2_le h0 h
  rw [nearest_small neg h0 h, read_word neg _ _ hb.1 hb.2 (by omega)]
  have e7 : ((1074 - upOf m : Nat) : Int) - 1074 = -(upOf m : Int) := by unfold upOf; omega
  rw [e7]

theorem quot_two (neg : Bool) (sig : Nat) (e : Int) (h1 : 4503599627370496 ≤ sig) (h2 : sig < 9007199254740992) : (Datum.number neg sig e).quotient 54 (.number false 4503599627370496 (-51)) = some (.number neg (sig * 2 ^ 3) (e - 4)) := by
  have hlog : sig.log2 = 52 := by have := log2_sig sig 0 h1 h2; simpa using this
  have hlog2 : (4503599627370496 : Nat).log2 = 52 := by decide
  have e1 : sig <<< 54 = (sig * 4) * 4503599627370496 := by rw [Nat.shiftLeft_eq]; omega
  have e2 : sig * 4 * 4503599627370496 / 4503599627370496 = sig * 4 := Nat.mul_div_cancel _ (by decide)
  have e3 : sig * 4 * 4503599627370496 % 4503599627370496 = 0 := Nat.mul_mod_left _ _
  have e4 : (54 + 52 - 52 : Nat) = 54 := by decide
  simp only [Datum.quotient, hlog, hlog2, e4, e1, e2, e3]
  rw [if_neg (by decide)]
  have e5 : 2 * (sig * 4) + (0 != 0).toNat = sig * 2 ^ 3 := by simp; omega
  have e6 : e - -51 - ((54 : Nat) : Int) - 1 = e - 4 := by omega
  rw [e5, e6, Bool.xor_false]

/-- A half's digits stand one place lower. -/
theorem half_word (neg : Bool) {m : Nat} (h0 : 0 < m) (h : m < 9007199254740992) : double.div (double.nearest neg m 0) 4611686018427387904 = some (sgnw neg (1073 - upOf m) (sigOf m)) := by
  have hb := sigOf_bounds h0 h
  have hl := log2_le h0 h
  unfold Format.div
  rw [read_small' neg h0 h, two_read, show double.fractionBits + 2 = 54 from rfl, quot_two neg _ _ hb.1 hb.2]
  simp only [Option.map_some, Format.write]
  rw [nearest_exact neg (sigOf m) 3 _ hb.1 hb.2 (by unfold upOf; omega) (by unfold upOf; omega)]
  have e7 : (-(upOf m : Int) - 4 + (3 : Nat) + 1074).toNat = 1073 - upOf m := by unfold upOf; omega
  rw [e7]

theorem twice_word (neg : Bool) {m : Nat} (h0 : 0 < m) (h : m < 9007199254740992) : double.mul 4611686018427387904 (sgnw neg (1073 - upOf m) (sigOf m)) = some (double.nearest neg m 0) := by
  have hb := sigOf_bounds h0 h
  have hl := log2_le h0 h
  unfold Format.mul
  rw [two_read, read_word neg _ _ hb.1 hb.2 (by omega)]
  simp only [Datum.product, Option.map_some, Format.write, Bool.false_xor]
  have e4 : 4503599627370496 * sigOf m = sigOf m * 2 ^ 52 := by omega
  rw [e4, nearest_exact neg (sigOf m) 52 _ hb.1 hb.2 (by unfold upOf; omega) (by unfold upOf; omega), nearest_small neg h0 h]
  have e7 : ((-51 : Int) + (((1073 - upOf m : Nat) : Int) - 1074) + (52 : Nat) + 1074).toNat = 1074 - upOf m := by unfold upOf; omega
  rw [e7]

/-- A small number that is not nought. -/
def Sml (h : Int) : Prop := h ≠ 0 ∧ -9007199254740992 < h ∧ h < 9007199254740992

theorem Sml.pos {h : Int} (hs : Sml h) : 0 < h.natAbs ∧ h.natAbs < 9007199254740992 := by
  obtain ⟨h0, h1, h2⟩ := hs
  omega

theorem floatOfInt_eq (h : Int) : floatOfInt .f64 h = double.nearest (h < 0) h.natAbs 0 := rfl

theorem halfBits_eq {h : Int} (hs : Sml h) : halfBits h = sgnw (decide (h < 0)) (1073 - upOf h.natAbs) (sigOf h.natAbs) := by
  have e := half_eq h
  have := half_word (decide (h < 0)) hs.pos.1 hs.pos.2
  have e2 : floatBits .quo .f64 (floatOfInt .f64 h) 4611686018427387904 = double.div (double.nearest (h < 0) h.natAbs 0) 4611686018427387904 := rfl
  rw [e2, this] at e
  exact (Option.some.inj e).symm

theorem twice_half {h : Int} (hs : Sml h) : floatBits .mul .f64 4611686018427387904 (halfBits h) = some (floatOfInt .f64 h) := by
  rw [halfBits_eq hs]
  exact twice_word _ hs.pos.1 hs.pos.2

theorem read_int {h : Int} (hs : Sml h) : double.read (floatOfInt .f64 h) = .number (decide (h < 0)) (sigOf h.natAbs) (-(upOf h.natAbs : Int)) := read_small' _ hs.pos.1 hs.pos.2

theorem integral_int {h : Int} (hs : Sml h) : (double.read (floatOfInt .f64 h)).integral .zero = .number (decide (h < 0)) h.natAbs 0 := by
  rw [read_int hs]
  have hl := log2_le hs.pos.1 hs.pos.2
  simp only [Datum.integral]
  have e1 : (-(upOf h.natAbs : Int)).toNat = 0 := by omega
  have e2 : (- -(upOf h.natAbs : Int)).toNat = upOf h.natAbs := by omega
  rw [e1, e2, Nat.shiftLeft_zero]
  have e3 := cut_exact (decide (h < 0)) h.natAbs (upOf h.natAbs) (by
    have := (log2_sig (sigOf h.natAbs) 0 (sigOf_bounds hs.pos.1 hs.pos.2).1 (sigOf_bounds hs.pos.1 hs.pos.2).2)
    have e : h.natAbs * 2 ^ upOf h.natAbs = sigOf h.natAbs * 2 ^ 0 := by simp [sigOf, upOf]
    rw [e, this]; unfold upOf; omega) .zero (Or.inr rfl)
  have e4 : sigOf h.natAbs = h.natAbs * 2 ^ upOf h.natAbs := rfl
  rw [e4, e3]

theorem trunc_int {h : Int} (hs : Sml h) : FloatKind.f64.encode ((double.read (floatOfInt .f64 h)).integral .zero) = floatOfInt .f64 h := by
  rw [integral_int hs]
  rfl

theorem toInt_int {h : Int} (hs : Sml h) : floatToIntVal .f64 (floatOfInt .f64 h) .i64 = some h := by
  have e : (FloatKind.f64.decode (floatOfInt .f64 h)).toInt .zero = some h := by
    show (double.read (floatOfInt .f64 h)).toInt .zero = some h
    unfold Datum.toInt
    rw [integral_int hs]
    simp only [signed, Nat.shiftLeft_zero]
    obtain ⟨h0, h1, h2⟩ := hs
    by_cases hn : h < 0
    · simp [hn]; omega
    · simp [hn]; omega
  unfold floatToIntVal
  rw [e]
  obtain ⟨h0, h1, h2⟩ := hs
  have m1 : IntKind.i64.min = -9223372036854775808 := by decide
  have m2 : IntKind.i64.max = 9223372036854775807 := by decide
  simp only [m1, m2]
  rw [if_pos (by omega)]

theorem order_self {h : Int} (hs : Sml h) : FloatKind.f64.format.order (floatOfInt .f64 h) (floatOfInt .f64 h) = some .eq := by
  show (double.read (floatOfInt .f64 h)).order (double.read (floatOfInt .f64 h)) = some .eq
  rw [read_int hs]
  simp [Datum.order]

theorem big_read : double.read 4886405595696988160 = .number false 4503599627370496 10 := by decide
theorem low_read : double.read 14109777632551763968 = .number true 4503599627370496 10 := by decide

theorem sig_small {h : Int} (hs : Sml h) (neg : Bool) (k : Nat) : signed neg (sigOf h.natAbs) 0 < (4503599627370496 <<< (10 + k) : Nat) ∧ -((4503599627370496 <<< (10 + k) : Nat) : Int) < signed neg (sigOf h.natAbs) 0 := by
  have hb := sigOf_bounds hs.pos.1 hs.pos.2
  have hp := Nat.two_pow_pos k
  have e : (4503599627370496 <<< (10 + k) : Nat) = 4611686018427387904 * 2 ^ k := by rw [Nat.shiftLeft_eq, Nat.pow_add, ← Nat.mul_assoc]
  have hge : 4611686018427387904 ≤ 4611686018427387904 * 2 ^ k := Nat.le_mul_of_pos_right _ hp
  rw [e]
  unfold signed
  rw [Nat.shiftLeft_zero]
  split <;> omega

theorem order_big {h : Int} (hs : Sml h) : FloatKind.f64.format.order (floatOfInt .f64 h) 4886405595696988160 = some .lt := by
  show (double.read (floatOfInt .f64 h)).order (double.read 4886405595696988160) = some .lt
  rw [read_int hs, big_read]
  simp only [Datum.order]
  have e0 : min (-(upOf h.natAbs : Int)) 10 = -(upOf h.natAbs : Int) := by omega
  rw [e0]
  have e1 : (-(upOf h.natAbs : Int) - -(upOf h.natAbs : Int)).toNat = 0 := by omega
  have e2 : ((10 : Int) - -(upOf h.natAbs : Int)).toNat = 10 + upOf h.natAbs := by omega
  rw [e1, e2]
  have := (sig_small hs (decide (h < 0)) (upOf h.natAbs)).1
  have e3 : signed false 4503599627370496 (10 + upOf h.natAbs) = ((4503599627370496 <<< (10 + upOf h.natAbs) : Nat) : Int) := rfl
  rw [e3]
  have : compare (signed (decide (h < 0)) (sigOf h.natAbs) 0) ((4503599627370496 <<< (10 + upOf h.natAbs) : Nat) : Int) = .lt := by
    rw [Int.compare_eq_lt]; exact this
  rw [this]

theorem order_low {h : Int} (hs : Sml h) : FloatKind.f64.format.order (floatOfInt .f64 h) 14109777632551763968 = some .gt := by
  show (double.read (floatOfInt .f64 h)).order (double.read 14109777632551763968) = some .gt
  rw [read_int hs, low_read]
  simp only [Datum.order]
  have e0 : min (-(upOf h.natAbs : Int)) 10 = -(upOf h.natAbs : Int) := by omega
  rw [e0]
  have e1 : (-(upOf h.natAbs : Int) - -(upOf h.natAbs : Int)).toNat = 0 := by omega
  have e2 : ((10 : Int) - -(upOf h.natAbs : Int)).toNat = 10 + upOf h.natAbs := by omega
  rw [e1, e2]
  have := (sig_small hs (decide (h < 0)) (upOf h.natAbs)).2
  have e3 : signed true 4503599627370496 (10 + upOf h.natAbs) = -((4503599627370496 <<< (10 + upOf h.natAbs) : Nat) : Int) := rfl
  rw [e3]
  have : compare (signed (decide (h < 0)) (sigOf h.natAbs) 0) (-((4503599627370496 <<< (10 + upOf h.natAbs) : Nat) : Int)) = .gt := by
    rw [Int.compare_eq_gt]; exact this
  rw [this]
end Go.Proofs.YtbnbemacljjimaaGreatDoor
