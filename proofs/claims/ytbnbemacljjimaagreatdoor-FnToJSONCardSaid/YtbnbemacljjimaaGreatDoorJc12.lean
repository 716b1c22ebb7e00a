/- Halves among other floats. -/
import Derived.Test.YtbnbemacljjimaaGreatDoorJc03
import Derived.Test.YtbnbemacljjimaaGreatDoorJc11
import Derived.Test.YtbnbemacljjimaaGreatDoorJc09
import Derived.Test.YtbnbemacljjimaaGreatDoorJc04
import Derived.Laws.MakeOwn
namespace Go.Proofs.YtbnbemacljjimaaGreatDoor
open Go.RowKit Ieee
set_option linter.unusedVariables false

section
variable {neg : Bool} {sig u : Nat}
theorem read_half (h1 : 4503599627370496 ≤ sig) (h2 : sig < 9007199254740992) (hu : u ≤ 52) : double.read (sgnw neg (1073 - u) sig) = .number neg sig (-(u : Int) - 1) := by
  rw [read_word neg (1073 - u) sig h1 h2 (by omega)]
  congr 1
  omega

theorem half_self (h1 : 4503599627370496 ≤ sig) (h2 : sig < 9007199254740992) (hu : u ≤ 52) : FloatKind.f64.format.order (sgnw neg (1073 - u) sig) (sgnw neg (1073 - u) sig) = some .eq := by
  show (double.read _).order (double.read _) = some .eq
  rw [read_half h1 h2 hu]
  simp [Datum.order]

theorem half_hi (h1 : 4503599627370496 ≤ sig) (h2 : sig < 9007199254740992) (hu : u ≤ 52) {c sc ec : Nat} (hc : double.read c = .number false sc (ec : Int)) (hs : 4503599627370496 ≤ sc) (he : 1 ≤ ec) : FloatKind.f64.format.order (sgnw neg (1073 - u) sig) c = some .lt := by
  show (double.read _).order (double.read c) = some .lt
  rw [read_half h1 h2 hu, hc]
  simp only [Datum.order]
  have e0 : min (-(u : Int) - 1) (ec : Int) = -(u : Int) - 1 := by omega
  rw [e0]
  have e1 : (-(u : Int) - 1 - (-(u : Int) - 1)).toNat = 0 := by omega
  have e2 : ((ec : Int) - (-(u : Int) - 1)).toNat = (ec - 1) + u + 2 := by omega
  rw [e1, e2]
  have e3 : signed false sc ((ec - 1) + u + 2) = ((sc * 2 ^ ((ec - 1) + u) * 4 : Nat) : Int) := by
    show ((sc <<< ((ec - 1) + u + 2) : Nat) : Int) = _
    rw [Nat.shiftLeft_eq, Nat.pow_add, ← Nat.mul_assoc]
  have hp : sc ≤ sc * 2 ^ ((ec - 1) + u) := Nat.le_mul_of_pos_right _ (Nat.two_pow_pos _)
  have : compare (signed neg sig 0) (signed false sc ((ec - 1) + u + 2)) = .lt := by
    rw [Int.compare_eq_lt, e3]
    generalize sc * 2 ^ ((ec - 1) + u) = K at *
    unfold signed
    rw [Nat.shiftLeft_zero]
    split <;> omega
  rw [this]

theorem half_lo (h1 : 4503599627370496 ≤ sig) (h2 : sig < 9007199254740992) (hu : u ≤ 52) {c sc ec : Nat} (hc : double.read c = .number true sc (ec : Int)) (hs : 4503599627370496 ≤ sc) (he : 1 ≤ ec) : FloatKind.f64.format.order (sgnw neg (1073 - u) sig) c = some .gt := by
  show (double.read _).order (double.read c) = some .gt
  rw [read_half h1 h2 hu, hc]
  simp only [Datum.order]
  have e0 : min (-(u : Int) - 1) (ec : Int) = -(u : Int) - 1 := by omega
  rw [e0]
  have e1 : (-(u : Int) - 1 - (-(u : Int) - 1)).toNat = 0 := by omega
  have e2 : ((ec : Int) - (-(u : Int) - 1)).toNat = (ec - 1) + u + 2 := by omega
  rw [e1, e2]
  have e3 : signed true sc ((ec - 1) + u + 2) = -((sc * 2 ^ ((ec - 1) + u) * 4 : Nat) : Int) := by
    show -((sc <<< ((ec - 1) + u + 2) : Nat) : Int) = _
    rw [Nat.shiftLeft_eq, Nat.pow_add, ← Nat.mul_assoc]
  have hp : sc ≤ sc * 2 ^ ((ec - 1) + u) := Nat.le_mul_of_pos_right _ (Nat.two_pow_pos _)
  have : compare (signed neg sig 0) (signed true sc ((ec - 1) + u + 2)) = .gt := by
    rw [Int.compare_eq_gt, e3]
    generalize sc * 2 ^ ((ec - 1) + u) = K at *
    unfold signed
    rw [Nat.shiftLeft_zero]
    split <;> omega
  rw [this]

theorem half_small (h1 : 4503599627370496 ≤ sig) (h2 : sig < 9007199254740992) (hu : u ≤ 52) {c sc : Nat} (hc : double.read c = .number false sc (-72)) (hs : sc < 9007199254740992) : FloatKind.f64.format.order (sgnw false (1073 - u) sig) c = some .gt := by
  show (double.read _).order (double.read c) = some .gt
  rw [read_half h1 h2 hu, hc]
  simp only [Datum.order]
  have e0 : min (-(u : Int) - 1) (-72) = -72 := by omega
  rw [e0]
  have e1 : (-(u : Int) - 1 - -72).toNat = (70 - u) + 1 := by omega
  have e2 : ((-72 : Int) - -72).toNat = 0 := by omega
  rw [e1, e2]
  have e3 : signed false sig ((70 - u) + 1) = ((sig * 2 ^ (70 - u) * 2 : Nat) : Int) := by
    show ((sig <<< ((70 - u) + 1) : Nat) : Int) = _
    rw [Nat.shiftLeft_eq, Nat.pow_add, ← Nat.mul_assoc]
  have hp : sig ≤ sig * 2 ^ (70 - u) := Nat.le_mul_of_pos_right _ (Nat.two_pow_pos _)
  have : compare (signed false sig ((70 - u) + 1)) (signed false sc 0) = .gt := by
    rw [Int.compare_eq_gt, e3]
    generalize sig * 2 ^ (70 - u) = K at *
    unfold signed
    rw [Nat.shiftLeft_zero]
    simp
    omega
  rw [this]

theorem half_zero (h1 : 4503599627370496 ≤ sig) (h2 : sig < 9007199254740992) (hu : u ≤ 52) : FloatKind.f64.format.order (sgnw false (1073 - u) sig) 0 = some .gt := by
  show (double.read _).order (double.read 0) = some .gt
  rw [read_half h1 h2 hu, show double.read 0 = .number false 0 (-1074) by decide]
  simp only [Datum.order]
  have e0 : min (-(u : Int) - 1) (-1074) = -1074 := by omega
  rw [e0]
  have e1 : (-(u : Int) - 1 - -1074).toNat = 1073 - u := by omega
  have e2 : ((-1074 : Int) - -1074).toNat = 0 := by omega
  rw [e1, e2]
  have e3 : signed false sig (1073 - u) = ((sig * 2 ^ (1073 - u) : Nat) : Int) := by
    show ((sig <<< (1073 - u) : Nat) : Int) = _
    rw [Nat.shiftLeft_eq]
  have hp : sig ≤ sig * 2 ^ (1073 - u) := Nat.le_mul_of_pos_right _ (Nat.two_pow_pos _)
  have : compare (signed false sig (1073 - u)) (signed false 0 0) = .gt := by
    rw [Int.compare_eq_gt, e3]
    generalize sig * 2 ^ (1073 - u) = K at *
    unfold signed
    rw [Nat.shiftLeft_zero]
    simp
    omega
  rw [this]
end

theorem max_read : double.read 9218868437227405311 = .number false 9007199254740991 ((971 : Nat) : Int) := by decide
theorem min_read : double.read 18442240474082181119 = .number true 9007199254740991 ((971 : Nat) : Int) := by decide
theorem e21_read : double.read 4921056587992461136 = .number false 7629394531250000 ((17 : Nat) : Int) := by decide
theorem e6_read : double.read 4517329193108106637 = .number false 4722366482869645 (-72) := by decide

theorem bits_abs (x : Nat) (hx : x < 18446744073709551616) : bits BinOp.andNot IntKind.u64 ((x : Nat) : Int) 9223372036854775808 = ((x % 9223372036854775808 : Nat) : Int) := by
  have h1 : (BitVec.ofInt 64 (x : Int)).toNat = x := by
    rw [BitVec.ofInt_natCast, BitVec.toNat_ofNat]; exact Nat.mod_eq_of_lt (by omega)
  have h2 : (~~~ BitVec.ofInt 64 9223372036854775808).toNat = 2 ^ 63 - 1 := by decide
  show IntKind.u64.wrap ((BitVec.ofInt 64 (x : Int) &&& ~~~ BitVec.ofInt 64 9223372036854775808).toNat : Int) = _
  rw [BitVec.toNat_and, h1, h2, Nat.and_two_pow_sub_one_eq_mod, IntKind.wrap_u64]
  omega

theorem fof_run (w : World) (x : Nat) : (callFunc 117 #[.int .u64 (x : Nat)]).run Tryz.prog w = .ok (.value (.float .f64 x)) w := by
  rw [run_callFunc_extern Tryz.func117 (by kernel_rfl) (by kernel_rfl) (by kernel_rfl) (e := Extern.MathFloatBits.float64frombits) (by kernel_rfl)]
  rfl

/-- What encodeFloat64 asks of a half. -/
structure HalfSays (X Y : Nat) : Prop where
  self : FloatKind.f64.format.order X X = some .eq
  lo : FloatKind.f64.format.order X 18442240474082181119 = some .gt
  hi : FloatKind.f64.format.order X 9218868437227405311 = some .lt
  abs : X % 9223372036854775808 = Y
  lt : X < 18446744073709551616
  zero : FloatKind.f64.format.order Y 0 = some .gt
  small : FloatKind.f64.format.order Y 4517329193108106637 = some .gt
  big : FloatKind.f64.format.order Y 4921056587992461136 = some .lt

theorem half_says_all {h : Int} (hs : Sml h) : ∃ Y, HalfSays (halfBits h) Y := by
  have hb := sigOf_bounds hs.pos.1 hs.pos.2
  have hu : upOf h.natAbs ≤ 52 := by unfold upOf; omega
  rw [halfBits_eq hs]
  refine ⟨sgnw false (1073 - upOf h.natAbs) (sigOf h.natAbs), half_self hb.1 hb.2 hu, half_lo hb.1 hb.2 hu min_read (by decide) (by decide), half_hi hb.1 hb.2 hu max_read (by decide) (by decide), ?_, ?_, half_zero hb.1 hb.2 hu, half_small hb.1 hb.2 hu e6_read (by decide), half_hi hb.1 hb.2 hu e21_read (by decide) (by decide)⟩
  · unfold sgnw Format.word
    rw [d_sw]
    split <;> simp <;> omega
  · unfold sgnw Format.word
    rw [d_sw]
    split <;> omega
end Go.Proofs.YtbnbemacljjimaaGreatDoor

namespace Go.Proofs.YtbnbemacljjimaaGreatDoor
open Go.RowKit Go.Lib
set_option linter.unusedVariables false

theorem ftxt_size (h : Int) (hs : Sml h) : (ftxt h).size ≤ 24 := by
  have : (dg (h.natAbs / 2)).length ≤ 19 + 1 := dg_le 19 _ (by have := hs.pos; omega)
  unfold ftxt
  split
  · rw [ByteArray.size_append, ByteArray.size_append, txt_size]
    show 1 + (_ + 2) ≤ 24
    omega
  · rw [ByteArray.size_append, ByteArray.size_append, txt_size]
    show 0 + (_ + 2) ≤ 24
    omega

set_option maxHeartbeats 1000000 in
theorem appendFloat_any (w : World) (e b : Nat) (h : Int) (hs : Sml h) (ho : ¬ h.tmod 2 = 0) (hE : En e b w) :
    Calls Tryz.prog 123 #[.slice (some ⟨e, 1, none⟩) 0 64, .float .f64 (halfBits h), .int .u8 102, .int .i64 (-1), .int .i64 64] w fun r w' => r = .returned (.slice (some ⟨e, 1, none⟩) (ftxt h).size 64) ∧ Buf e b (ftxt h) w' ∧ Only (· = e) w w' := by
  have hl := ftxt_size h hs
  replace hE := hide hE
  have hf := hide (formatFloat_any w h hs ho)
  obtain ⟨X, hX⟩ : ∃ X, halfBits h = X := ⟨_, rfl⟩
  rw [hX] at hf ⊢
  clear hX
  go_enter Tryz.func123, Tryz.ntmps123
  go_wp2_with (first
    | (go_at_call 144; refine hf.out.mono ?_; rintro r w1 ⟨rfl, hb1⟩; obtain ⟨hce, hfz, hR⟩ := hE.out.ready hb1 (ftxt h) (by omega); clear hb1)
    | (at_builtin; refine wpList_append_room1 _ rfl _ _ 119 9 rfl 5 (.int .u8 0) 1 Tryz.underlying119 bl_byte e 1 0 64 rfl (.string (ftxt h)) rfl (ftxt h).size (Go.byteCells (ftxt h)) (Src.ofString _ Tryz.underlying9 (ftxt h)) (by omega) hce.out hfz.out ?_))
  go_ret
  exact ⟨rfl, hR.out.1, hR.out.2⟩

/-- What the encoder's work leaves: the builder has more, all below B stands. -/
structure Ew (B e b : Nat) (bs : List Value) (w w' : World) : Prop where
  bl : Bl B b bs w'
  en : En e b w'
  bel : Below B w w'

theorem nan_any (W : World) {X Y : Nat} (h : HalfSays X Y) : Calls Tryz.prog 122 #[.float .f64 X] W fun e w' => e = .returned (.bool false) ∧ W = w' := by
  have h1 := h.self
  go_enter Tryz.func122, Tryz.ntmps122
  go_wp2
  go_ret
  exact ⟨rfl, rfl⟩

theorem abs_any (W : World) {X Y : Nat} (h : HalfSays X Y) : Calls Tryz.prog 114 #[.float .f64 X] W fun e w' => e = .returned (.float .f64 Y) ∧ W = w' := by
  have h1 := fbits_run
  have h2 := fof_run
  have h3 := bits_abs X h.lt
  rw [h.abs] at h3
  go_enter Tryz.func114, Tryz.ntmps114
  go_wp2
  go_ret
  exact ⟨rfl, rfl⟩

theorem bl_only {B b : Nat} {bs : List Value} {w w' : World} {P : Nat → Prop} (h : Bl B b bs w) (ho : Only P w w') (hb : ¬ P b) (hr : ∀ k c fz, w.heap[k]? = some (.cells c 5 fz) → ¬ P k) : Bl B b bs w' := by
  rcases h with ⟨h1, v, h2, h3, h4⟩ | ⟨h1, v, h2, h3, h4⟩
  · exact Or.inl ⟨h1, v, ho.blk h2 hb, ho.own h3 (fun k hk => by obtain ⟨c, fz, hc⟩ := own_kind h3 k hk; exact hr k c fz hc), h4⟩
  · exact Or.inr ⟨h1, v, ho.blk h2 hb, ho.own h3 (fun k hk => by obtain ⟨c, fz, hc⟩ := own_kind h3 k hk; exact hr k c fz hc), h4⟩

theorem bl_enc {B e b : Nat} {bs : List Value} {w w' : World} (h : Bl B b bs w) (he : En e b w) (hne : e ≠ b) (ho : Only (· = e) w w') : Bl B b bs w' := by
  refine bl_only h ho (fun k => hne k.symm) (fun k c fz hk e' => ?_)
  subst e'
  obtain ⟨cs, h1, -⟩ := he
  unfold Blk at h1
  rw [h1] at hk
  injection hk with hk
  injection hk with _ hk
  exact absurd hk (by decide)

/-- Write of the buffer's bytes. -/
theorem buf_write {B e b : Nat} {bs : List Value} {s : ByteArray} {w : World} (hb : Bl B b bs w) (hs : Buf e b s w) (hne : e ≠ b) (hlen : bs.length + s.size ≤ 140737488355328) (hBw : B ≤ w.heap.size) :
    Calls Tryz.prog 234 #[.pointer (some ⟨b, 0, none⟩), .slice (some ⟨e, 1, none⟩) s.size 64] w fun r w' => r = .returned (.tuple #[.int .i64 s.size, .nilIface]) ∧ Bl B b (bs ++ Lib.strCells s) w' ∧ En e b w' ∧ Below B w w' ∧ Wr B b w w' := by
  have hen := hs.en
  obtain ⟨cs, h1, h2, h3, h4⟩ := hs
  refine (bl_write_any B b bs e 1 s.size 64 (Go.byteCells s) w hb hlen hBw (Go.byteCells_length s) hne h1 (by decide) h4 (fun u hu => by
    obtain ⟨_, _, rfl⟩ := List.mem_map.1 hu
    rfl)).mono ?_
  rintro r w' ⟨rfl, k1, k2⟩
  exact ⟨rfl, k1, hen.wr k2 hne, k2.bel, k2⟩

set_option maxHeartbeats 1000000 in
set_option maxRecDepth 100000 in
theorem encFloat_any (w : World) (B e b : Nat) (bs : List Value) (h : Int) (hs : Sml h) (ho : ¬ h.tmod 2 = 0) (hb : Bl B b bs w) (he : En e b w) (hBe : B ≤ e) (hne : e ≠ b) (hlen : bs.length + 64 ≤ 140737488355328) (hBw : B ≤ w.heap.size) :
    Calls Tryz.prog 103 #[.pointer (some ⟨e, 0, none⟩), .float .f64 (halfBits h)] w fun r w' => r = .returned (.tuple #[]) ∧ Ew B e b (bs ++ Lib.strCells (ftxt h)) w w' := by
  obtain ⟨Y, hY⟩ := half_says_all hs
  have haf := hide (appendFloat_any w e b h hs ho he)
  obtain ⟨X, hX⟩ : ∃ X, halfBits h = X := ⟨_, rfl⟩
  rw [hX] at hY haf ⊢
  clear hX
  have hn := hide (nan_any w hY)
  have ha := hide (abs_any w hY)
  have q1 := hY.lo
  have q2 := hY.hi
  have q3 := hY.zero
  have q4 := hY.small
  have q5 := hY.big
  have m1 : ∀ W : World, (Builtin.max_ #[82, 82] 82 #[.float .f64 X, .float .f64 18442240474082181119]).run Tryz.prog W = .ok (.float .f64 X) W := fun W => by simp [Builtin.max_, Builtin.max2, q1]
  have m2 : ∀ W : World, (Builtin.min_ #[82, 82] 82 #[.float .f64 X, .float .f64 9218868437227405311]).run Tryz.prog W = .ok (.float .f64 X) W := fun W => by simp [Builtin.min_, Builtin.min2, q2]
  clear q1 q2
  replace hY := hide hY
  have c0 := he.cell
  go_enter Tryz.func103, Tryz.ntmps103
  go_wp2_with (first
    | (go_at_call 122; refine hn.out.mono ?_; rintro e w1 ⟨rfl, rfl⟩)
    | (go_at_call 114; refine ha.out.mono ?_; rintro e w1 ⟨rfl, rfl⟩)
    | (go_at_call 123; refine haf.out.mono ?_; rintro r w2 ⟨rfl, hBuf, hO⟩; have c2 := hBuf.en.cell; replace hBuf := hide hBuf; replace hO := hide hO))
  have hs24 := ftxt_size h hs
  refine (buf_write (bl_enc hb he hne hO.out) hBuf.out hne (by omega) (Nat.le_trans hBw hO.out.size)).mono ?_
  rintro r w3 ⟨rfl, k1, k2, k3, -⟩
  have k4 := (hO.out.below (B := B) (by intro k hk; omega) hBw).trans k3
  go_wp2
  go_end0
  exact ⟨rfl, k1, k2, k4⟩
end Go.Proofs.YtbnbemacljjimaaGreatDoor

namespace Go.Proofs.YtbnbemacljjimaaGreatDoor
open Go.RowKit Go.Lib
set_option linter.unusedVariables false

def nullT : ByteArray := ⟨#[110, 117, 108, 108]⟩
def trueT : ByteArray := ⟨#[116, 114, 117, 101]⟩
def falseT : ByteArray := ⟨#[102, 97, 108, 115, 101]⟩

/-- WriteString under the encoder. -/
theorem str_write {B e b : Nat} {bs : List Value} {s : ByteArray} {w : World} (hb : Bl B b bs w) (he : En e b w) (hne : e ≠ b) (hlen : bs.length + s.size ≤ 140737488355328) (hBw : B ≤ w.heap.size) :
    Calls Tryz.prog 113 #[.pointer (some ⟨b, 0, none⟩), .string s] w fun r w' => r = .returned (.tuple #[.int .i64 s.size, .nilIface]) ∧ Ew B e b (bs ++ Lib.strCells s) w w' := by
  refine (bl_str_any B b bs s w hb hlen hBw).mono ?_
  rintro r w' ⟨rfl, k1, k2⟩
  exact ⟨rfl, k1, he.wr k2 hne, k2.bel⟩

section
variable (w : World) (B e b : Nat) (bs : List Value) (hb : Bl B b bs w) (he : En e b w) (hne : e ≠ b) (hlen : bs.length + 64 ≤ 140737488355328) (hBw : B ≤ w.heap.size)
include hb he hne hlen hBw

set_option maxHeartbeats 1000000 in
set_option maxRecDepth 100000 in
theorem enc_nil : Calls Tryz.prog 92 #[.pointer (some ⟨e, 0, none⟩), .nilIface] w fun r w' => r = .returned (.tuple #[]) ∧ Ew B e b (bs ++ Lib.strCells nullT) w w' := by
  have hW := hide (str_write (s := nullT) hb he hne (by show _ + 4 ≤ _; omega) hBw)
  have c0 := he.cell
  unfold nullT at hW ⊢
  go_enter Tryz.func92, Tryz.ntmps92
  go_wp2_with (go_at_call 113; refine hW.out.mono ?_; rintro r w1 ⟨rfl, h1⟩; replace h1 := hide h1)
  go_end0
  exact ⟨rfl, h1.out⟩

set_option maxHeartbeats 1000000 in
set_option maxRecDepth 100000 in
theorem enc_true : Calls Tryz.prog 92 #[.pointer (some ⟨e, 0, none⟩), .iface 4 (.bool true)] w fun r w' => r = .returned (.tuple #[]) ∧ Ew B e b (bs ++ Lib.strCells trueT) w w' := by
  have hW := hide (str_write (s := trueT) hb he hne (by show _ + 4 ≤ _; omega) hBw)
  have c0 := he.cell
  unfold trueT at hW ⊢
  go_enter Tryz.func92, Tryz.ntmps92
  go_wp2_with (go_at_call 113; refine hW.out.mono ?_; rintro r w1 ⟨rfl, h1⟩; replace h1 := hide h1)
  go_end0
  exact ⟨rfl, h1.out⟩

set_option maxHeartbeats 1000000 in
set_option maxRecDepth 100000 in
theorem enc_false : Calls Tryz.prog 92 #[.pointer (some ⟨e, 0, none⟩), .iface 4 (.bool false)] w fun r w' => r = .returned (.tuple #[]) ∧ Ew B e b (bs ++ Lib.strCells falseT) w w' := by
  have hW := hide (str_write (s := falseT) hb he hne (by show _ + 5 ≤ _; omega) hBw)
  have c0 := he.cell
  unfold falseT at hW ⊢
  go_enter Tryz.func92, Tryz.ntmps92
  go_wp2_with (go_at_call 113; refine hW.out.mono ?_; rintro r w1 ⟨rfl, h1⟩; replace h1 := hide h1)
  go_end0
  exact ⟨rfl, h1.out⟩

set_option maxHeartbeats 1000000 in
set_option maxRecDepth 100000 in
theorem enc_float (hBe : B ≤ e) (h : Int) (hs : Sml h) (ho : ¬ h.tmod 2 = 0) : Calls Tryz.prog 92 #[.pointer (some ⟨e, 0, none⟩), .iface 82 (.float .f64 (halfBits h))] w fun r w' => r = .returned (.tuple #[]) ∧ Ew B e b (bs ++ Lib.strCells (ftxt h)) w w' := by
  have hW := hide (encFloat_any w B e b bs h hs ho hb he hBe hne hlen hBw)
  generalize halfBits h = X at *
  go_enter Tryz.func92, Tryz.ntmps92
  go_wp2_with (go_at_call 103; refine hW.out.mono ?_; rintro r w1 ⟨rfl, h1⟩; replace h1 := hide h1)
  go_end0
  exact ⟨rfl, h1.out⟩

set_option maxHeartbeats 2000000 in
set_option maxRecDepth 100000 in
theorem enc_int (hBe : B ≤ e) (n : Int) (h0 : -9223372036854775808 ≤ n) (h1 : n ≤ 9223372036854775807) : Calls Tryz.prog 92 #[.pointer (some ⟨e, 0, none⟩), .iface 3 (.int .i64 n)] w fun r w' => r = .returned (.tuple #[]) ∧ Ew B e b (bs ++ Lib.strCells (itxt n)) w w' := by
  have hA := hide (appendInt_any w.drew e b n h0 h1 he.drew)
  have hl := itxt_size n h0 h1
  have c0 := he.cell
  have hE := hide he
  have hN := hide (And.intro h0 h1)
  clear h0 h1
  go_enter Tryz.func92, Tryz.ntmps92
  go_wp2
  go_region_held3 (fun w' => w'.cell? ⟨e, 0, none⟩ = some (.iface 126 (.pointer (some ⟨b, 0, none⟩)))) (first | exact c0 | exact c1 | exact c2) (first
    | (go_at_call 102; refine hA.out.mono ?_; rintro r w1 ⟨rfl, hB1, hO1⟩; have c1 := hB1.en.cell; have k1 := hide (bl_enc (w := w.drew) hb hE.out.drew hne hO1); have l1 := Nat.le_trans hBw hO1.size; have o1 := hide hO1; replace hB1 := hide hB1; clear hO1)
    | (go_at_call 234; refine (buf_write k1.out hB1.out hne (by omega) l1).mono ?_; rintro r w2 ⟨rfl, hb2, he2, hl2, -⟩; have c2 := he2.cell; have k2 := hide (And.intro hb2 (And.intro he2 hl2)); clear hb2 he2 hl2))
  go_wp2
  go_end0
  exact ⟨rfl, k2.out.1, k2.out.2.1, ((Below.refl B w).drew.trans (o1.out.below (B := B) (by intro k hk; omega) hBw)).trans k2.out.2.2⟩
end
end Go.Proofs.YtbnbemacljjimaaGreatDoor

namespace Go.Proofs.YtbnbemacljjimaaGreatDoor
open Go.RowKit Go.Lib
set_option linter.unusedVariables false

/-- The encoder writes s for x. -/
def EncSays (w : World) (x : Value) (s : ByteArray) : Prop := ∀ (W : World) (e b : Nat), Below w.heap.size w W → Bl w.heap.size b [] W → En e b W → e ≠ b → w.heap.size ≤ e → w.heap.size ≤ W.heap.size →
  Calls Tryz.prog 92 #[.pointer (some ⟨e, 0, none⟩), x] W fun r w' => r = .returned (.tuple #[]) ∧ Ew w.heap.size e b (Lib.strCells s) W w'

theorem zero_enc : Tryz.zeroCells133.size = 65 := by kernel_rfl

theorem enc_new (w : World) (b : Nat) : En w.heap.size b (w.alloc (.cells (Tryz.zeroCells133.setIfInBounds 0 (.iface 126 (.pointer (some ⟨b, 0, none⟩)))) 133)) := by
  refine ⟨_, Blk.new w _ _, by rw [Array.size_setIfInBounds]; exact zero_enc, ?_⟩
  rw [Array.getElem?_setIfInBounds, if_pos rfl, if_pos (by rw [zero_enc]; decide)]

set_option maxHeartbeats 1000000 in
set_option maxRecDepth 100000 in
theorem marshal_of (w : World) (x : Value) (s : ByteArray) (hx : EncSays w x s) :
    Calls Tryz.prog 70 #[x] w fun e w' => e = .returned (.string s) ∧ Below w.heap.size w w' := by
  go_enter Tryz.func70, Tryz.ntmps70
  go_wp2_with fail
  obtain ⟨W0, hW0⟩ : ∃ W0, W0 = w.alloc (.cells #[.pointer none, .slice none 0 0] 128) := ⟨_, rfl⟩
  have hs0 : W0.heap.size = w.heap.size + 1 := by rw [hW0]; simp
  have b0 : Bl w.heap.size w.heap.size [] W0 := by rw [hW0]; exact Lib.fresh_isBuilder _ _ _
  have l0 : Below w.heap.size w W0 := by rw [hW0]; exact (Below.refl _ _).alloc (Nat.le_refl _) _
  rw [← hW0]
  have e1 := enc_new W0 w.heap.size
  have b1 := bl_only (P := fun _ => False) b0 ((Only.refl _ W0).alloc (.cells (Tryz.zeroCells133.setIfInBounds 0 (.iface 126 (.pointer (some ⟨w.heap.size, 0, none⟩)))) 133)) (fun h => h) (fun _ _ _ _ h => h)
  have l1 := l0.alloc l0.size (.cells (Tryz.zeroCells133.setIfInBounds 0 (.iface 126 (.pointer (some ⟨w.heap.size, 0, none⟩)))) 133)
  rw [hs0] at e1
  have l2 := l1.size
  refine (hx _ (w.heap.size + 1) w.heap.size l1 b1 e1 (by omega) (by omega) l2).mono ?_
  rintro r W2 ⟨rfl, h2⟩
  have k2 : Lib.IsBuilderF 128 5 w.heap.size w.heap.size (Lib.byteCells s.data.toList) W2 := Lib.IsBuilderF.of h2.bl
  have l3 := hide (l1.trans h2.bel)
  have l4 := Nat.le_trans l2 h2.bel.size
  clear e1 b1 b0 l0 l1 hW0 h2 hx
  go_wp2_with (go_at_call 93; refine (Tryz.Builder_String_any_k w.heap.size w.heap.size s.data.toList W2 k2 l4).mono ?_; rintro r W3 ⟨rfl, -, l5, -⟩; replace l5 := hide l5)
  go_ret
  exact ⟨rfl, l3.out.trans l5.out⟩
end Go.Proofs.YtbnbemacljjimaaGreatDoor

namespace Go.Proofs.YtbnbemacljjimaaGreatDoor
open Go.RowKit Go.Lib
set_option linter.unusedVariables false

/-- A number's text. -/
def ntxt (h : Int) : ByteArray := if h.tmod 2 = 0 then itxt (h.tdiv 2) else ftxt h
/-- The text of what is no string, no list and no map. -/
def stxt (v : JV) : ByteArray := if v.kind = 0 then nullT else if v.kind = 1 then falseT else if v.kind = 2 then trueT else ntxt v.half

theorem tdiv_small {h : Int} (h1 : -18014398509481984 ≤ h ∧ h ≤ 18014398509481984) : -9223372036854775808 ≤ h.tdiv 2 ∧ h.tdiv 2 ≤ 9223372036854775807 := by
  have h3 : (h.tdiv 2).natAbs = h.natAbs / 2 := Int.natAbs_tdiv h 2
  omega

theorem odd_sml {h : Int} (ho : ¬ h.tmod 2 = 0) (h2 : h.tmod 2 = 0 ∨ -9007199254740992 < h ∧ h < 9007199254740992) : Sml h :=
  ⟨fun e => ho (by rw [e]; rfl), (h2.resolve_left ho).1, (h2.resolve_left ho).2⟩

theorem enc_scalar (w : World) (lo n : Nat) (x : Value) (v : JV) (hx : GAt w lo (n + 1) x v) (hk : v.kind ≤ 3) (h1 : -18014398509481984 ≤ v.half ∧ v.half ≤ 18014398509481984) (h2 : v.half.tmod 2 = 0 ∨ -9007199254740992 < v.half ∧ v.half < 9007199254740992) : EncSays w x (stxt v) := by
  intro W e b hbel hb he hne hle hlW
  have hr := tdiv_small h1
  unfold stxt ntxt
  rcases hx with ⟨k, rfl⟩ | ⟨k, rfl⟩ | ⟨k, rfl⟩ | ⟨k, hm, rfl⟩ | ⟨k, hm, rfl⟩ | ⟨k, rfl⟩ | ⟨k, -⟩ | ⟨k, -⟩
  · rw [if_pos k]
    exact enc_nil W _ e b [] hb he hne (by decide) hlW
  · rw [if_neg (by omega), if_pos k]
    exact enc_false W _ e b [] hb he hne (by decide) hlW
  · rw [if_neg (by omega), if_neg (by omega), if_pos k]
    exact enc_true W _ e b [] hb he hne (by decide) hlW
  · rw [if_neg (by omega), if_neg (by omega), if_neg (by omega), if_pos hm]
    exact enc_int W _ e b [] hb he hne (by decide) hlW hle _ hr.1 hr.2
  · rw [if_neg (by omega), if_neg (by omega), if_neg (by omega), if_neg hm]
    exact enc_float W _ e b [] hb he hne (by decide) hlW hle _ (odd_sml hm h2) hm
  · omega
  · omega
  · omega

theorem marshal_scalar (w : World) (lo n : Nat) (x : Value) (v : JV) (hx : GAt w lo (n + 1) x v) (hk : v.kind ≤ 3) (h1 : -18014398509481984 ≤ v.half ∧ v.half ≤ 18014398509481984) (h2 : v.half.tmod 2 = 0 ∨ -9007199254740992 < v.half ∧ v.half < 9007199254740992) :
    Calls Tryz.prog 70 #[x] w fun e w' => e = .returned (.string (stxt v)) ∧ Below w.heap.size w w' := marshal_of w x (stxt v) (enc_scalar w lo n x v hx hk h1 h2)

/-- The replacer of @csv. -/
def escC (c : UInt8) : List UInt8 := if c = 34 then [34, 34] else if c = 0 then [92, 48] else [c]
def escL (l : List UInt8) : List UInt8 := l.flatMap escC

theorem escL_snoc (l : List UInt8) (c : UInt8) : escL (l ++ [c]) = escL l ++ escC c := by unfold escL; rw [List.flatMap_append]; simp
theorem escC_len (c : UInt8) : (escC c).length ≤ 2 := by unfold escC; split; decide; split; decide; exact Nat.le_succ 1
theorem escL_len (l : List UInt8) : (escL l).length ≤ 2 * l.length := by
  induction l with
  | nil => decide
  | cons c l ih =>
    unfold escL at *
    rw [List.flatMap_cons, List.length_append, List.length_cons]
    have := escC_len c
    omega
end Go.Proofs.YtbnbemacljjimaaGreatDoor

namespace Go.Proofs.YtbnbemacljjimaaGreatDoor
open Go.RowKit Go.Lib
set_option linter.unusedVariables false

/-- The replacer's loop: what is laid so far. -/
def RF (w : World) (out : List UInt8) (wr : World) (sv : Value) : Prop := Below w.heap.size w wr ∧ wr.ownsRow w.heap.size 5 1 sv out.length (Lib.byteCells out)

theorem RF.push {w wr w' : World} {out : List UInt8} {sv v' : Value} {news : List UInt8} (h : RF w out wr sv) (own4 : w'.ownsRow w.heap.size 5 1 v' (out.length + news.length) (Lib.byteCells out ++ Lib.byteCells news)) (g4 : wr.grownBy w' sv.ownBlock) : RF w (out ++ news) w' v' := by
  refine ⟨h.1.trans ⟨g4.os, g4.tape, g4.output, g4.size, fun k hk => g4.block k (Nat.lt_of_lt_of_le hk h.1.size) (fun e => by have := (h.2.lt k e.symm).1; omega)⟩, ?_⟩
  have e : Lib.byteCells (out ++ news) = Lib.byteCells out ++ Lib.byteCells news := by simp [Lib.byteCells]
  rw [e, List.length_append]
  exact own4

theorem RF.text {w wr : World} {out : List UInt8} {sv : Value} (h : RF w out wr sv) : (convert 119 9 sv).run Tryz.prog wr = .ok (.string ⟨out.toArray⟩) wr := by
  obtain ⟨h1, h2⟩ := h
  rcases h2.2 with ⟨rfl, h0⟩ | ⟨g, cap, cur, rfl, r⟩
  · have : out = [] := List.eq_nil_of_length_eq_zero h0
    subst this
    simp [convert, run_underlying (P := Tryz.prog) Tryz.underlying119, run_underlying (P := Tryz.prog) Tryz.underlying9]
    rfl
  · have e : Lib.byteCells out = (out.map fun b => ((b.toNat : Nat) : Int)).map (Value.int .u8) := by simp [Lib.byteCells]
    rw [e] at h2
    rw [own_text h2]
    congr 2
    apply ByteArray.ext
    apply Array.toList_inj.1
    simp only [strOfNums, List.toList_toArray, List.map_map]
    rw [show ((fun n : Int => UInt8.ofNat n.toNat) ∘ fun b : UInt8 => ((b.toNat : Nat) : Int)) = id from funext fun b => by simp]
    simp

set_option maxHeartbeats 2000000 in
set_option maxRecDepth 100000 in
theorem csvEscaper_any (w : World) : Calls Tryz.prog 82 #[] w fun e w' => e = .returned (.slice (some ⟨w.heap.size, 0, none⟩) 4 4) ∧ Below w.heap.size w w' ∧ Blk w' w.heap.size 9 #[.string ⟨#[34]⟩, .string ⟨#[34, 34]⟩, .string ⟨#[0]⟩, .string ⟨#[92, 48]⟩] := by
  go_enter Tryz.func82, Tryz.ntmps82
  go_wp2
  go_ret
  exact ⟨rfl, (Below.refl _ _).alloc (Nat.le_refl _) _, Blk.new _ _ _⟩

set_option maxHeartbeats 4000000 in
set_option maxRecDepth 100000 in
theorem replace_any (w : World) (g : Nat) (s : ByteArray) (hg : Blk w g 9 #[.string ⟨#[34]⟩, .string ⟨#[34, 34]⟩, .string ⟨#[0]⟩, .string ⟨#[92, 48]⟩]) (hs : s.size ≤ 100000) :
    Calls Tryz.prog 83 #[.slice (some ⟨g, 0, none⟩) 4 4, .string s] w fun e w' => e = .returned (.string ⟨(escL s.data.toList).toArray⟩) ∧ Below w.heap.size w w' := by
  obtain ⟨i5, hi5, hz0, hz1, hz2⟩ := info_parts bl_byte
  have hgl := hg.lt
  replace hg := hide hg
  have hsl : s.data.toList.length = s.size := by rw [Array.length_toList]; rfl
  replace hsl := hide hsl
  go_enter Tryz.func83, Tryz.ntmps83
  go_wp2
  go_loopw [5, 6, 7] (fun s5 s6 s7 wr => ∃ i : Nat, s6 = .int .i64 i ∧ i ≤ s.size ∧ RF w (escL (s.data.toList.take i)) wr s5) (fun _ i _ _ => s.size - (RowKit.intOf i).toNat)
  case atStart => exact ⟨0, rfl, Nat.zero_le _, Below.refl _ _, rfl, .inl ⟨rfl, rfl⟩⟩
  case round =>
    obtain ⟨i, rfl, hi, H⟩ := hrel
    by_cases hlt : i < s.size
    · have hG := hg.out.below H.1 hgl
      have c0 := hG.cell 0
      have c1 := hG.cell 1
      have c2 := hG.cell 2
      have c3 := hG.cell 3
      simp at c0 c1 c2 c3
      have hbs := H.1.size
      replace H := hide H
      replace hG := hide hG
      obtain ⟨wo, rfl⟩ : ∃ wo : World, wo = wr := ⟨_, rfl⟩
      have htk : escL (s.data.toList.take (i + 1)) = escL (s.data.toList.take i) ++ escC s[i] := by
        rw [← escL_snoc]
        congr 1
        rw [List.take_succ_eq_append_getElem (by simpa using hlt)]
        rfl
      have hel : (escL (s.data.toList.take i)).length ≤ 200000 := by
        have h1 := escL_len (s.data.toList.take i)
        have h2 : (s.data.toList.take i).length ≤ i := List.length_take_le _ _
        omega
      obtain ⟨E, hE⟩ : ∃ E, escL (s.data.toList.take i) = E := ⟨_, rfl⟩
      rw [hE] at htk hel H
      clear hE hG c0 c1 c2 c3
      have hbs' := hide hbs
      clear hbs
      by_cases h34 : s[i] = 34
      · have q0 : (((((⟨#[34]⟩ : ByteArray)[0]'(by decide)).toNat : Nat) : Int) != ((s[i].toNat : Nat) : Int)) = false := by rw [h34]; rfl
        rw [h34] at htk
        replace h34 := hide h34
        replace htk := hide htk
        go_wp2
        go_loopw [7] (fun s7 wx => s7 = .int .i64 0 ∧ RF w E wx u5) (fun _ _ => 0)
        case atStart => exact ⟨rfl, H.out⟩
        case round =>
          obtain ⟨rfl, H1⟩ := hrel
          have hG := hg.out.below H1.1 hgl
          have c0 := hG.cell 0
          have c1 := hG.cell 1
          simp at c0 c1
          replace H1 := hide H1
          replace hG := hide hG
          go_wp2
          go_quiet (fail)
          obtain ⟨W1, hW1⟩ : ∃ W1, W1 = wr.drewN nq := ⟨_, rfl⟩
          rw [← hW1]
          have H2 : RF w E W1 u5 := by rw [hW1]; exact ⟨below_drewN H1.out.1 nq, H1.out.2⟩
          have d0 : W1.cell? ⟨g, 0, none⟩ = some (.string ⟨#[34]⟩) := by rw [hW1]; exact c0
          have d1 : W1.cell? ⟨g, 1, none⟩ = some (.string ⟨#[34, 34]⟩) := by rw [hW1]; exact c1
          clear hW1 c0 c1
          have hbs := H2.1.size
          replace H2 := hide H2
          go_wp2_with (refine Lib.wpList_append_own_string _ rfl (.tmp 35) (.tmp 40) 119 9 rfl w.heap.size 5 i5 Tryz.underlying119 Tryz.underlying9 hi5 hz0 hz1 hz2 _ _ _ rfl H2.out.2 ⟨#[34, 34]⟩ rfl (by unfold maxLen; show E.length + 2 ≤ _; omega) (by show E.length + 2 ≤ _; omega) hbs ?_; intro v4 w4 own4 g4 _x4; have H4 := hide (RF.push (news := [34, 34]) H2.out own4 g4); clear own4 g4)
          go_roundw
          case rel => exact ⟨i + 1, by go_num, by omega, by rw [htk.out]; exact H4.out⟩
          case measure => simp [RowKit.intOf]; omega
      · have q0 : (((((⟨#[34]⟩ : ByteArray)[0]'(by decide)).toNat : Nat) : Int) != ((s[i].toNat : Nat) : Int)) = true := by
          show ((34 : Int) != ((s[i].toNat : Nat) : Int)) = true
          have : s[i].toNat ≠ 34 := fun e => h34 (by rw [← UInt8.toNat_inj]; exact e)
          simp; omega
        by_cases h0 : s[i] = 0
        · have q1 : (((((⟨#[0]⟩ : ByteArray)[0]'(by decide)).toNat : Nat) : Int) != ((s[i].toNat : Nat) : Int)) = false := by rw [h0]; rfl
          rw [h0] at htk
          replace h34 := hide h34
          replace h0 := hide h0
          replace htk := hide htk
          go_wp2
          go_loopw [7] (fun s7 wx => (s7 = .int .i64 0 ∨ s7 = .int .i64 2) ∧ RF w E wx u5) (fun k _ => 10 - (RowKit.intOf k).toNat)
          case atStart => exact ⟨Or.inl rfl, H.out⟩
          case round =>
            obtain ⟨hk, H1⟩ := hrel
            have hG := hg.out.below H1.1 hgl
            have c0 := hG.cell 0
            have c2 := hG.cell 2
            have c3 := hG.cell 3
            simp at c0 c2 c3
            replace H1 := hide H1
            replace hG := hide hG
            rcases hk with rfl | rfl
            · go_wp2
              go_quiet (fail)
              obtain ⟨W1, hW1⟩ : ∃ W1, W1 = wr.drewN nq := ⟨_, rfl⟩
              rw [← hW1]
              have H2 : RF w E W1 u5 := by rw [hW1]; exact ⟨below_drewN H1.out.1 nq, H1.out.2⟩
              clear hW1 c0 c2 c3
              replace H2 := hide H2
              go_wp2
              go_roundw
              case rel => exact ⟨Or.inr rfl, H2.out⟩
              case measure => simp [RowKit.intOf]
            · go_wp2
              go_quiet (fail)
              obtain ⟨W1, hW1⟩ : ∃ W1, W1 = wr.drewN nq := ⟨_, rfl⟩
              rw [← hW1]
              have H2 : RF w E W1 u5 := by rw [hW1]; exact ⟨below_drewN H1.out.1 nq, H1.out.2⟩
              have d2 : W1.cell? ⟨g, 2, none⟩ = some (.string ⟨#[0]⟩) := by rw [hW1]; exact c2
              have d3 : W1.cell? ⟨g, 3, none⟩ = some (.string ⟨#[92, 48]⟩) := by rw [hW1]; exact c3
              clear hW1 c0 c2 c3
              have hbs := H2.1.size
              replace H2 := hide H2
              go_wp2_with (refine Lib.wpList_append_own_string _ rfl (.tmp 35) (.tmp 40) 119 9 rfl w.heap.size 5 i5 Tryz.underlying119 Tryz.underlying9 hi5 hz0 hz1 hz2 _ _ _ rfl H2.out.2 ⟨#[92, 48]⟩ rfl (by unfold maxLen; show E.length + 2 ≤ _; omega) (by show E.length + 2 ≤ _; omega) hbs ?_; intro v4 w4 own4 g4 _x4; have H4 := hide (RF.push (news := [92, 48]) H2.out own4 g4); clear own4 g4)
              go_roundw
              case rel => exact ⟨i + 1, by go_num, by omega, by rw [htk.out]; exact H4.out⟩
              case measure => simp [RowKit.intOf]; omega
        · have q1 : (((((⟨#[0]⟩ : ByteArray)[0]'(by decide)).toNat : Nat) : Int) != ((s[i].toNat : Nat) : Int)) = true := by
            show ((0 : Int) != ((s[i].toNat : Nat) : Int)) = true
            have : s[i].toNat ≠ 0 := fun e => h0 (by rw [← UInt8.toNat_inj]; exact e)
            simp; omega
          rw [show escC s[i] = [s[i]] by unfold escC; rw [if_neg h34, if_neg h0]] at htk
          replace h34 := hide h34
          replace h0 := hide h0
          replace htk := hide htk
          go_wp2
          go_loopw [7] (fun s7 wx => (s7 = .int .i64 0 ∨ s7 = .int .i64 2 ∨ s7 = .int .i64 4) ∧ RF w E wx u5) (fun k _ => 10 - (RowKit.intOf k).toNat)
          case atStart => exact ⟨Or.inl rfl, H.out⟩
          case round =>
            obtain ⟨hk, H1⟩ := hrel
            have hG := hg.out.below H1.1 hgl
            have c0 := hG.cell 0
            have c2 := hG.cell 2
            simp at c0 c2
            replace H1 := hide H1
            replace hG := hide hG
            rcases hk with rfl | rfl | rfl
            · go_wp2
              go_quiet (fail)
              obtain ⟨W1, hW1⟩ : ∃ W1, W1 = wr.drewN nq := ⟨_, rfl⟩
              rw [← hW1]
              have H2 : RF w E W1 u5 := by rw [hW1]; exact ⟨below_drewN H1.out.1 nq, H1.out.2⟩
              clear hW1 c0 c2
              replace H2 := hide H2
              go_wp2
              go_roundw
              case rel => exact ⟨Or.inr (Or.inl rfl), H2.out⟩
              case measure => simp [RowKit.intOf]
            · go_wp2
              go_quiet (fail)
              obtain ⟨W1, hW1⟩ : ∃ W1, W1 = wr.drewN nq := ⟨_, rfl⟩
              rw [← hW1]
              have H2 : RF w E W1 u5 := by rw [hW1]; exact ⟨below_drewN H1.out.1 nq, H1.out.2⟩
              clear hW1 c0 c2
              replace H2 := hide H2
              go_wp2
              go_roundw
              case rel => exact ⟨Or.inr (Or.inr rfl), H2.out⟩
              case measure => simp [RowKit.intOf]
            · go_wp2
              go_quiet (fail)
              obtain ⟨W1, hW1⟩ : ∃ W1, W1 = wr.drewN nq := ⟨_, rfl⟩
              rw [← hW1]
              have H2 : RF w E W1 u5 := by rw [hW1]; exact ⟨below_drewN H1.out.1 nq, H1.out.2⟩
              clear hW1 c0 c2
              have hbs := H2.1.size
              replace H2 := hide H2
              go_wp2_with (refine wpList_push _ rfl (.tmp 42) (.tmp 46) rfl w.heap.size _ E.length (Lib.byteCells E) (.int .u8 s[i].toNat) rfl H2.out.2 rfl rfl (by omega) hbs ?_; intro g4 cap4 w4 own4 gr4 _x4; have H4 := hide (RF.push (news := [s[i]]) H2.out own4 gr4); clear own4 gr4)
              go_roundw
              case rel => exact ⟨i + 1, by go_num, by omega, by rw [htk.out]; exact H4.out⟩
              case measure => simp [RowKit.intOf]; omega
    · obtain rfl : i = s.size := by omega
      have ht := H.text
      have hb := H.1
      rw [List.take_of_length_le (by rw [hsl.out]; exact Nat.le_refl _)] at ht
      replace H := hide H
      go_wp2
      go_ret
      exact ⟨rfl, hb⟩
end Go.Proofs.YtbnbemacljjimaaGreatDoor

namespace Go.Proofs.YtbnbemacljjimaaGreatDoor
open Go.RowKit Go.Lib
set_option linter.unusedVariables false

/-- A text in quotes. -/
def quo (s : ByteArray) : ByteArray := ⟨#[34]⟩ ++ ⟨(escL s.data.toList).toArray⟩ ++ ⟨#[34]⟩

theorem esc_size (s : ByteArray) : (⟨(escL s.data.toList).toArray⟩ : ByteArray).size ≤ 2 * s.size := by
  have h1 := escL_len s.data.toList
  have h2 : s.data.toList.length = s.size := by rw [Array.length_toList]; rfl
  show (escL s.data.toList).toArray.size ≤ _
  simp
  omega

set_option maxHeartbeats 1000000 in
set_option maxRecDepth 100000 in
theorem quo_any (w : World) (s : ByteArray) (hs : s.size ≤ 100000) : Calls Tryz.prog 81 #[.string s] w fun e w' => e = .returned (.string (quo s)) ∧ Below w.heap.size w w' := by
  have he := esc_size s
  have hr := fun (W : World) (g : Nat) hg => replace_any W g s hg hs
  have hq : quo s = ⟨#[34]⟩ ++ ⟨(escL s.data.toList).toArray⟩ ++ ⟨#[34]⟩ := rfl
  obtain ⟨E, hE⟩ : ∃ E : ByteArray, (⟨(escL s.data.toList).toArray⟩ : ByteArray) = E := ⟨_, rfl⟩
  rw [hE] at he hq
  have hr' : ∀ (W : World) (g : Nat), Blk W g 9 #[.string ⟨#[34]⟩, .string ⟨#[34, 34]⟩, .string ⟨#[0]⟩, .string ⟨#[92, 48]⟩] → Calls Tryz.prog 83 #[.slice (some ⟨g, 0, none⟩) 4 4, .string s] W fun e w' => e = .returned (.string E) ∧ Below W.heap.size W w' := by rw [← hE]; exact hr
  clear hE hr
  replace hr' := hide hr'
  replace hq := hide hq
  have z1 : ¬ 9223372036854775807 < 1 + E.size := by omega
  have z2 : ¬ 9223372036854775807 < 1 + E.size + 1 := by omega
  go_enter Tryz.func81, Tryz.ntmps81
  go_wp2_with (first
    | (go_at_call 82; refine (csvEscaper_any _).mono ?_; rintro e w1 ⟨rfl, hb1, hk1⟩; have hc := hide (hr'.out w1 _ hk1); replace hb1 := hide hb1; clear hk1)
    | (go_at_call 83; refine hc.out.mono ?_; rintro e w2 ⟨rfl, hb2⟩; have hb3 := hide (hb1.out.trans (hb2.mono hb1.out.size)); clear hb2))
  go_ret
  exact ⟨by rw [hq.out]; rfl, hb3.out⟩

/-- A value stands where nothing that was there has turned. -/
theorem GAt.ext {w w' : World} {lo : Nat} (hb : Below w.heap.size w w') : ∀ (n : Nat) (x : Value) (v : JV), GAt w lo n x v → GAt w' lo n x v
  | 0, _, _, h => h.elim
  | n + 1, x, v, h => by
    rcases h with h | h | h | h | h | h | h | h
    · exact Or.inl h
    · exact Or.inr (Or.inl h)
    · exact Or.inr (Or.inr (Or.inl h))
    · exact Or.inr (Or.inr (Or.inr (Or.inl h)))
    · exact Or.inr (Or.inr (Or.inr (Or.inr (Or.inl h))))
    · exact Or.inr (Or.inr (Or.inr (Or.inr (Or.inr (Or.inl h)))))
    · obtain ⟨hk, b, o, c, rfl, h1, h2, h3, h4, h5⟩ := h
      refine Or.inr (Or.inr (Or.inr (Or.inr (Or.inr (Or.inr (Or.inl ⟨hk, b, o, c, rfl, h1, Nat.lt_of_lt_of_le h2 hb.size, h3, h4, fun i y hy => ?_⟩))))))
      obtain ⟨z, hz, hg⟩ := h5 i y hy
      exact ⟨z, (hb.cell (p := ⟨b, o + i, none⟩) h2).trans hz, GAt.ext hb n _ _ hg⟩
    · obtain ⟨hk, b, ents, rfl, h1, h2, h3, h4, h5⟩ := h
      have ho : Only (fun _ => False) w w' := Only.of_below hb (fun k hk _ => hk)
      refine Or.inr (Or.inr (Or.inr (Or.inr (Or.inr (Or.inr (Or.inr ⟨hk, b, ents, rfl, h1, Nat.lt_of_lt_of_le h2 hb.size, h3.only ho (fun hp => hp), h4, fun i y hy => ?_⟩))))))
      obtain ⟨z, hz, hg⟩ := h5 i y hy
      exact ⟨z, hz, GAt.ext hb n _ _ hg⟩

/-- A field of a row of @csv. -/
def fld (v : JV) : ByteArray := if v.kind = 0 then ⟨#[]⟩ else if v.kind = 4 then quo v.text else stxt v

/-- A number's text has digits, a point and a minus alone. -/
def NumB (s : ByteArray) : Prop := ∀ c ∈ s.data.toList, 45 ≤ c.toNat ∧ c.toNat ≤ 57

theorem NumB.app {s t : ByteArray} (hs : NumB s) (ht : NumB t) : NumB (s ++ t) := by
  intro c hc
  rw [ByteArray.data_append, Array.toList_append, List.mem_append] at hc
  rcases hc with hc | hc
  · exact hs c hc
  · exact ht c hc
theorem NumB.txt {ds : List Nat} (h : Dig ds) : NumB (txt ds) := by
  intro c hc
  unfold Go.Proofs.YtbnbemacljjimaaGreatDoor.txt at hc
  simp at hc
  obtain ⟨d, hd, rfl⟩ := hc
  have := h d hd
  have e : (48 + UInt8.ofNat d).toNat = 48 + d := by
    rw [UInt8.toNat_add, UInt8.toNat_ofNat']
    show (48 + d % 256) % 256 = 48 + d
    omega
  rw [e]
  omega
theorem NumB.minus : NumB ⟨#[45]⟩ := by intro c hc; simp at hc; subst hc; decide
theorem NumB.none_ : NumB ⟨#[]⟩ := by intro c hc; simp at hc
theorem NumB.five : NumB ⟨#[46, 53]⟩ := by
  intro c hc
  simp at hc
  rcases hc with rfl | rfl <;> decide
theorem num_bytes (h : Int) : NumB (ntxt h) := by
  unfold ntxt itxt ftxt
  split
  · split
    · exact NumB.minus.app (NumB.txt (dg_dig _))
    · exact NumB.txt (dg_dig _)
  · split
    · exact NumB.minus.app ((NumB.txt (dg_dig _)).app NumB.five)
    · exact NumB.none_.app ((NumB.txt (dg_dig _)).app NumB.five)

theorem not_null {y : JV} (h0 : ¬ y.kind = 0) : ¬ (stxt y).toList = [110, 117, 108, 108] := by
  intro e
  rw [ByteArray.toList_eq] at e
  unfold stxt at e
  rw [if_neg h0] at e
  split at e
  · exact absurd e (by decide)
  · split at e
    · exact absurd e (by decide)
    · have := num_bytes y.half 110 (by rw [e]; exact List.mem_cons_self)
      exact absurd this.2 (by decide)
theorem yes_null {y : JV} (h0 : y.kind = 0) : (stxt y).toList = [110, 117, 108, 108] := by
  rw [ByteArray.toList_eq]
  unfold stxt
  rw [if_pos h0]
  rfl
theorem num_size (h : Int) (h1 : -18014398509481984 ≤ h ∧ h ≤ 18014398509481984) (h2 : h.tmod 2 = 0 ∨ -9007199254740992 < h ∧ h < 9007199254740992) : (ntxt h).size ≤ 24 := by
  have hr := tdiv_small h1
  unfold ntxt
  split
  · exact Nat.le_trans (itxt_size _ hr.1 hr.2) (by decide)
  · rename_i ho
    exact ftxt_size h (odd_sml ho h2)
theorem stxt_size (y : JV) (h1 : -18014398509481984 ≤ y.half ∧ y.half ≤ 18014398509481984) (h2 : y.half.tmod 2 = 0 ∨ -9007199254740992 < y.half ∧ y.half < 9007199254740992) : (stxt y).size ≤ 24 := by
  unfold stxt
  split
  · decide
  · split
    · decide
    · split
      · decide
      · exact num_size _ h1 h2
end Go.Proofs.YtbnbemacljjimaaGreatDoor
