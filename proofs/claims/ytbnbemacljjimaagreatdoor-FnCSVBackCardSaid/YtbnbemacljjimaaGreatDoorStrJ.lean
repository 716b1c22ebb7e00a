/- A string as plain data, and as an answer. -/
import Derived.Test.YtbnbemacljjimaaGreatDoorSays
import Derived.Test.YtbnbemacljjimaaGreatDoorRes
namespace Go.Proofs.YtbnbemacljjimaaGreatDoor
open Go.RowKit Go.Lib
set_option linter.unusedVariables false

/-- A string as plain data. -/
def strJ (s : ByteArray) : JV := .mk 4 0 s [] [] []

set_option maxHeartbeats 1000000 in
theorem fromGo_str (w : World) (s : ByteArray) :
    Calls Tryz.prog 45 #[.iface 9 (.string s)] w fun e w' => e = .returned (.tuple #[.agg #[.int .i64 4, .int .i64 0, .string s, .slice none 0 0, .slice none 0 0, .slice none 0 0], .bool true]) ∧ Below w.heap.size w w' := by
  go_enter Tryz.func45, Tryz.ntmps45
  go_wp2
  exact bodyPost_ret (v := .tuple #[.agg #[.int .i64 4, .int .i64 0, .string s, .slice none 0 0, .slice none 0 0, .slice none 0 0], .bool true]) (by simp [results, Tryz.results45, go_sem]) rfl ⟨rfl, (Below.refl _ _).alloc (Nat.le_refl _) _⟩

theorem str_leaf (w : World) (P : Nat → Prop) (n : Nat) (s : ByteArray) (hs : s.size ≤ 9223372036854775807) : JP w P (n + 1) (.agg #[.int .i64 4, .int .i64 0, .string s, .slice none 0 0, .slice none 0 0, .slice none 0 0]) (strJ s) :=
  JP.leaf (v := strJ s) rfl rfl rfl hs (by show (-9223372036854775808 : Int) ≤ 4 ∧ (4 : Int) ≤ 9223372036854775807; decide) (by show (-9223372036854775808 : Int) ≤ 0 ∧ (0 : Int) ≤ 9223372036854775807; decide)
theorem str_jat (w : World) (B n : Nat) (s : ByteArray) (hs : s.size ≤ 9223372036854775807) : JAt w B (n + 1) (.agg #[.int .i64 4, .int .i64 0, .string s, .slice none 0 0, .slice none 0 0, .slice none 0 0]) (strJ s) :=
  JP.jat (n + 1) (P := (· < B)) (fun _ h => h) (str_leaf w _ n s hs)
theorem str_gat (w : World) (lo n : Nat) (s : ByteArray) : GAt w lo (n + 1) (.iface 9 (.string s)) (strJ s) :=
  Or.inr (Or.inr (Or.inr (Or.inr (Or.inr (Or.inl ⟨rfl, rfl⟩)))))
theorem str_fg (w : World) (n : Nat) (s : ByteArray) (hs : s.size ≤ 9223372036854775807) : FGat (n + 1) w (.iface 9 (.string s)) (strJ s) := by
  refine (fromGo_str w s).mono ?_
  rintro e w' ⟨rfl, hb⟩
  exact ⟨_, rfl, hb, str_leaf _ _ n s hs⟩

theorem str_say (n : Nat) (s : ByteArray) (hs : s.size ≤ 9223372036854775807) : Say (n + 1) (strJ s) :=
  ⟨by show (0 : Int) ≤ 4 ∧ (4 : Int) ≤ 6; decide, Or.inr rfl, Or.inl rfl, Or.inr rfl, Or.inr rfl, rfl, by show (-18014398509481984 : Int) ≤ 0 ∧ (0 : Int) ≤ 18014398509481984; decide, Or.inl rfl, Nat.zero_le _, Nat.zero_le _, by intro x hx; exact absurd hx (List.not_mem_nil), by intro i a b h; simp [strJ, JV.keys] at h, by intro x hx; exact absurd hx (List.not_mem_nil), by intro x hx; exact absurd hx (List.not_mem_nil), hs⟩
end Go.Proofs.YtbnbemacljjimaaGreatDoor
