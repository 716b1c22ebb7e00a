/- What an answer is as plain data. -/
import Derived.Test.YtbnbemacljjimaaGreatDoorFrom
namespace Go.Proofs.YtbnbemacljjimaaGreatDoor
open Go.RowKit
set_option linter.unusedVariables false

/-- What is no string. -/
def NoStr (x : Value) : Prop := ∀ W : World, (Instr.typeAssert x 20 9 true).run Tryz.prog W = .ok (.tuple #[.string ByteArray.empty, .bool false]) W

theorem GAt.nostr {w : World} {lo n : Nat} {x : Value} {v : JV} (h : GAt w lo n x v) (hk : ¬ v.kind = 4) : NoStr x := by
  intro W
  cases n with
  | zero => exact absurd h (fun h => h)
  | succ n =>
    rcases h with h | h | h | h | h | h | h | h
    · rw [h.2]; exact as_nil_str W
    · rw [h.2]; exact as_bool_str _ W
    · rw [h.2]; exact as_bool_str _ W
    · rw [h.2.2]; exact as_int_str _ W
    · rw [h.2.2]; exact as_float_str _ W
    · exact absurd h.1 hk
    · obtain ⟨-, b, o, c, h, -⟩ := h
      rw [h]; exact as_list_str _ W
    · obtain ⟨-, b, ents, h, -⟩ := h
      rw [h]; exact as_map_str _ W

set_option maxHeartbeats 1000000 in
set_option maxRecDepth 100000 in
theorem result_err (w : World) (v : Value) :
    Calls Tryz.prog 23 #[.iface 136 v] w fun e w' => e = .returned (.agg #[.int .i64 0, .int .i64 0, .string ⟨#[]⟩, .slice none 0 0, .slice none 0 0, .slice none 0 0, .int .i64 1]) ∧ Below w.heap.size w w' := by
  go_enter Tryz.func23, Tryz.ntmps23
  go_wp2
  exact bodyPost_ret (v := .agg #[.int .i64 0, .int .i64 0, .string ⟨#[]⟩, .slice none 0 0, .slice none 0 0, .slice none 0 0, .int .i64 1]) (by simp [results, Tryz.results23, go_sem]) rfl ⟨rfl, (Below.refl _ _).alloc (Nat.le_refl _) _⟩

/-- A number as plain data. -/
def numJ (h : Int) : JV := .mk 3 h ⟨#[]⟩ [] [] []
/-- Nothing. -/
def zeroJ : JV := .mk 0 0 ⟨#[]⟩ [] [] []

theorem zero_jat (w : World) (B n : Nat) : JAt w B (n + 1) (.agg #[.int .i64 0, .int .i64 0, .string ⟨#[]⟩, .slice none 0 0, .slice none 0 0, .slice none 0 0]) zeroJ :=
  JP.jat (n + 1) (P := (· < B)) (fun _ h => h) (JP.leaf (v := zeroJ) rfl rfl rfl (by decide) (by decide) (by decide))
theorem num_jat (w : World) (B n : Nat) (h : Int) (hh : -9223372036854775808 ≤ h ∧ h ≤ 9223372036854775807) : JAt w B (n + 1) (.agg #[.int .i64 3, .int .i64 h, .string ⟨#[]⟩, .slice none 0 0, .slice none 0 0, .slice none 0 0]) (numJ h) :=
  JP.jat (n + 1) (P := (· < B)) (fun _ h => h) (JP.leaf (v := numJ h) rfl rfl rfl (by show (⟨#[]⟩ : ByteArray).size ≤ 9223372036854775807; decide) (by show (-9223372036854775808 : Int) ≤ 3 ∧ (3 : Int) ≤ 9223372036854775807; decide) hh)

/-- An answer: the value, the way it ended. -/
def ResAt (w : World) (B n : Nat) (r : Value) (v : JV) (z : Int) : Prop := ∃ c0 c1 c2 c3 c4 c5, r = .agg #[c0, c1, c2, c3, c4, c5, .int .i64 z] ∧ JAt w B (n + 1) (.agg #[c0, c1, c2, c3, c4, c5]) v

theorem ResAt.keep {w w' : World} {B B' n : Nat} {r : Value} {v : JV} {z : Int} (hk : ∀ p : Addr, p.block < B → w'.cell? p = w.cell? p) (hB : B ≤ B') (h : ResAt w B n r v z) : ResAt w' B' n r v z := by
  obtain ⟨c0, c1, c2, c3, c4, c5, rfl, h⟩ := h
  exact ⟨_, _, _, _, _, _, rfl, JAt.keep hk hB _ _ _ h⟩

theorem num_gat (w : World) (lo n : Nat) (k : Int) : GAt w lo (n + 1) (.iface 3 (.int .i64 k)) (numJ (2 * k)) :=
  Or.inr (Or.inr (Or.inr (Or.inl ⟨rfl, Int.mul_tmod_right 2 k, by show _ = Value.iface _ (.int .i64 ((2 * k).tdiv 2)); rw [Int.mul_tdiv_cancel_left k (by decide)]⟩)))

theorem num_fg (w : World) (n : Nat) (k : Int) (h : -1000000000000000000 ≤ k ∧ k ≤ 1000000000000000000) : FGat (n + 1) w (.iface 3 (.int .i64 k)) (numJ (2 * k)) := by
  refine (fromGo_int w k h).mono ?_
  rintro e w' ⟨rfl, hb⟩
  exact ⟨_, rfl, hb, JP.leaf (v := numJ (2 * k)) rfl rfl rfl (by show (⟨#[]⟩ : ByteArray).size ≤ 9223372036854775807; decide) (by show (-9223372036854775808 : Int) ≤ 3 ∧ (3 : Int) ≤ 9223372036854775807; decide) (by show -9223372036854775808 ≤ 2 * k ∧ 2 * k ≤ 9223372036854775807; omega)⟩

/-- An answer's block, and the world behind the call of a door. -/
theorem door_end {n : Nat} {w W2 W3 : World} {v : JV} {z : Int} {lo : Nat} {c0 c1 c2 c3 c4 c5 : Value} (hlo : w.heap.size < lo) (b2 : Below w.heap.size w W2) (hr : JP W2 (Mid lo W2.heap.size) (n + 1) (.agg #[c0, c1, c2, c3, c4, c5]) v)
    (o3 : Only (· = w.heap.size + 1) W2 W3) (s3 : W3.heap.size = W2.heap.size) (hlo2 : w.heap.size + 1 < lo) : Below w.heap.size w W3 ∧ ResAt W3 W3.heap.size n (.agg #[c0, c1, c2, c3, c4, c5, .int .i64 z]) v z := by
  refine ⟨b2.trans (o3.below (by intro k hk; omega) b2.size), _, _, _, _, _, _, rfl, ?_⟩
  refine JP.jat (n + 1) (P := Mid lo W2.heap.size) (fun b hb => by have := hb.2; omega) ?_
  refine JP.keep (fun p hp => ?_) (fun b hb => hb) _ _ _ hr
  have hp1 := hp.1
  have hp2 := hp.2
  exact World.cell?_of_block (o3.block _ hp2 (by intro e; omega))

end Go.Proofs.YtbnbemacljjimaaGreatDoor
