/- What the law of Trim asks beside the doors: blank, Str, says and wrong at such an answer, the string's bytes. -/
import Derived.Test.YtmkdkcbkgngfdaaDoorTrimD
namespace Go.Proofs.YtmkdkcbkgngfdaaDoor
open Go.RowKit Go.Lib
set_option linter.unusedVariables false

theorem str_say (n : Nat) (s : ByteArray) (hs : s.size ≤ 9223372036854775807) : Say (n + 1) (strJ s) :=
  ⟨by show (0 : Int) ≤ 4 ∧ (4 : Int) ≤ 6; decide, Or.inr rfl, Or.inl rfl, Or.inr rfl, Or.inr rfl, rfl, by show (-18014398509481984 : Int) ≤ 0 ∧ (0 : Int) ≤ 18014398509481984; decide, Or.inl rfl, Nat.zero_le _, Nat.zero_le _, by intro x hx; exact absurd hx (List.not_mem_nil), by intro i a b h; simp [strJ, JV.keys] at h, by intro x hx; exact absurd hx (List.not_mem_nil), by intro x hx; exact absurd hx (List.not_mem_nil), hs⟩

set_option maxHeartbeats 1000000 in
theorem specStr_any (w : World) (s : ByteArray) : Calls Tryd.prog 30 #[.string s] w fun e w' => e = .returned (.agg #[.int .i64 4, .int .i64 0, .string s, .slice none 0 0, .slice none 0 0, .slice none 0 0]) ∧ Below w.heap.size w w' := by
  go_enter Tryd.func30, Tryd.ntmps30
  go_wp2
  exact bodyPost_ret (v := .agg #[.int .i64 4, .int .i64 0, .string s, .slice none 0 0, .slice none 0 0, .slice none 0 0]) (by simp [results, Tryd.results30, go_sem]) rfl ⟨rfl, (Below.refl _ _).alloc (Nat.le_refl _) _⟩

theorem blank_sp {b : UInt8} (h : b.toNat < 128) : sp b.toNat = (decide ((b.toNat : Int) = 32) || (decide ((9 : Int) ≤ b.toNat) && decide ((b.toNat : Int) ≤ 13))) := by
  rw [sp_small _ h]
  congr 1
  · exact decide_eq_decide.2 (by omega)
  · congr 1
    · exact decide_eq_decide.2 (by omega)
    · exact decide_eq_decide.2 (by omega)

set_option maxHeartbeats 1000000 in
theorem blank_any (w : World) (b : UInt8) (h : b.toNat < 128) : Calls Tryd.prog 29 #[.int .u8 b.toNat] w fun e w' => e = .returned (.bool (sp b.toNat)) ∧ w = w' := by
  have e := blank_sp h
  obtain ⟨c, hc⟩ : ∃ c, sp b.toNat = c := ⟨_, rfl⟩
  rw [hc] at e ⊢
  replace e := hide e
  clear hc
  go_enter Tryd.func29, Tryd.ntmps29
  by_cases h1 : (b.toNat : Int) = 32 <;> by_cases h2 : (9 : Int) ≤ b.toNat <;> by_cases h3 : (b.toNat : Int) ≤ 13
  all_goals
    go_wp2
    go_ret
    refine ⟨?_, rfl⟩
    have e := e.out
    simp [h1, h2, h3] at e ⊢
    first | exact e | exact e.symm | (rw [e, Bool.eq_iff_iff]; simp; omega)

theorem index_get (s : ByteArray) (j : Nat) (hj : j < s.size) (W : World) : (Instr.index 9 (.string s) (.int .i64 (j : Int))).run Tryd.prog W = .ok (.int .u8 (s.get! j).toNat) W := by
  rw [run_index_string (h := Tryd.underlying9)]
  rw [dif_pos ⟨by omega, by omega⟩]
  congr 3
  show (s[((j : Int)).toNat]'_).toNat = _
  simp only [Int.toNat_natCast]
  congr 1
  obtain ⟨⟨l⟩⟩ := s
  show _ = (l.toArray)[j]!
  rw [getElem!_pos _ j hj]
  rfl

theorem from_next (s : ByteArray) (j : Nat) (hj : j < s.size) : fromL s (s.size - j) j = if sp (s.get! j).toNat = true then fromL s (s.size - (j + 1)) (j + 1) else j := by
  obtain ⟨k, hk⟩ : ∃ k, s.size - j = k + 1 := ⟨s.size - j - 1, by omega⟩
  rw [hk, show s.size - (j + 1) = k by omega, fromL, if_pos hj]

theorem from_last (s : ByteArray) : fromL s (s.size - s.size) s.size = s.size := by
  rw [Nat.sub_self]
  rfl
theorem to_cases (s : ByteArray) (j : Nat) : (0 < j → sp (s.get! (j - 1)).toNat = true → toL s (j - 1) = toL s j) ∧ (0 < j → sp (s.get! (j - 1)).toNat = false → j = toL s j) ∧ (j = 0 → j = toL s j) := by
  cases j with
  | zero => exact ⟨fun h => absurd h (Nat.lt_irrefl 0), fun h => absurd h (Nat.lt_irrefl 0), fun _ => rfl⟩
  | succ k =>
    rw [Nat.add_sub_cancel]
    refine ⟨fun _ h => ?_, fun _ h => ?_, fun h => absurd h (Nat.succ_ne_zero k)⟩
    · conv => rhs; unfold toL
      rw [if_pos h]
    · unfold toL
      rw [h, if_neg (by decide)]

theorem index_down (s : ByteArray) (m : Nat) (h0 : 0 < m) (hm : m ≤ s.size) (W : World) : (Instr.index 9 (.string s) (.int .i64 ((m : Int) - 1))).run Tryd.prog W = .ok (.int .u8 (s.get! (m - 1)).toNat) W := by
  rw [show (m : Int) - 1 = ((m - 1 : Nat) : Int) by omega]
  exact index_get s (m - 1) (by omega) W

theorem wrap_down (m : Nat) (h0 : 0 < m) (hm : m ≤ 9223372036854775807) : IntKind.i64.wrap ((m : Int) - 1) = (m : Int) - 1 := by
  rw [IntKind.wrap_i64]; omega

theorem down_nat (m : Nat) (h0 : 0 < m) : Value.int .i64 ((m : Int) - 1) = Value.int .i64 ((m - 1 : Nat) : Int) := by
  rw [show (m : Int) - 1 = ((m - 1 : Nat) : Int) by omega]

theorem slice_from (s : ByteArray) (F : Nat) (h : F ≤ s.size) (W : World) : (Instr.slice 9 (.string s) (some (.int .i64 (F : Int))) none none).run Tryd.prog W = .ok (.string (s.extract F s.size)) W := by
  rw [run_slice_string_l (ht := Tryd.underlying9) (h0 := by omega) (h1 := by omega)]
  rfl
theorem slice_to (s : ByteArray) (T : Nat) (h : T ≤ s.size) (W : World) : (Instr.slice 9 (.string s) none (some (.int .i64 (T : Int))) none).run Tryd.prog W = .ok (.string (s.extract 0 T)) W := by
  rw [run_slice_string_h (ht := Tryd.underlying9) (h0 := by omega) (h2 := by omega)]
  rfl
theorem slice_mid (s : ByteArray) (M T : Nat) (h : M ≤ T) (hT : T ≤ s.size) (W : World) : (Instr.slice 9 (.string s) (some (.int .i64 (M : Int))) (some (.int .i64 (T : Int))) none).run Tryd.prog W = .ok (.string (s.extract M T)) W := by
  rw [run_slice_string (h := Tryd.underlying9) (h0 := by omega) (h1 := by omega) (h2 := by omega)]
  rfl
theorem min_at (F T M : Nat) (h : min F T = M) (ts : Array TypeId) (t : TypeId) (W : World) : (Builtin.min_ ts t #[.int .i64 (F : Int), .int .i64 (T : Int)]).run Tryd.prog W = .ok (.int .i64 (M : Int)) W := by
  rw [run_min_int2]
  congr 2
  subst h
  split <;> omega
end Go.Proofs.YtmkdkcbkgngfdaaDoor
