/- What a statement asks of an answer: that it is an error, or a value. -/
import Derived.Test.YtmkdkcbkgngfdaaDoorByte
namespace Go.Proofs.YtmkdkcbkgngfdaaDoor
open Go.RowKit
set_option linter.unusedVariables false

theorem zero_say (n : Nat) : Say (n + 1) zeroJ :=
  ⟨by decide, Or.inr rfl, Or.inr (by show (⟨#[]⟩ : ByteArray).toList = []; rw [ByteArray.toList_eq]), Or.inr rfl, Or.inr rfl, rfl, by decide, by decide, by decide, by decide, by intro x hx; exact absurd hx (List.not_mem_nil), by intro i a b h; simp [zeroJ, JV.keys] at h, by intro x hx; exact absurd hx (List.not_mem_nil), by intro x hx; exact absurd hx (List.not_mem_nil), by show (⟨#[]⟩ : ByteArray).size ≤ 9223372036854775807; decide⟩

theorem num_say (n : Nat) (h : Int) (h1 : -18014398509481984 ≤ h ∧ h ≤ 18014398509481984) (h2 : h.tmod 2 = 0 ∨ -9007199254740992 < h ∧ h < 9007199254740992) : Say (n + 1) (numJ h) :=
  ⟨by show (0 : Int) ≤ 3 ∧ (3 : Int) ≤ 6; decide, Or.inl rfl, Or.inr (by show (⟨#[]⟩ : ByteArray).toList = []; rw [ByteArray.toList_eq]), Or.inr rfl, Or.inr rfl, rfl, h1, h2, Nat.zero_le _, Nat.zero_le _, by intro x hx; exact absurd hx (List.not_mem_nil), by intro i a b h; simp [numJ, JV.keys] at h, by intro x hx; exact absurd hx (List.not_mem_nil), by intro x hx; exact absurd hx (List.not_mem_nil), by show (⟨#[]⟩ : ByteArray).size ≤ 9223372036854775807; decide⟩

set_option maxHeartbeats 1000000 in
set_option maxRecDepth 100000 in
theorem says_any (n : Nat) (w : World) (B : Nat) (r y : Value) (v : JV) (hr : ResAt w B n r v 0) (hy : JAt w B (n + 1) y v) (hs : Say (n + 1) v) (hB : B ≤ w.heap.size) :
    Calls Tryd.prog 12 #[r, y] w fun e w' => e = .returned (.bool true) ∧ Below w.heap.size w w' := by
  obtain ⟨c0, c1, c2, c3, c4, c5, rfl, hx⟩ := hr
  have hy' := hide hy
  obtain ⟨la, lc, ka, kc, va, vc, rfl, -⟩ := hy
  obtain ⟨W, hW⟩ : ∃ W, W = (w.alloc (.cells #[c0, c1, c2, c3, c4, c5, .int .i64 0] 30)).alloc (.cells #[.int .i64 v.kind, .int .i64 v.half, .string v.text, .slice la v.list.length lc, .slice ka v.keys.length kc, .slice va v.vals.length vc] 26) := ⟨_, rfl⟩
  have bW : Below w.heap.size w W := by rw [hW]; exact Below.alloc (Below.alloc (Below.refl _ _) (Nat.le_refl _) _) (by simp) _
  have hfr : ∀ p : Addr, p.block < B → W.cell? p = w.cell? p := fun p hp => bW.cell (by omega)
  have hBW := Nat.le_trans hB bW.size
  have hc := hide (same_any (n + 1) W B _ _ v (JAt.keep hfr (Nat.le_refl _) _ _ _ hx) (JAt.keep hfr (Nat.le_refl _) _ _ _ hy'.out) hs hBW)
  replace bW := hide bW
  clear hfr hs hx hy'
  go_enter Tryd.func12, Tryd.ntmps12
  go_wp2_with fail
  rw [← hW]
  clear hW
  refine hc.out.mono ?_
  rintro e W2 ⟨rfl, hb2⟩
  replace hb2 := hide (bW.out.trans (hb2.mono bW.out.size))
  go_wp2
  go_ret
  exact ⟨rfl, hb2.out⟩

set_option maxHeartbeats 1000000 in
set_option maxRecDepth 100000 in
theorem wrong_any (n : Nat) (w : World) (B : Nat) (r : Value) (hr : ResAt w B n r zeroJ 1) (hB : B ≤ w.heap.size) :
    Calls Tryd.prog 11 #[r] w fun e w' => e = .returned (.bool true) ∧ Below w.heap.size w w' := by
  obtain ⟨c0, c1, c2, c3, c4, c5, rfl, hx⟩ := hr
  obtain ⟨W, hW⟩ : ∃ W, W = w.alloc (.cells #[c0, c1, c2, c3, c4, c5, .int .i64 1] 30) := ⟨_, rfl⟩
  have bW : Below w.heap.size w W := by rw [hW]; exact Below.alloc (Below.refl _ _) (Nat.le_refl _) _
  have hfr : ∀ p : Addr, p.block < B → W.cell? p = w.cell? p := fun p hp => bW.cell (by omega)
  have hBW := Nat.le_trans hB bW.size
  have hc := hide (same_any (n + 1) W B _ _ zeroJ (JAt.keep hfr (Nat.le_refl _) _ _ _ hx) (zero_jat W B n) (zero_say n) hBW)
  replace bW := hide bW
  clear hfr hx
  go_enter Tryd.func11, Tryd.ntmps11
  go_wp2_with fail
  rw [← hW]
  clear hW
  refine hc.out.mono ?_
  rintro e W2 ⟨rfl, hb2⟩
  replace hb2 := hide (bW.out.trans (hb2.mono bW.out.size))
  go_wp2
  go_ret
  exact ⟨rfl, hb2.out⟩

set_option maxHeartbeats 1000000 in
theorem specNum_any (w : World) (k : Int) (h : -1000000000000000000 ≤ k ∧ k ≤ 1000000000000000000) : Calls Tryd.prog 13 #[.int .i64 k] w fun e w' => e = .returned (.agg #[.int .i64 3, .int .i64 (2 * k), .string ⟨#[]⟩, .slice none 0 0, .slice none 0 0, .slice none 0 0]) ∧ Below w.heap.size w w' := by
  have hw : IntKind.i64.wrap (2 * k) = 2 * k := by rw [IntKind.wrap_i64]; omega
  go_enter Tryd.func13, Tryd.ntmps13
  go_wp2
  exact bodyPost_ret (v := .agg #[.int .i64 3, .int .i64 (2 * k), .string ⟨#[]⟩, .slice none 0 0, .slice none 0 0, .slice none 0 0]) (by simp [results, Tryd.results13, go_sem]) rfl ⟨rfl, (Below.refl _ _).alloc (Nat.le_refl _) _⟩
end Go.Proofs.YtmkdkcbkgngfdaaDoor
