/- An argument that is a value: it lies in memory as plain data, down to whatever depth. -/
import Derived.Test.YtmkdkcbkgngfdaaDoorLawB
namespace Go.Proofs.YtmkdkcbkgngfdaaDoor
open Go.ChangeShapes Go.WideShapes Go.ChangeAt Go.RowKit Go.Deep
set_option linter.unusedVariables false

theorem cellsVal : Tryd.prog.cellsOf 26 = 6 := by kernel_rfl
theorem cellsStr : Tryd.prog.cellsOf 9 = 1 := by kernel_rfl

theorem add_spot {W : World} {a : Addr} {i : Nat} {v : Value} (h : W.cell? (a.add i) = some v) : a.add i = ⟨a.block, a.off + i, none⟩ := by
  have hs := World.cell?_spot h
  unfold Addr.add at hs ⊢
  split
  · rename_i hi
    subst hi
    rw [if_pos rfl] at hs
    cases a; simp_all
  · rfl

section
variable {H : Type} {enc : TypeId × Value → H} {W : World}
abbrev Tr (enc : TypeId × Value → H) (W : World) (n : Nat) (t : TypeId) (c : Value) (y : DataW H × List MemPlace) : Prop := DataW.trod enc Tryd.prog W 0 (fun _ => true) true n t [c] = some y

set_option maxRecDepth 100000 in
theorem opened_strs {n : Nat} {c : Value} {y : DataW H × List MemPlace} (h : Tr enc W n 24 c y) :
    ∃ (A : Option Addr) (xs : List ByteArray) (cap : Nat), c = .slice A xs.length cap ∧ xs.length ≤ cap ∧ cap ≤ 9223372036854775807 ∧ StrsAt W W.heap.size A xs := by
  rcases open_slice1 Tryd.underlying24 cellsStr h with ⟨hcs, _⟩ | ⟨a, len, cap, m, n', V, D, Pl, hcs, hb, hl, hm, hmm, hx, hi⟩
  · simp at hcs
    exact ⟨none, [], 0, hcs, Nat.le_refl _, by omega, by simp, fun h => absurd h (by simp)⟩
  · simp at hcs
    simp only [if_true] at hmm
    subst hmm
    have key : ∀ i, i < len → ∃ s : ByteArray, W.cell? (a.add i) = some (.string s) ∧ s.size ≤ 9223372036854775807 := by
      intro i hil
      obtain ⟨h1, h2⟩ := hi i (by omega)
      obtain ⟨s, e, -, hsz⟩ := DataW.trod_string Tryd.underlying9 h2
      simp at e
      rw [e] at h1
      exact ⟨s, h1, by unfold maxLen at hsz; omega⟩
    obtain ⟨f, hfn⟩ := choose_lt key
    refine ⟨some a, (List.range len).map f, m, by simpa using hcs, by simpa using hl, by unfold maxLen at hm; omega, fun s hs => ?_, fun hpos => ?_⟩
    · obtain ⟨i, hi, rfl⟩ := List.mem_map.1 hs
      exact (hfn i (by simpa using hi)).2
    · have hpos' : 0 < len := by simpa using hpos
      have h00 := (hfn 0 hpos').1
      have hspot := add_spot h00
      have ha : a = ⟨a.block, a.off, none⟩ := by simpa [Addr.add] using hspot
      have hbl : a.block < W.heap.size := by
        have h := h00
        rw [hspot] at h
        exact World.block_lt_of_cell? (a := ⟨a.block, a.off + 0, none⟩) _ h
      refine ⟨a.block, a.off, by rw [← ha], hbl, fun j y hy => ?_⟩
      have hj : j < len := by have := (List.getElem?_eq_some_iff.1 hy).1; simpa using this
      have hyf : f j = y := by simpa [hj] using hy
      have c0 := (hfn j hj).1
      rw [add_spot c0, hyf] at c0
      exact c0

instance : Inhabited JV := ⟨zeroJ⟩

def OpenAt (W : World) (n : Nat) (c0 c1 c2 c3 c4 c5 : Value) : Prop := ∃ v, JAt W W.heap.size n (.agg #[c0, c1, c2, c3, c4, c5]) v

set_option maxRecDepth 100000 in
theorem opened_vals (n : Nat) (ih : ∀ (m0 m1 m2 m3 m4 m5 : Nat) (c0 c1 c2 c3 c4 c5 : Value) (y0 y1 y2 y3 y4 y5 : DataW H × List MemPlace), Tr enc W m0 22 c0 y0 → Tr enc W m1 3 c1 y1 → Tr enc W m2 9 c2 y2 → Tr enc W m3 23 c3 y3 → Tr enc W m4 24 c4 y4 → Tr enc W m5 23 c5 y5 → OpenAt W n c0 c1 c2 c3 c4 c5)
    {m : Nat} {c : Value} {y : DataW H × List MemPlace} (h : Tr enc W m 23 c y) :
    ∃ (A : Option Addr) (xs : List JV) (cap : Nat), c = .slice A xs.length cap ∧ xs.length ≤ cap ∧ cap ≤ 9223372036854775807 ∧ VecAt (JAt W W.heap.size n) W W.heap.size A xs := by
  rcases open_slice_fields Tryd.underlying23 Tryd.underlying26 (by kernel_rfl) cellsVal h with ⟨hcs, _⟩ | ⟨a, len, cap, m, D, Pl, hcs, hb, hl, hm, hmm, hx, hi⟩
  · simp at hcs
    exact ⟨none, [], 0, hcs, Nat.le_refl _, by omega, fun h => absurd h (by simp)⟩
  · simp at hcs
    simp only [if_true] at hmm
    subst hmm
    have key : ∀ i, i < len → ∃ v : JV, ∃ c0 c1 c2 c3 c4 c5, W.cell? (a.add (i * 6)) = some c0 ∧ W.cell? (a.add (i * 6 + 1)) = some c1 ∧ W.cell? (a.add (i * 6 + 2)) = some c2 ∧ W.cell? (a.add (i * 6 + 3)) = some c3 ∧ W.cell? (a.add (i * 6 + 4)) = some c4 ∧ W.cell? (a.add (i * 6 + 5)) = some c5 ∧ JAt W W.heap.size n (.agg #[c0, c1, c2, c3, c4, c5]) v := by
      intro i hil
      obtain ⟨ys, n', _, _, _, hj⟩ := hi i (by omega)
      obtain ⟨v0, y0, e0, _, t0⟩ := hj 0 _ rfl
      obtain ⟨v1, y1, e1, _, t1⟩ := hj 1 _ rfl
      obtain ⟨v2, y2, e2, _, t2⟩ := hj 2 _ rfl
      obtain ⟨v3, y3, e3, _, t3⟩ := hj 3 _ rfl
      obtain ⟨v4, y4, e4, _, t4⟩ := hj 4 _ rfl
      obtain ⟨v5, y5, e5, _, t5⟩ := hj 5 _ rfl
      obtain ⟨v, hv⟩ := ih _ _ _ _ _ _ _ _ _ _ _ _ _ _ _ _ _ _ t0 t1 t2 t3 t4 t5
      exact ⟨v, v0, v1, v2, v3, v4, v5, e0, e1, e2, e3, e4, e5, hv⟩
    obtain ⟨f, hfn⟩ := choose_lt key
    refine ⟨some a, (List.range len).map f, m, by simpa using hcs, by simpa using hl, by unfold maxLen at hm; omega, fun hpos => ?_⟩
    have hpos' : 0 < len := by simpa using hpos
    obtain ⟨z0, _, _, _, _, _, h00, _⟩ := hfn 0 hpos'
    have hspot := add_spot h00
    simp only [Nat.zero_mul] at h00 hspot
    have ha : a = ⟨a.block, a.off, none⟩ := by simpa [Addr.add] using hspot
    have hbl : a.block < W.heap.size := by
      have h := h00
      rw [hspot] at h
      exact World.block_lt_of_cell? (a := ⟨a.block, a.off + 0, none⟩) _ h
    refine ⟨a.block, a.off, by rw [← ha], hbl, fun j y hy => ?_⟩
    have hj : j < len := by have := (List.getElem?_eq_some_iff.1 hy).1; simpa using this
    have hyf : f j = y := by simpa [hj] using hy
    obtain ⟨c0, c1, c2, c3, c4, c5, e0, e1, e2, e3, e4, e5, hv⟩ := hfn j hj
    rw [hyf] at hv
    rw [add_spot e0] at e0
    rw [add_spot e1] at e1
    rw [add_spot e2] at e2
    rw [add_spot e3] at e3
    rw [add_spot e4] at e4
    rw [add_spot e5] at e5
    exact ⟨c0, c1, c2, c3, c4, c5, e0, e1, e2, e3, e4, e5, hv⟩

theorem opened : ∀ (n m0 m1 m2 m3 m4 m5 : Nat) (c0 c1 c2 c3 c4 c5 : Value) (y0 y1 y2 y3 y4 y5 : DataW H × List MemPlace), Tr enc W m0 22 c0 y0 → Tr enc W m1 3 c1 y1 → Tr enc W m2 9 c2 y2 → Tr enc W m3 23 c3 y3 → Tr enc W m4 24 c4 y4 → Tr enc W m5 23 c5 y5 → OpenAt W n c0 c1 c2 c3 c4 c5
  | 0 => fun _ _ _ _ _ _ _ _ _ _ _ _ _ _ _ _ _ _ _ _ _ _ _ _ => ⟨zeroJ, trivial⟩
  | n + 1 => by
    intro m0 m1 m2 m3 m4 m5 c0 c1 c2 c3 c4 c5 y0 y1 y2 y3 y4 y5 h0 h1 h2 h3 h4 h5
    obtain ⟨k, e0, -, w0⟩ := DataW.trod_int Tryd.underlying22 h0
    obtain ⟨q, e1, -, w1⟩ := DataW.trod_int Tryd.underlying3 h1
    obtain ⟨s, e2, -, w2⟩ := DataW.trod_string Tryd.underlying9 h2
    simp at e0 e1 e2
    subst e0 e1 e2
    obtain ⟨la, ls, lc, rfl, l1, l2, l3⟩ := opened_vals n (fun m0 m1 m2 m3 m4 m5 c0 c1 c2 c3 c4 c5 y0 y1 y2 y3 y4 y5 => opened n m0 m1 m2 m3 m4 m5 c0 c1 c2 c3 c4 c5 y0 y1 y2 y3 y4 y5) h3
    obtain ⟨ka, ks, kc, rfl, k1, k2, k3⟩ := opened_strs h4
    obtain ⟨va, vs, vc, rfl, v1, v2, v3⟩ := opened_vals n (fun m0 m1 m2 m3 m4 m5 c0 c1 c2 c3 c4 c5 y0 y1 y2 y3 y4 y5 => opened n m0 m1 m2 m3 m4 m5 c0 c1 c2 c3 c4 c5 y0 y1 y2 y3 y4 y5) h5
    have b0 : -9223372036854775808 ≤ k ∧ k ≤ 9223372036854775807 := by simpa [Lit.wf, IntKind.min, IntKind.max, IntKind.signed, IntKind.bits] using w0
    have b1 : -9223372036854775808 ≤ q ∧ q ≤ 9223372036854775807 := by simpa [Lit.wf, IntKind.min, IntKind.max, IntKind.signed, IntKind.bits] using w1
    exact ⟨.mk k q s ls ks vs, la, lc, ka, kc, va, vc, rfl, l1, k1, v1, l2, k2, v2, by unfold maxLen at w2; show s.size ≤ _; omega, b0, b1, l3, k3, v3⟩
end

end Go.Proofs.YtmkdkcbkgngfdaaDoor
