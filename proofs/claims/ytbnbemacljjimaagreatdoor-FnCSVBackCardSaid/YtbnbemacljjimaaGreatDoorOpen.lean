/- An argument that is a value: it lies in memory as plain data, down to whatever depth. -/
import Derived.Test.YtbnbemacljjimaaGreatDoorLawB
namespace Go.Proofs.YtbnbemacljjimaaGreatDoor
open Go.ChangeShapes Go.WideShapes Go.ChangeAt Go.RowKit Go.Deep
set_option linter.unusedVariables false

theorem cellsVal : Tryz.prog.cellsOf 26 = 6 := by kernel_rfl
theorem cellsStr : Tryz.prog.cellsOf 9 = 1 := by kernel_rfl

theorem add_spot {W : World} {a : Addr} {i : Nat} {v : Value} (h : W.cell? (a.add i) = some v) : a.add i = ⟨a.block, a.off + i, none⟩ := by
  have hs := World.cell?_spot h
  unfold Addr.add at hs ⊢
  split
  · rename_i hi
    subst hi
    rw [if_pos rfl] at hs
    cases a; simp_all
  · rfl

section
variable {H : Type} {P : Program}
theorem mem_weightsAll {e : TypeId} {d : DataW H} {k : Nat} (hk : k ∈ d.weights P e) : ∀ (l : List (DataW H)), d ∈ l → k ∈ DataW.weightsAll P e l
  | [], h => absurd h List.not_mem_nil
  | x :: l, h => by
    rw [DataW.weightsAll, List.mem_append]
    rcases List.mem_cons.1 h with rfl | h
    · exact Or.inl hk
    · exact Or.inr (mem_weightsAll hk l h)
theorem mem_weightsEach {t : TypeId} {d : DataW H} {k : Nat} (hk : k ∈ d.weights P t) : ∀ (j : Nat) (ts : List TypeId) (l : List (DataW H)), ts[j]? = some t → l[j]? = some d → k ∈ DataW.weightsEach P ts l
  | _, [], _, h, _ => by simp at h
  | _, _ :: _, [], _, h => by simp at h
  | 0, a :: ts, x :: l, h, h' => by
    simp at h h'
    subst h h'
    rw [DataW.weightsEach, List.mem_append]
    exact Or.inl hk
  | j + 1, a :: ts, x :: l, h, h' => by
    rw [DataW.weightsEach, List.mem_append]
    exact Or.inr (mem_weightsEach hk j ts l (by simpa using h) (by simpa using h'))
/-- All that a datum weighs is within the form's reach. -/
def Wt (P : Program) (t : TypeId) (d : DataW H) : Prop := ∀ k ∈ d.weights P t, k ≤ 140737488351232
theorem Wt.elem {t e : TypeId} {elems spare : List (DataW H)} (h : Wt P t (.slice elems spare)) (ht : P.underlying t = some (.slice e)) {d : DataW H} (hd : d ∈ elems) : Wt P e d := by
  intro k hk
  refine h k ?_
  rw [DataW.weights, ht]
  exact List.mem_cons_of_mem _ (List.mem_append.2 (Or.inl (mem_weightsAll hk _ hd)))
theorem Wt.part {t : TypeId} {fs : Array Field} {parts : List (DataW H)} (h : Wt P t (.agg parts)) (ht : P.underlying t = some (.struct fs)) {j : Nat} {f : Field} {d : DataW H} (hf : fs[j]? = some f) (hd : parts[j]? = some d) : Wt P f.type d := by
  intro k hk
  refine h k ?_
  rw [DataW.weights, ht]
  exact mem_weightsEach hk j _ _ (by simp [hf]) hd
theorem Wt.str {t : TypeId} {l : List UInt8} (h : Wt P t (.lit (.string l) : DataW H)) : l.length ≤ 140737488351232 := h _ (by rw [DataW.weights]; exact List.mem_singleton.2 rfl)
end

section
variable {H : Type} {enc : TypeId × Value → H} {W : World}
abbrev Tr (enc : TypeId × Value → H) (W : World) (n : Nat) (t : TypeId) (c : Value) (y : DataW H × List MemPlace) : Prop := DataW.trod enc Tryz.prog W 0 (fun _ => true) true n t [c] = some y

set_option maxRecDepth 100000 in
theorem opened_strs {n : Nat} {c : Value} {y : DataW H × List MemPlace} (h : Tr enc W n 24 c y) (hw : Wt Tryz.prog 24 y.1) :
    ∃ (A : Option Addr) (xs : List ByteArray) (cap : Nat), c = .slice A xs.length cap ∧ xs.length ≤ cap ∧ cap ≤ 9223372036854775807 ∧ StrsAt W W.heap.size A xs ∧ ∀ s ∈ xs, s.size ≤ 140737488351232 := by
  rcases open_slice1 Tryz.underlying24 cellsStr h with ⟨hcs, _⟩ | ⟨a, len, cap, m, n', V, D, Pl, hcs, hb, hl, hm, hmm, hx, hi⟩
  · simp at hcs
    exact ⟨none, [], 0, hcs, Nat.le_refl _, by omega, ⟨by simp, fun h => absurd h (by simp)⟩, by simp⟩
  · simp at hcs
    simp only [if_true] at hmm
    subst hmm
    have key : ∀ i, i < len → ∃ s : ByteArray, W.cell? (a.add i) = some (.string s) ∧ s.size ≤ 9223372036854775807 ∧ s.size ≤ 140737488351232 := by
      intro i hil
      obtain ⟨h1, h2⟩ := hi i (by omega)
      obtain ⟨s, e, hd, hsz⟩ := DataW.trod_string Tryz.underlying9 h2
      simp at e hd
      rw [e] at h1
      have hwi : Wt Tryz.prog 9 (D i) := (hx ▸ hw).elem Tryz.underlying24 (List.mem_map.2 ⟨i, List.mem_range.2 hil, rfl⟩)
      rw [hd.1] at hwi
      exact ⟨s, h1, by unfold maxLen at hsz; omega, by simpa using hwi.str⟩
    obtain ⟨f, hfn⟩ := choose_lt key
    refine ⟨some a, (List.range len).map f, m, by simpa using hcs, by simpa using hl, by unfold maxLen at hm; omega, ⟨fun s hs => ?_, fun hpos => ?_⟩, fun s hs => ?_⟩
    · obtain ⟨i, hi, rfl⟩ := List.mem_map.1 hs
      exact (hfn i (by simpa using hi)).2.1
    · have hpos' : 0 < len := by simpa using hpos
      have h00 := (hfn 0 hpos').1
      have hspot := add_spot h00
      have ha : a = ⟨a.block, a.off, none⟩ := by simpa [Addr.add] using hspot
      have hbl : a.block < W.heap.size := by
        have h := h00
        rw [hspot] at h
        exact World.block_lt_of_cell? (a := ⟨a.block, a.off + 0, none⟩) _ h
      refine ⟨a.block, a.off, by rw [← ha], hbl, fun j y hy => ?_⟩
      have hj : j < len := by have := (List.getElem?_eq_some_iff.1 hy).1; simpa using this
      have hyf : f j = y := by simpa [hj] using hy
      have c0 := (hfn j hj).1
      rw [add_spot c0, hyf] at c0
      exact c0
    · obtain ⟨i, hi, rfl⟩ := List.mem_map.1 hs
      exact (hfn i (by simpa using hi)).2.2

instance : Inhabited JV := ⟨zeroJ⟩

def OpenAt (W : World) (n : Nat) (c0 c1 c2 c3 c4 c5 : Value) : Prop := ∃ v, JAt W W.heap.size n (.agg #[c0, c1, c2, c3, c4, c5]) v ∧ Light n v

set_option maxRecDepth 100000 in
theorem opened_vals (n : Nat) (ih : ∀ (m0 m1 m2 m3 m4 m5 : Nat) (c0 c1 c2 c3 c4 c5 : Value) (y0 y1 y2 y3 y4 y5 : DataW H × List MemPlace), Tr enc W m0 22 c0 y0 → Tr enc W m1 3 c1 y1 → Tr enc W m2 9 c2 y2 → Tr enc W m3 23 c3 y3 → Tr enc W m4 24 c4 y4 → Tr enc W m5 23 c5 y5 → Wt Tryz.prog 9 y2.1 → Wt Tryz.prog 23 y3.1 → Wt Tryz.prog 24 y4.1 → Wt Tryz.prog 23 y5.1 → OpenAt W n c0 c1 c2 c3 c4 c5)
    {m : Nat} {c : Value} {y : DataW H × List MemPlace} (h : Tr enc W m 23 c y) (hw : Wt Tryz.prog 23 y.1) :
    ∃ (A : Option Addr) (xs : List JV) (cap : Nat), c = .slice A xs.length cap ∧ xs.length ≤ cap ∧ cap ≤ 9223372036854775807 ∧ VecAt (JAt W W.heap.size n) W W.heap.size A xs ∧ ∀ x ∈ xs, Light n x := by
  rcases open_slice_fields Tryz.underlying23 Tryz.underlying26 (by kernel_rfl) cellsVal h with ⟨hcs, _⟩ | ⟨a, len, cap, m, D, Pl, hcs, hb, hl, hm, hmm, hx, hi⟩
  · simp at hcs
    exact ⟨none, [], 0, hcs, Nat.le_refl _, by omega, fun h => absurd h (by simp), by simp⟩
  · simp at hcs
    simp only [if_true] at hmm
    subst hmm
    have key : ∀ i, i < len → ∃ v : JV, ∃ c0 c1 c2 c3 c4 c5, W.cell? (a.add (i * 6)) = some c0 ∧ W.cell? (a.add (i * 6 + 1)) = some c1 ∧ W.cell? (a.add (i * 6 + 2)) = some c2 ∧ W.cell? (a.add (i * 6 + 3)) = some c3 ∧ W.cell? (a.add (i * 6 + 4)) = some c4 ∧ W.cell? (a.add (i * 6 + 5)) = some c5 ∧ JAt W W.heap.size n (.agg #[c0, c1, c2, c3, c4, c5]) v ∧ Light n v := by
      intro i hil
      obtain ⟨ys, n', hDi, _, _, hj⟩ := hi i (by omega)
      have hwi : Wt Tryz.prog 26 (D i) := (hx ▸ hw).elem Tryz.underlying23 (List.mem_map.2 ⟨i, List.mem_range.2 hil, rfl⟩)
      rw [hDi] at hwi
      obtain ⟨v0, y0, e0, s0, t0⟩ := hj 0 _ rfl
      obtain ⟨v1, y1, e1, s1, t1⟩ := hj 1 _ rfl
      obtain ⟨v2, y2, e2, s2, t2⟩ := hj 2 _ rfl
      obtain ⟨v3, y3, e3, s3, t3⟩ := hj 3 _ rfl
      obtain ⟨v4, y4, e4, s4, t4⟩ := hj 4 _ rfl
      obtain ⟨v5, y5, e5, s5, t5⟩ := hj 5 _ rfl
      have u := fun {j : Nat} {f : Field} {y : DataW H × List MemPlace} (hf : _) (hy : ys[j]? = some y) => hwi.part Tryz.underlying26 (j := j) (f := f) hf (show (ys.map (·.1))[j]? = some y.1 by rw [List.getElem?_map, hy]; rfl)
      obtain ⟨v, hv⟩ := ih _ _ _ _ _ _ _ _ _ _ _ _ _ _ _ _ _ _ t0 t1 t2 t3 t4 t5 (u (j := 2) rfl s2) (u (j := 3) rfl s3) (u (j := 4) rfl s4) (u (j := 5) rfl s5)
      exact ⟨v, v0, v1, v2, v3, v4, v5, e0, e1, e2, e3, e4, e5, hv⟩
    obtain ⟨f, hfn⟩ := choose_lt key
    refine ⟨some a, (List.range len).map f, m, by simpa using hcs, by simpa using hl, by unfold maxLen at hm; omega, fun hpos => ?_, fun x hx => ?_⟩
    rotate_left
    · obtain ⟨i, hi, rfl⟩ := List.mem_map.1 hx
      obtain ⟨_, _, _, _, _, _, _, _, _, _, _, _, _, hl⟩ := hfn i (by simpa using hi)
      exact hl
    have hpos' : 0 < len := by simpa using hpos
    obtain ⟨z0, _, _, _, _, _, h00, _⟩ := hfn 0 hpos'
    have hspot := add_spot h00
    simp only [Nat.zero_mul] at h00 hspot
    have ha : a = ⟨a.block, a.off, none⟩ := by simpa [Addr.add] using hspot
    have hbl : a.block < W.heap.size := by
      have h := h00
      rw [hspot] at h
      exact World.block_lt_of_cell? (a := ⟨a.block, a.off + 0, none⟩) _ h
    refine ⟨a.block, a.off, by rw [← ha], hbl, fun j y hy => ?_⟩
    have hj : j < len := by have := (List.getElem?_eq_some_iff.1 hy).1; simpa using this
    have hyf : f j = y := by simpa [hj] using hy
    obtain ⟨c0, c1, c2, c3, c4, c5, e0, e1, e2, e3, e4, e5, hv, -⟩ := hfn j hj
    rw [hyf] at hv
    rw [add_spot e0] at e0
    rw [add_spot e1] at e1
    rw [add_spot e2] at e2
    rw [add_spot e3] at e3
    rw [add_spot e4] at e4
    rw [add_spot e5] at e5
    exact ⟨c0, c1, c2, c3, c4, c5, e0, e1, e2, e3, e4, e5, hv⟩

theorem opened : ∀ (n m0 m1 m2 m3 m4 m5 : Nat) (c0 c1 c2 c3 c4 c5 : Value) (y0 y1 y2 y3 y4 y5 : DataW H × List MemPlace), Tr enc W m0 22 c0 y0 → Tr enc W m1 3 c1 y1 → Tr enc W m2 9 c2 y2 → Tr enc W m3 23 c3 y3 → Tr enc W m4 24 c4 y4 → Tr enc W m5 23 c5 y5 → Wt Tryz.prog 9 y2.1 → Wt Tryz.prog 23 y3.1 → Wt Tryz.prog 24 y4.1 → Wt Tryz.prog 23 y5.1 → OpenAt W n c0 c1 c2 c3 c4 c5
  | 0 => fun _ _ _ _ _ _ _ _ _ _ _ _ _ _ _ _ _ _ _ _ _ _ _ _ _ _ _ _ => ⟨zeroJ, trivial, trivial⟩
  | n + 1 => by
    intro m0 m1 m2 m3 m4 m5 c0 c1 c2 c3 c4 c5 y0 y1 y2 y3 y4 y5 h0 h1 h2 h3 h4 h5 z2 z3 z4 z5
    obtain ⟨k, e0, -, w0⟩ := DataW.trod_int Tryz.underlying22 h0
    obtain ⟨q, e1, -, w1⟩ := DataW.trod_int Tryz.underlying3 h1
    obtain ⟨s, e2, hd, w2⟩ := DataW.trod_string Tryz.underlying9 h2
    simp at e0 e1 e2
    rw [hd] at z2
    have z2' : s.size ≤ 140737488351232 := by simpa using z2.str
    subst e0 e1 e2
    obtain ⟨la, ls, lc, rfl, l1, l2, l3, l4⟩ := opened_vals n (fun m0 m1 m2 m3 m4 m5 c0 c1 c2 c3 c4 c5 y0 y1 y2 y3 y4 y5 => opened n m0 m1 m2 m3 m4 m5 c0 c1 c2 c3 c4 c5 y0 y1 y2 y3 y4 y5) h3 z3
    obtain ⟨ka, ks, kc, rfl, k1, k2, k3, k4⟩ := opened_strs h4 z4
    obtain ⟨va, vs, vc, rfl, v1, v2, v3, v4⟩ := opened_vals n (fun m0 m1 m2 m3 m4 m5 c0 c1 c2 c3 c4 c5 y0 y1 y2 y3 y4 y5 => opened n m0 m1 m2 m3 m4 m5 c0 c1 c2 c3 c4 c5 y0 y1 y2 y3 y4 y5) h5 z5
    have b0 : -9223372036854775808 ≤ k ∧ k ≤ 9223372036854775807 := by simpa [Lit.wf, IntKind.min, IntKind.max, IntKind.signed, IntKind.bits] using w0
    have b1 : -9223372036854775808 ≤ q ∧ q ≤ 9223372036854775807 := by simpa [Lit.wf, IntKind.min, IntKind.max, IntKind.signed, IntKind.bits] using w1
    exact ⟨.mk k q s ls ks vs, ⟨la, lc, ka, kc, va, vc, rfl, l1, k1, v1, l2, k2, v2, by unfold maxLen at w2; show s.size ≤ _; omega, b0, b1, l3, k3, v3⟩, z2', l4, k4, v4⟩
end

end Go.Proofs.YtbnbemacljjimaaGreatDoor
