/- For every list of calls on the machine's stacks the statement FnForks returns true and leaves its argument as it was. Conditions: none. -/
import Derived.Test.YtlemajapimeciaaForkL
namespace Go.Proofs.Ytlemajapimeciaa.fnForks
open Go.ChangeShapes Go.WideShapes Go.ChangeAt Go.RowKit Go.Deep
set_option linter.unusedVariables false

theorem own : ownKnob Try.prog.godebug = none := by kernel_rfl
theorem laidOut : laidOutB Try.prog = true := by kernel_rfl
theorem cells37 : Try.prog.cellsOf 37 = 2 := by kernel_rfl

theorem add_spot {W : World} {a : Addr} {i : Nat} {v : Value} (h : W.cell? (a.add i) = some v) : a.add i = ⟨a.block, a.off + i, none⟩ := by
  have hs := World.cell?_spot h
  unfold Addr.add at hs ⊢
  split
  · rename_i hi
    subst hi
    rw [if_pos rfl] at hs
    cases a; simp_all
  · rfl

set_option maxRecDepth 100000 in
theorem opened {H : Type} {enc : TypeId × Value → H} {W : World} {fuel : Nat} {a0 : Option Addr} {len0 cap0 : Nat} {d : DataW H} {p : List MemPlace}
    (hf : DataW.trod enc Try.prog W 0 (fun _ => true) true fuel 27 [.slice a0 len0 cap0] = some (d, p)) :
    ∃ xs : List (Int × Int), len0 = xs.length ∧ xs.length ≤ 9223372036854775807 ∧ (0 < xs.length → ∃ b o, a0 = some ⟨b, o, none⟩ ∧ OpList W W.heap.size b o xs) := by
  rcases open_slice_fields Try.underlying27 Try.underlying37 (by kernel_rfl) cells37 hf with ⟨hcs, _⟩ | ⟨a, len, cap, m, D, Pl, hcs, hb, hl, hm, hmm, hx, hi⟩
  · simp at hcs
    obtain ⟨rfl, rfl, rfl⟩ := hcs
    exact ⟨[], rfl, by simp, fun h => absurd h (by simp)⟩
  · simp at hcs
    obtain ⟨rfl, rfl, rfl⟩ := hcs
    simp only [if_true] at hmm
    subst hmm
    have key : ∀ i, i < len0 → ∃ y : Int × Int, W.cell? (a.add (i * 2)) = some (.int .i64 y.1) ∧ W.cell? (a.add (i * 2 + 1)) = some (.int .i64 y.2) := by
      intro i hil
      obtain ⟨ys, n, _, _, _, hj⟩ := hi i (by omega)
      obtain ⟨v0, y0, c0, _, t0⟩ := hj 0 _ rfl
      obtain ⟨v1, y1, c1, _, t1⟩ := hj 1 _ rfl
      obtain ⟨k0, e0, _, _⟩ := DataW.trod_int Try.underlying3 t0
      obtain ⟨k1, e1, _, _⟩ := DataW.trod_int Try.underlying3 t1
      simp at e0 e1
      subst e0 e1
      exact ⟨(k0, k1), c0, c1⟩
    obtain ⟨f, hfn⟩ := choose_lt key
    refine ⟨(List.range len0).map f, by simp, by simp; unfold maxLen at hm; omega, fun hpos => ?_⟩
    have hpos' : 0 < len0 := by simpa using hpos
    have h00 := (hfn 0 hpos').1
    have hspot := add_spot h00
    simp only [Nat.zero_mul] at h00 hspot
    have ha : a = ⟨a.block, a.off, none⟩ := by simpa [Addr.add] using hspot
    have hbl : a.block < W.heap.size := by
      have h := h00
      rw [hspot] at h
      exact World.block_lt_of_cell? (a := ⟨a.block, a.off + 0, none⟩) _ h
    refine ⟨a.block, a.off, ?_, hbl, ?_⟩
    · rw [← ha]
    · intro j y hy
      have hj : j < len0 := by have := (List.getElem?_eq_some_iff.1 hy).1; simpa using this
      have hyf : f j = y := by simpa [hj] using hy
      obtain ⟨c0, c1⟩ := hfn j hj
      rw [add_spot c0] at c0
      rw [add_spot c1] at c1
      rw [hyf] at c0 c1
      exact ⟨c0, c1⟩

set_option maxRecDepth 100000 in
theorem lifted (os : Os) (started : os.Started) (H : Type) (enc : TypeId × Value → H) :
    ReturnsInHanded {} Try.checked os 4 .any (Rows.fnForksSpec.pre6 enc Try.prog Try.f4 Rows.fnForksRow.domain false) (Rows.fnForksSpec.post enc Try.prog Try.f4 false true false false) := by
  refine returnsInHanded_of_change (C := Try.checked) own started (by kernel_rfl) Try.func4
    (ChangeSpec.witness6 (enc := enc) (C := Try.checked) false ⟨#[], #[.slice none 0 0], []⟩ 8 (by kernel_rfl) (by kernel_rfl) (by kernel_rfl) (by kernel_rfl)) ?_
  intro W base args ds gs before hval0 hW hcnd _
  have hval : ∀ (j : Nat) t v, Try.f4.params[j]? = some t → args[j]? = some v → Value.okWide Try.prog W .any base t v := hval0
  have hW' := hW
  obtain ⟨p, q, hA0, hV, rfl, hfz, hnd⟩ := hW
  have hA : DataW.TrodAll enc Try.prog W 0 (fun _ => true) true Try.f4.params.toList args.toList ds p := hA0
  rw [Try.params4] at hA hval
  obtain ⟨v0, vs0, d0, ds0, p0, q0, hargs, rfl, rfl, h0, r0⟩ := trodAll_cons hA
  obtain ⟨rfl, rfl, rfl⟩ := trodAll_nil r0
  obtain rfl : args = #[v0] := by cases args; simp_all
  obtain ⟨rfl, rfl⟩ := trodVars_none hV
  obtain ⟨a0, len0, cap0, rfl⟩ := okWide_slice Try.underlying27 (hval 0 27 v0 rfl rfl)
  have k0 := h0
  have lt0 : ∀ x ∈ p0, x.block < W.heap.size := by obtain ⟨m, hm⟩ := k0; exact DataW.trod_lt m _ _ _ hm
  obtain ⟨xs, rfl, hm, hl⟩ : ∃ xs : List (Int × Int), len0 = xs.length ∧ xs.length ≤ 9223372036854775807 ∧ (0 < xs.length → ∃ b o, a0 = some ⟨b, o, none⟩ ∧ OpList W W.heap.size b o xs) := by
    obtain ⟨fuel, hf⟩ := h0
    exact opened (by simpa [Value.cells] using hf)
  clear hA0 hval0
  refine (lawForks_any W a0 cap0 xs hm hl).mono fun e W' ⟨he, bel⟩ => ?_
  subst he
  exact ⟨_, rfl, _, _, _, [], _, [], hW', trodAll_mk1 (shut_bool Try.underlying4 _), (trodAll_cons_mk (Below.trod laidOut (by kernel_rfl) (of_decide_eq_true (by kernel_rfl)) k0 bel lt0) trodAll_mk0), rfl, bel.frame _, fun h => by cases h⟩

theorem over : Rows.fnForksRow.holds Try.pinned (OpenSpec.ofChange Rows.fnForksSpec) :=
  OpenClaim.holds_of_wide 4 Try.f4 rfl rfl rfl rfl rfl rfl rfl ⟨rfl, rfl, rfl, rfl, rfl⟩ rfl rfl rfl rfl rfl (by kernel_rfl) Try.func4 (by kernel_rfl)
    (of_decide_eq_true (by kernel_rfl)) (by unfold Func.isWrapper; first | (rw [if_pos (by decide +kernel)]; kernel_rfl) | (rw [if_neg (by decide +kernel)]; exact ⟨rfl, rfl⟩))
    (fun os started H enc _ => lifted os started H enc)

theorem proved : Rows.FnForksSaid := over
#print axioms proved
end Go.Proofs.Ytlemajapimeciaa.fnForks
