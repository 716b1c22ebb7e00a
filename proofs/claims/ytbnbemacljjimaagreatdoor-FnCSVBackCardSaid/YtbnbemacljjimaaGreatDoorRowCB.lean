/- For every list of values the statement FnCSVBack returns true and leaves its argument as it was. Conditions: none, but that the two tables of unicode/utf8 start as the program's text lays them (the card ties them). -/
import Derived.Test.YtbnbemacljjimaaGreatDoorRowKit
import Derived.Test.YtbnbemacljjimaaGreatDoorCbD
namespace Go.Proofs.YtbnbemacljjimaaGreatDoor.fnCSVBack
open Go.ChangeShapes Go.WideShapes Go.ChangeAt Go.RowKit Go.Deep
set_option linter.unusedVariables false

set_option maxRecDepth 100000 in
theorem open_vals {H : Type} {enc : TypeId × Value → H} {W : World} {r : Reach} {b0 : Nat} {v : Value} {d : DataW H} {p : List MemPlace} (n : Nat) (hv : Value.okWide Tryz.prog W r b0 23 v)
    (h : DataW.Trod enc Tryz.prog W 0 (fun _ => true) true 23 v d p) (hw : Wt Tryz.prog 23 d) :
    ∃ (A : Option Addr) (xs : List JV) (cap : Nat), v = .slice A xs.length cap ∧ xs.length ≤ cap ∧ cap ≤ 9223372036854775807 ∧ VecAt (JAt W W.heap.size n) W W.heap.size A xs ∧ ∀ x ∈ xs, Light n x := by
  obtain ⟨a, len, cap, rfl⟩ := okWide_slice Tryz.underlying23 hv
  obtain ⟨m, hm⟩ := h
  have hm' : Tr enc W m 23 (.slice a len cap) (d, p) := hm
  exact opened_vals n (fun m0 m1 m2 m3 m4 m5 c0 c1 c2 c3 c4 c5 y0 y1 y2 y3 y4 y5 => opened n m0 m1 m2 m3 m4 m5 c0 c1 c2 c3 c4 c5 y0 y1 y2 y3 y4 y5) (y := (d, p)) hm' hw

set_option maxRecDepth 100000 in
theorem lifted (os : Os) (started : os.Started) (H : Type) (enc : TypeId × Value → H) :
    ReturnsInHanded {} Tryz.checked os 4 .any (fun w args => (Rows.fnCSVBackSpec.pre enc Tryz.prog Tryz.f4 [] false w args ∧ laidMetH Tryz.prog seatLaid w) ∧ sizedMet enc Tryz.prog Tryz.f4 (OpenSpec.ofChange Rows.fnCSVBackSpec) false w args)
      (Rows.fnCSVBackSpec.post enc Tryz.prog Tryz.f4 false true false false) := by
  refine returnsInHanded_of_change_and (C := Tryz.checked) (X := fun w _ => laidMetH Tryz.prog seatLaid w) (fun _ _ _ hh h => h.of_heap hh) own started (by kernel_rfl) Tryz.func4
    (ChangeSpec.witness_shaped (enc := enc) (C := Tryz.checked) (os := os) (X := fun w _ => laidMetH Tryz.prog seatLaid w) false (World.laidAll Tryz.prog os seatLaid) #[.slice none 0 0] 8 (World.laidAll_os _ _ _)
      (World.shaped_of_ZipB (by kernel_rfl) (by kernel_rfl)) (by kernel_rfl) (by kernel_rfl) (by kernel_rfl) (laid_start os _)) ?_
  intro W base args ds gs before hval0 hW _ hZ hL _
  have hval : ∀ (j : Nat) t v, Tryz.f4.params[j]? = some t → args[j]? = some v → Value.okWide Tryz.prog W .any base t v := hval0
  have hW' := hW
  obtain ⟨p, q, hA0, hV, rfl, _, _⟩ := hW
  have hA : DataW.TrodAll enc Tryz.prog W 0 (fun _ => true) true Tryz.f4.params.toList args.toList ds p := hA0
  rw [Tryz.params4] at hA hval
  obtain ⟨v0, vs0, d0, ds0, p0, q0, hargs, rfl, rfl, h0, r0⟩ := trodAll_cons hA
  obtain ⟨rfl, rfl, rfl⟩ := trodAll_nil r0
  obtain rfl : args = #[v0] := by cases args; simp_all
  obtain ⟨rfl, rfl⟩ := trodVars_none hV
  have k0 := h0
  have lt0 : ∀ x ∈ p0, x.block < W.heap.size := by obtain ⟨m, hm⟩ := k0; exact DataW.trod_lt m _ _ _ hm
  have hw0 : Wt Tryz.prog 23 d0 := by
    intro k hk
    have hm := List.all_eq_true.1 hZ k (mem_weightsEach hk 0 _ _ rfl rfl)
    exact of_decide_eq_true hm
  obtain ⟨A, xs, c, rfl, hc, hm, hx, hli⟩ := open_vals 62 (hval 0 23 v0 rfl rfl) h0 hw0
  have hT := tabs_of hL
  clear hA0 hval0
  refine (csvBack_any W W.heap.size A c xs hT (Nat.le_refl _) hc hm hx hli).mono fun e W' ⟨he, bel⟩ => ?_
  subst he
  exact ⟨_, rfl, _, _, _, [], _, [], hW', trodAll_mk1 (shut_bool Tryz.underlying4 _), (trodAll_cons_mk (Below.trod laidOut (by kernel_rfl) (of_decide_eq_true (by kernel_rfl)) k0 bel lt0) trodAll_mk0), rfl, bel.frame _, fun h => by cases h⟩

theorem over : Rows.FnCSVBackSaid :=
  OpenClaim.holds_of_wide 4 Tryz.f4 rfl rfl rfl rfl rfl rfl rfl ⟨rfl, rfl, rfl, rfl, rfl⟩ rfl rfl rfl rfl rfl (by kernel_rfl) Tryz.func4 (by kernel_rfl)
    (of_decide_eq_true (by kernel_rfl)) (by unfold Func.isWrapper; first | (rw [if_pos (by decide +kernel)]; kernel_rfl) | (rw [if_neg (by decide +kernel)]; exact ⟨rfl, rfl⟩))
    (fun os started H enc _ => lifted os started H enc)

theorem plain (f : FuncId) (fn : Func) (hf : Tryz.pinned.checked.prog.funcNamed Rows.fnCSVBackRow.func = some f) (hfn : Tryz.pinned.checked.prog.funcs[f]? = some fn) :
    true = Tryz.pinned.checked.prog.looks [] ∧ ∀ (j : Nat) t, fn.params[j]? = some t → Tryz.pinned.checked.prog.wantsStandIn t = false := by
  obtain rfl : f = 4 := Option.some.inj ((show Tryz.prog.funcNamed Rows.fnCSVBackRow.func = some 4 by kernel_rfl).symm.trans hf) |>.symm
  obtain rfl : fn = Tryz.f4 := (Option.some.inj (Tryz.func4.symm.trans hfn)).symm
  refine ⟨by kernel_rfl, fun j t ht => ?_⟩
  rw [Tryz.params4] at ht
  obtain rfl : t = 23 := by simpa using Array.mem_of_getElem? ht
  exact (show Tryz.prog.wantsStandIn 23 = false by kernel_rfl)

theorem proved : Rows.FnCSVBackCardSaid :=
  Claim7.holds_tied_plain_at .later [] _ _ _ _ over (fun _ h => by cases h) (by kernel_rfl) (fun _ h => by cases h) fnCSVBack_row_tie rfl ⟨rfl, rfl⟩ (by kernel_rfl) rfl plain (by kernel_rfl)
#print axioms proved
end Go.Proofs.YtbnbemacljjimaaGreatDoor.fnCSVBack
