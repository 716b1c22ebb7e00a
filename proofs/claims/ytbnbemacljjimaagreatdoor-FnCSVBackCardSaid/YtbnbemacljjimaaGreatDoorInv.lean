/- A region that draws its order, walked by an invariant: each operation once, whatever order is drawn. -/
import Derived.Test.YtbnbemacljjimaaGreatDoorBase
import Derived.Orders
namespace Go.Proofs.YtbnbemacljjimaaGreatDoor
open Go
set_option linter.unusedVariables false

section
variable {P : Program} {ops : Array Oper} {Q : Exit → Act → World → Prop} {md : Region.Mode}

/-- What is asked behind one operation: J where it ends as it should, Q elsewhere. -/
def Then (Q : Exit → Act → World → Prop) (J : Act → World → Prop) : Exit → Act → World → Prop := fun e a w => (e = .normal ∧ J a w) ∨ (¬ e = .normal ∧ Q e a w)

theorem Then.normal {J : Act → World → Prop} {a : Act} {w : World} (h : J a w) : Then Q J .normal a w := .inl ⟨rfl, h⟩

theorem Then.back {J : Act → World → Prop} {e : Exit} {a : Act} {w : World} (he : ¬ e = .normal) (h : Then Q J e a w) : Q e a w := by
  rcases h with h | h
  · exact absurd h.1 he
  · exact h.2

theorem Then.out {J : Act → World → Prop} (h : LetsOut (Then Q J)) : LetsOut Q := by
  obtain ⟨a, w, h⟩ := h
  exact ⟨a, w, Then.back (by intro e; cases e) h⟩

theorem wpOp_of_list {i : Nat} {o : Oper} {J : Act → World → Prop} {a : Act} {w : World} (hi : ops[i]? = some o) (h : wpList P ops (Then Q J) [o] a w) : wpOp P ops Q i J a w := by
  unfold wpOp
  simp only [hi]
  unfold wpList at h
  split
  · rename_i hw
    rw [if_pos hw] at h
    rcases h with h | ⟨h1, h2⟩
    · left
      unfold Oper.wp at *
      generalize (execOp a.eval o).run P w = r at *
      have hn : ∀ a w, wpList P ops (Then Q J) [] a w → J a w := fun a w h => by
        unfold wpList at h
        rcases h with h | h
        · exact h.2
        · exact absurd rfl h.1
      cases r with
      | ok n w' =>
        cases n <;> simp only [Oper.upon] at h ⊢
        case value u => exact hn _ _ h
        case skip => exact hn _ _ h
        case defer d => exact hn _ _ h
        case enter f args =>
          refine Calls.mono h fun e w'' he => ?_
          cases e with
          | returned u => exact hn _ _ he
          | panicked c => exact Then.back (by intro e; cases e) he
          | outgrown => exact Then.out he
        case row row args => exact Rows.mono h fun u w'' he => hn _ _ he
      | halt x w' =>
        cases x <;> simp only [Oper.upon] at h ⊢
        case panic u => exact Then.back (by intro e; cases e) h
    · exact Or.inr ⟨h1, Then.out h2⟩
  · rename_i hw
    rw [if_neg hw] at h
    unfold wpList at h
    rcases h with h | h
    · exact h.2
    · exact absurd rfl h.1

/-- Operation j has come up. -/
def Up (listed : Array Bool) (j : Nat) : Prop := listed.getD j false = true

theorem Up.set_ne {listed : Array Bool} {i j : Nat} (hne : ¬ j = i) (h : Up (listed.setIfInBounds i true) j) : Up listed j := by
  unfold Up at *
  rw [Array.getD_eq_getD_getElem?] at *
  rw [Array.getElem?_setIfInBounds_ne (Ne.symm hne)] at h
  exact h

theorem Up.more {listed : Array Bool} {i j : Nat} (h : Up listed j) : Up (listed.setIfInBounds i true) j := by
  unfold Up at *
  rw [Array.getD_eq_getD_getElem?] at *
  by_cases hne : j = i
  · subst hne
    rcases Nat.lt_or_ge j listed.size with hj | hj
    · simp [hj]
    · simp [Array.getElem?_eq_none hj] at h
  · rw [Array.getElem?_setIfInBounds_ne (Ne.symm hne)]
    exact h

theorem Up.no {listed : Array Bool} {i : Nat} (h : listed.getD i true = false) : ¬ Up listed i := by
  unfold Up
  rw [Array.getD_eq_getD_getElem?] at *
  intro h2
  cases e : listed[i]? with
  | none => rw [e] at h; cases h
  | some b => rw [e] at h h2; simp at h h2; rw [h] at h2; cases h2

theorem Up.start {n j : Nat} (h : Up (Array.replicate n false) j) : False := by
  unfold Up at h
  rw [Array.getD_eq_getD_getElem?] at h
  rcases Nat.lt_or_ge j n with hj | hj
  · simp [hj] at h
  · simp [Array.getElem?_eq_none (xs := Array.replicate n false) (i := j) (by simp; exact hj)] at h

/-- What an operation waits for has come up. -/
theorem Up.waits {listed : Array Bool} {i : Nat} (hr : i ∈ Region.ready md ops listed) (k : Nat) (hk : ((ops[i]?).map fun o => o.after.any fun e => Region.binds md e && e.on == k).getD false = true) : Up listed k := by
  obtain ⟨-, o, ho, hall⟩ := mem_ready.1 hr
  rw [ho] at hk
  simp only [Option.map_some, Option.getD_some] at hk
  rw [Array.any_eq_true] at hk
  obtain ⟨j, hj, he⟩ := hk
  simp only [Bool.and_eq_true, beq_iff_eq] at he
  have h := hall o.after[j] (Array.getElem_mem hj) he.1
  rw [he.2] at h
  exact h

theorem Up.un {listed : Array Bool} {i : Nat} (hr : i ∈ Region.ready md ops listed) : listed.getD i true = false := (mem_ready.1 hr).1

/-- How many have not come up. -/
def left (l : List Bool) : Nat := (l.filter fun b => !b).length

theorem left_set : ∀ (l : List Bool) (i : Nat), l[i]? = some false → left (l.set i true) + 1 = left l
  | [], i, h => by simp at h
  | b :: l, 0, h => by
    simp at h
    subst h
    simp [left]
  | b :: l, i + 1, h => by
    have e := left_set l i (by simpa using h)
    unfold left at *
    cases b <;> simp_all

theorem ready_left {listed : Array Bool} {i : Nat} (hr : i ∈ Region.ready md ops listed) : left (listed.setIfInBounds i true).toList + 1 = left listed.toList := by
  have h := (mem_ready.1 hr).1
  rw [Array.toList_setIfInBounds]
  refine left_set _ i ?_
  rw [Array.getD_eq_getD_getElem?] at h
  rw [Array.getElem?_toList]
  cases e : listed[i]? with
  | none => rw [e] at h; cases h
  | some b => rw [e] at h; simp at h; rw [h]

theorem wpAny_inv (I : Array Bool → Act → World → Prop)
    (step : ∀ listed a w i, I listed a w → i ∈ Region.ready md ops listed → wpOp P ops Q i (fun a' w' => I (listed.setIfInBounds i true) a' w') a w)
    (stop : ∀ listed a w, I listed a w → Region.ready md ops listed = [] → Q .normal a w) :
    ∀ fuel listed a w, I listed a w → left listed.toList ≤ fuel → wpAny P md ops Q fuel listed a w
  | 0, listed, a, w, h, hl => by
    have hr : Region.ready md ops listed = [] := by
      rcases hx : Region.ready md ops listed with _ | ⟨i, l⟩
      · rfl
      · have := ready_left (md := md) (ops := ops) (listed := listed) (i := i) (by rw [hx]; exact List.mem_cons_self)
        omega
    exact ⟨hr, stop _ _ _ h hr⟩
  | fuel + 1, listed, a, w, h, hl =>
    ⟨fun hr => stop _ _ _ h hr, fun i hi => wpOp_mono (fun a' w' h' => wpAny_inv I step stop fuel _ a' w' h' (by have := ready_left hi; omega)) (step listed a w i h hi)⟩

theorem left_start (n : Nat) : left (Array.replicate n false).toList ≤ n := by
  unfold left
  refine Nat.le_trans (List.length_filter_le _ _) ?_
  simp

/-- A region that draws its order, by an invariant. -/
theorem wp_region_inv {id : Nat} {a : Act} {w : World} (hm : P.follows .mixedOrders = true) (I : Array Bool → Act → World → Prop)
    (start : I (Array.replicate ops.size false) a w.drew)
    (step : ∀ listed a w i, I listed a w → i ∈ Region.ready .any ops listed → wpOp P ops Q i (fun a' w' => I (listed.setIfInBounds i true) a' w') a w)
    (stop : ∀ listed a w, I listed a w → Region.ready .any ops listed = [] → Q .normal a w) : (Code.region id ops true).wp P Q a w :=
  wp_region_any hm (wpAny_inv I step stop ops.size _ a _ start (left_start ops.size))
end

/-- At the end all have come up, where each waits for those ahead of it alone. -/
theorem Up.all {md : Region.Mode} {ops : Array Oper} {listed : Array Bool} (hs : listed.size = ops.size) (hord : (List.range ops.size).all (fun i => ((ops[i]?).map fun o => o.after.all fun e => !Region.binds md e || decide (e.on < i)).getD false) = true)
    (hr : Region.ready md ops listed = []) : ∀ j, j < ops.size → Up listed j := by
  intro j
  induction j using Nat.strongRecOn with
  | ind j ih =>
    intro hj
    by_cases hu : Up listed j
    · exact hu
    exfalso
    have hmem : j ∈ Region.ready md ops listed := by
      refine mem_ready.2 ⟨?_, ops[j], by simp [hj], fun e he hb => ?_⟩
      · unfold Up at hu
        rw [Array.getD_eq_getD_getElem?] at *
        have hjl : j < listed.size := by omega
        simp [hjl] at hu ⊢
        exact hu
      · have h := (List.all_eq_true.1 hord) j (List.mem_range.2 hj)
        simp only [Array.getElem?_eq_getElem hj, Option.map_some, Option.getD_some, Array.all_eq_true] at h
        obtain ⟨k, hk, hek⟩ := Array.mem_iff_getElem.1 he
        have h2 := h k hk
        rw [hek] at h2
        simp [hb] at h2
        exact ih e.on h2 (by omega)
    rw [hr] at hmem
    cases hmem
end Go.Proofs.YtbnbemacljjimaaGreatDoor
