/- The plain law of the machine's stacks at forks, run over a list of calls; and how what was said lies in a row of cells. -/
import Derived.Test.YtlemajapimeciaaForkP
import GoSem.Core.World
namespace Go.Proofs.Ytlemajapimeciaa
set_option linter.unusedVariables false

theorem takeq {α : Type} (xs : List α) (j : Nat) (y : α) (h : xs[j]? = some y) : xs.take (j + 1) = xs.take j ++ [y] := by
  rw [List.take_add_one, h]; rfl

def mstep (s : Mach × List (Bool × Int)) (o : Int × Int) : Mach × List (Bool × Int) := ((s.1.step o.1 o.2).1, s.2 ++ [(s.1.step o.1 o.2).2])
def sstep (s : SS × List (Bool × Int)) (o : Int × Int) : SS × List (Bool × Int) := ((s.1.step o.1 o.2).1, s.2 ++ [(s.1.step o.1 o.2).2])
def mrun (l : List (Int × Int)) : Mach × List (Bool × Int) := l.foldl mstep (Mach.new, [])
def srun (l : List (Int × Int)) : SS × List (Bool × Int) := l.foldl sstep (SS.new, [])

theorem mrun_snoc (l : List (Int × Int)) (o : Int × Int) : mrun (l ++ [o]) = mstep (mrun l) o := by simp [mrun]
theorem srun_snoc (l : List (Int × Int)) (o : Int × Int) : srun (l ++ [o]) = sstep (srun l) o := by simp [srun]

theorem fk_step (M : Mach) (d v : Int) : (M.step d v).1.fk.length ≤ M.fk.length + 1 := by
  unfold Mach.step
  repeat' split
  all_goals simp_all
  all_goals omega

theorem run_from : ∀ (l : List (Int × Int)) (M : Mach) (S : SS) (o : List (Bool × Int)) (n : Nat), MRel M S n → M.fk.length ≤ n → o.length = n →
    MRel (l.foldl mstep (M, o)).1 (l.foldl sstep (S, o)).1 (n + l.length) ∧ (l.foldl mstep (M, o)).2 = (l.foldl sstep (S, o)).2 ∧ (l.foldl mstep (M, o)).2.length = n + l.length ∧ (l.foldl mstep (M, o)).1.fk.length ≤ n + l.length
  | [], M, S, o, n, h, hf, ho => ⟨h, rfl, ho, hf⟩
  | x :: r, M, S, o, n, h, hf, ho => by
    obtain ⟨h1, h2⟩ := h.step x.1 x.2
    have hk := fk_step M x.1 x.2
    have := run_from r (M.step x.1 x.2).1 (S.step x.1 x.2).1 (o ++ [(M.step x.1 x.2).2]) (n + 1) h2 (by omega) (by simp [ho])
    simp only [List.foldl_cons, mstep, sstep, List.length_cons]
    rw [← h1, show n + (r.length + 1) = n + 1 + r.length by omega]
    exact this

theorem run_rel (l : List (Int × Int)) : MRel (mrun l).1 (srun l).1 l.length ∧ (mrun l).2 = (srun l).2 ∧ (mrun l).2.length = l.length ∧ (mrun l).1.fk.length ≤ l.length := by
  have := run_from l Mach.new SS.new [] 0 MRel.new (by simp [Mach.new]) rfl
  simpa [mrun, srun] using this

theorem srun_more : ∀ (l : List (Int × Int)) (s : SS × List (Bool × Int)), ∃ t, (l.foldl sstep s).2 = s.2 ++ t
  | [], s => ⟨[], by simp⟩
  | x :: r, s => by
    obtain ⟨t, ht⟩ := srun_more r (sstep s x)
    exact ⟨(s.1.step x.1 x.2).2 :: t, by simp only [List.foldl_cons, ht]; simp [sstep]⟩

theorem srun_at (xs : List (Int × Int)) (j : Nat) (y : Int × Int) (h : xs[j]? = some y) : (mrun xs).2[j]? = some ((srun (xs.take j)).1.step y.1 y.2).2 := by
  have hj : j < xs.length := (List.getElem?_eq_some_iff.1 h).1
  rw [(run_rel xs).2.1]
  have h1 : srun xs = (xs.drop (j + 1)).foldl sstep (srun (xs.take (j + 1))) := by
    show xs.foldl sstep _ = _
    rw [srun, ← List.foldl_append, List.take_append_drop]
  obtain ⟨t, ht⟩ := srun_more (xs.drop (j + 1)) (srun (xs.take (j + 1)))
  have h3 := (run_rel (xs.take j)).2
  have hl : (srun (xs.take j)).2.length = j := by rw [← h3.1, h3.2.1, List.length_take]; omega
  rw [h1, ht, takeq xs j y h, srun_snoc]
  simp only [sstep]
  rw [List.getElem?_append_left (by simp; omega), List.getElem?_append_right (by omega), hl]
  simp

theorem Chain.len {data : List (Int × Int)} : ∀ {l : List Int} {i : Int}, Chain data i l → (l.length : Int) ≤ i + 1
  | [], i, h => by simp [Chain] at h; simp; omega
  | v :: r, i, h => by
    obtain ⟨h0, nxt, h1, h2, h3⟩ := h
    have := h3.len
    simp only [List.length_cons]
    omega

theorem srun_len (l : List (Int × Int)) : (srun l).1.now.st.length ≤ l.length ∧ (srun l).1.now.pa.length ≤ l.length ∧ (srun l).1.fk.length ≤ l.length := by
  obtain ⟨h1, _, _, h4⟩ := run_rel l
  have a1 := h1.st.chain.len
  have a2 := h1.st.ok.i1
  have a3 := h1.st.ok.len
  have b1 := h1.pa.chain.len
  have b2 := h1.pa.ok.i1
  have b3 := h1.pa.ok.len
  have c1 := congrArg List.length h1.mark
  simp only [List.length_map] at c1
  exact ⟨by omega, by omega, by omega⟩

theorem Stk.Ok.more {s : Stk} {n m : Nat} (h : s.Ok n) (hm : n ≤ m) : s.Ok m := ⟨Nat.le_trans h.len hm, h.i0, h.i1, h.l0, h.l1⟩

def saidCell (x : Bool × Int) : List Value := [.bool x.1, .int .i64 x.2]
def saidCells (l : List (Bool × Int)) : List Value := l.flatMap saidCell

theorem saidCells_cons (x : Bool × Int) (r : List (Bool × Int)) : saidCells (x :: r) = .bool x.1 :: .int .i64 x.2 :: saidCells r := rfl
theorem saidCells_length : ∀ l : List (Bool × Int), (saidCells l).length = 2 * l.length
  | [] => rfl
  | x :: r => by rw [saidCells_cons]; simp only [List.length_cons, saidCells_length r]; omega
theorem saidCells_at : ∀ (l : List (Bool × Int)) (i : Nat) (x : Bool × Int), l[i]? = some x → (saidCells l)[i * 2]? = some (.bool x.1) ∧ (saidCells l)[i * 2 + 1]? = some (.int .i64 x.2)
  | [], _, _, h => by simp at h
  | y :: r, 0, x, h => by simp at h; subst h; simp [saidCells_cons]
  | y :: r, i + 1, x, h => by
    have := saidCells_at r i x (by simpa using h)
    rw [saidCells_cons, show (i + 1) * 2 = i * 2 + 2 by omega]
    exact this
theorem saidCells_set : ∀ (l : List (Bool × Int)) (i : Nat) (x : Bool × Int), i < l.length → ((saidCells l).set (i * 2) (.bool x.1)).set (i * 2 + 1) (.int .i64 x.2) = saidCells (l.set i x)
  | [], _, _, h => by simp at h
  | y :: r, 0, x, _ => by simp [saidCells_cons]
  | y :: r, i + 1, x, h => by
    have := saidCells_set r i x (by simpa using h)
    rw [List.set_cons_succ, saidCells_cons, saidCells_cons, show (i + 1) * 2 = i * 2 + 2 by omega, show i * 2 + 2 + 1 = (i * 2 + 1) + 2 by omega]
    simp only [List.set_cons_succ]
    rw [this]

/-- What was said by j calls of n, the rest zero. -/
def outs (n : Nat) (o : List (Bool × Int)) : List (Bool × Int) := o ++ List.replicate (n - o.length) (false, 0)

theorem outs_at {n : Nat} {o : List (Bool × Int)} (h : o.length < n) : (outs n o)[o.length]? = some (false, 0) := by
  unfold outs
  rw [List.getElem?_append_right (Nat.le_refl _), Nat.sub_self, List.getElem?_replicate, if_pos (by omega)]
theorem outs_set {n : Nat} {o : List (Bool × Int)} (h : o.length < n) (x : Bool × Int) : (outs n o).set o.length x = outs n (o ++ [x]) := by
  unfold outs
  obtain ⟨m, hm⟩ : ∃ m, n - o.length = m + 1 := ⟨n - o.length - 1, by omega⟩
  rw [hm, List.replicate_succ, List.length_append, show n - (o.length + [x].length) = m by simp; omega]
  simp
theorem outs_zero {n : Nat} {o : List (Bool × Int)} (h : o.length < n) : outs n o = outs n (o ++ [(false, 0)]) := by
  rw [← outs_set h, eq_comm]
  apply List.ext_getElem?
  intro i
  by_cases hi : i = o.length
  · subst hi
    rw [outs_at h, List.getElem?_set_self]
    have := outs_at h
    exact (List.getElem?_eq_some_iff.1 this).1
  · rw [List.getElem?_set_ne (Ne.symm hi)]
theorem outs_length {n : Nat} {o : List (Bool × Int)} (h : o.length ≤ n) : (outs n o).length = n := by unfold outs; simp; omega
theorem outs_full {o : List (Bool × Int)} : outs o.length o = o := by simp [outs]
end Go.Proofs.Ytlemajapimeciaa
