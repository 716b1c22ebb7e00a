/- The plain law of the machine's stacks at forks: the model of rows and places answers as lists do. -/
import Derived.Handy
namespace Go.Proofs.Ytlemajapimeciaa

/-- A stack as plain data: its row of (value, place below), its place, its limit. -/
structure Stk where
  data : List (Int × Int)
  index : Int
  limit : Int

def Stk.push (s : Stk) (v : Int) : Stk :=
  { data := if max s.index s.limit + 1 < s.data.length then s.data.set (max s.index s.limit + 1).toNat (v, s.index) else s.data ++ [(v, s.index)], index := max s.index s.limit + 1, limit := s.limit }
def Stk.top (s : Stk) : Int × Int := s.data.getD s.index.toNat (0, 0)
def Stk.pop (s : Stk) : Stk := { s with index := s.top.2 }
def Stk.save (s : Stk) : Stk := { s with limit := max s.index s.limit }
def Stk.restore (s : Stk) (i l : Int) : Stk := { s with index := i, limit := l }

structure Stk.Ok (s : Stk) (n : Nat) : Prop where
  len : s.data.length ≤ n
  i0 : -1 ≤ s.index
  i1 : s.index < s.data.length
  l0 : -1 ≤ s.limit
  l1 : s.limit < s.data.length

/-- From place i downwards the row holds the list (the top first). -/
def Chain (data : List (Int × Int)) : Int → List Int → Prop
  | i, [] => i = -1
  | i, v :: r => 0 ≤ i ∧ ∃ nxt, data[i.toNat]? = some (v, nxt) ∧ nxt < i ∧ Chain data nxt r

theorem Chain.ge {data : List (Int × Int)} : ∀ {l : List Int} {i : Int}, Chain data i l → -1 ≤ i
  | [], i, h => by simp [Chain] at h; omega
  | v :: r, i, h => by have := h.1; omega
theorem Chain.lt {data : List (Int × Int)} : ∀ {l : List Int} {i : Int}, Chain data i l → i < data.length
  | [], i, h => by simp [Chain] at h; omega
  | v :: r, i, h => by
    obtain ⟨h0, nxt, h1, _⟩ := h
    have := (List.getElem?_eq_some_iff.1 h1).1
    omega
theorem Chain.same {data data' : List (Int × Int)} : ∀ {l : List Int} {i : Int}, Chain data i l → (∀ k : Nat, (k : Int) ≤ i → data'[k]? = data[k]?) → Chain data' i l
  | [], i, h, _ => h
  | v :: r, i, h, hs => by
    obtain ⟨h0, nxt, h1, h2, h3⟩ := h
    exact ⟨h0, nxt, by rw [hs _ (by omega)]; exact h1, h2, h3.same fun k hk => hs k (by omega)⟩

def lim : List (Int × Int) → Int
  | [] => -1
  | f :: _ => max f.1 f.2

def FInv (data : List (Int × Int)) : List (Int × Int) → List (List Int) → Prop
  | [], [] => True
  | f :: r, l :: rl => Chain data f.1 l ∧ f.2 = lim r ∧ FInv data r rl
  | _, _ => False

theorem FInv.ge {data : List (Int × Int)} : ∀ {fs : List (Int × Int)} {ls : List (List Int)}, FInv data fs ls → -1 ≤ lim fs
  | [], _, _ => by simp [lim]
  | f :: r, l :: rl, h => by have := h.1.ge; simp only [lim]; omega
theorem FInv.same {data data' : List (Int × Int)} : ∀ {fs : List (Int × Int)} {ls : List (List Int)}, FInv data fs ls → (∀ k : Nat, (k : Int) ≤ lim fs → data'[k]? = data[k]?) → FInv data' fs ls
  | [], [], _, _ => trivial
  | f :: r, l :: rl, h, hs => by
    obtain ⟨h1, h2, h3⟩ := h
    simp only [lim] at hs
    exact ⟨h1.same fun k hk => hs k (by omega), h2, h3.same fun k hk => hs k (by omega)⟩

structure StInv (s : Stk) (n : Nat) (now : List Int) (fs : List (Int × Int)) (ls : List (List Int)) : Prop where
  ok : s.Ok n
  chain : Chain s.data s.index now
  limit : s.limit = lim fs
  forks : FInv s.data fs ls

theorem StInv.more {s : Stk} {n : Nat} {now : List Int} {fs : List (Int × Int)} {ls : List (List Int)} (h : StInv s n now fs ls) : StInv s (n + 1) now fs ls :=
  ⟨⟨by have := h.ok.len; omega, h.ok.i0, h.ok.i1, h.ok.l0, h.ok.l1⟩, h.chain, h.limit, h.forks⟩

theorem StInv.empty_iff {s : Stk} {n : Nat} {now : List Int} {fs : List (Int × Int)} {ls : List (List Int)} (h : StInv s n now fs ls) : s.index < 0 ↔ now = [] := by
  have hc := h.chain
  cases now with
  | nil => simp [Chain] at hc; simp [hc]
  | cons v r => have := hc.1; simp; omega

theorem StInv.push {s : Stk} {n : Nat} {now : List Int} {fs : List (Int × Int)} {ls : List (List Int)} (h : StInv s n now fs ls) (v : Int) : StInv (s.push v) (n + 1) (v :: now) fs ls := by
  obtain ⟨data, index, limit⟩ := s
  obtain ⟨⟨hlen, i0, i1, l0, l1⟩, hch, hli, hf⟩ := h
  simp only at hlen i0 i1 l0 l1 hch hli hf
  have hfg := hf.ge
  obtain ⟨m, hm⟩ : ∃ m : Nat, max index limit + 1 = m := ⟨(max index limit + 1).toNat, by omega⟩
  have key : ∀ data' : List (Int × Int), (if (m : Int) < data.length then data.set m (v, index) else data ++ [(v, index)]) = data' →
      data'.length ≤ n + 1 ∧ (m : Int) < data'.length ∧ data.length ≤ data'.length ∧ data'[m]? = some (v, index) ∧ ∀ k : Nat, (k : Int) ≤ max index limit → data'[k]? = data[k]? := by
    intro data' hd
    by_cases hml : (m : Int) < data.length
    · rw [if_pos hml] at hd
      subst hd
      refine ⟨by simp; omega, by simpa using hml, by simp, ?_, fun k hk => ?_⟩
      · rw [List.getElem?_set_self (by omega)]
      · rw [List.getElem?_set_ne (by omega)]
    · rw [if_neg hml] at hd
      subst hd
      have hml' : m = data.length := by omega
      refine ⟨by simp; omega, by simp; omega, by simp, ?_, fun k hk => ?_⟩
      · rw [hml']; simp
      · rw [List.getElem?_append_left (by omega)]
  have hd := key _ rfl
  simp only [Stk.push, hm, Int.toNat_natCast]
  obtain ⟨k1, k2, k3, k4, k5⟩ := hd
  refine ⟨⟨k1, by simp only; omega, k2, l0, by simp only; omega⟩, ⟨by simp only; omega, index, by simpa using k4, by simp only; omega, ?_⟩, hli, ?_⟩
  · exact hch.same fun k hk => k5 k (by omega)
  · exact hf.same fun k hk => k5 k (by omega)

theorem StInv.pop {s : Stk} {n : Nat} {v : Int} {r : List Int} {fs : List (Int × Int)} {ls : List (List Int)} (h : StInv s n (v :: r) fs ls) : s.top.1 = v ∧ StInv s.pop n r fs ls := by
  obtain ⟨⟨hlen, i0, i1, l0, l1⟩, hch, hli, hf⟩ := h
  obtain ⟨h0, nxt, h1, h2, h3⟩ := hch
  have ht : s.top = (v, nxt) := by simp [Stk.top, h1]
  have := h3.ge
  refine ⟨by rw [ht], ⟨⟨hlen, ?_, ?_, l0, l1⟩, ?_, hli, hf⟩⟩
  · simp only [Stk.pop, ht]; omega
  · simp only [Stk.pop, ht]; omega
  · simpa only [Stk.pop, ht] using h3

theorem StInv.save {s : Stk} {n : Nat} {now : List Int} {fs : List (Int × Int)} {ls : List (List Int)} (h : StInv s n now fs ls) : StInv s.save n now ((s.index, s.limit) :: fs) (now :: ls) := by
  obtain ⟨⟨hlen, i0, i1, l0, l1⟩, hch, hli, hf⟩ := h
  refine ⟨⟨hlen, i0, i1, ?_, ?_⟩, hch, rfl, hch, hli, hf⟩
  · simp only [Stk.save]; omega
  · simp only [Stk.save]; omega

theorem StInv.restore {s : Stk} {n : Nat} {now : List Int} {f : Int × Int} {fs : List (Int × Int)} {l : List Int} {ls : List (List Int)} (h : StInv s n now (f :: fs) (l :: ls)) : StInv (s.restore f.1 f.2) n l fs ls := by
  obtain ⟨⟨hlen, i0, i1, l0, l1⟩, hch, hli, ⟨hf1, hf2, hf3⟩⟩ := h
  have h1 := hf1.ge
  have h2 := hf1.lt
  have h3 := hf3.ge
  simp only [lim] at hli
  refine ⟨⟨hlen, h1, h2, ?_, ?_⟩, hf1, hf2, hf3⟩
  · simp only [Stk.restore]; omega
  · simp only [Stk.restore]; omega

/-- A fork: its mark, the places and limits of both stacks. -/
structure Frk where
  pc : Int
  si : Int
  sl : Int
  pi : Int
  pl : Int

/-- The machine (the newest fork first). -/
structure Mach where
  st : Stk
  pa : Stk
  fk : List Frk

def Mach.new : Mach := ⟨⟨[], -1, -1⟩, ⟨[], -1, -1⟩, []⟩

def Mach.step (M : Mach) (d v : Int) : Mach × Bool × Int :=
  if d = 1 then (⟨M.st.push v, M.pa, M.fk⟩, false, 0)
  else if d = 2 ∧ 0 ≤ M.st.index then (⟨M.st.pop, M.pa, M.fk⟩, true, M.st.top.1)
  else if d = 3 then (⟨M.st, M.pa.push v, M.fk⟩, false, 0)
  else if d = 4 ∧ 0 ≤ M.pa.index then (⟨M.st, M.pa.pop, M.fk⟩, true, M.pa.top.1)
  else if d = 5 then (⟨M.st.save, M.pa.save, ⟨v, M.st.index, M.st.limit, M.pa.index, M.pa.limit⟩ :: M.fk⟩, false, 0)
  else if d = 6 then
    match M.fk with
    | f :: r => (⟨M.st.restore f.si f.sl, M.pa.restore f.pi f.pl, r⟩, true, f.pc)
    | [] => (M, false, 0)
  else (M, false, 0)

/-- What lists would hold: both stacks (the top first) and a mark. -/
structure Kept where
  st : List Int
  pa : List Int
  mark : Int

structure SS where
  now : Kept
  fk : List Kept

def SS.new : SS := ⟨⟨[], [], 0⟩, []⟩

def SS.step (S : SS) (d v : Int) : SS × Bool × Int :=
  if d = 1 then (⟨⟨v :: S.now.st, S.now.pa, S.now.mark⟩, S.fk⟩, false, 0)
  else if d = 2 then
    match S.now.st with
    | x :: r => (⟨⟨r, S.now.pa, S.now.mark⟩, S.fk⟩, true, x)
    | [] => (S, false, 0)
  else if d = 3 then (⟨⟨S.now.st, v :: S.now.pa, S.now.mark⟩, S.fk⟩, false, 0)
  else if d = 4 then
    match S.now.pa with
    | x :: r => (⟨⟨S.now.st, r, S.now.mark⟩, S.fk⟩, true, x)
    | [] => (S, false, 0)
  else if d = 5 then (⟨S.now, ⟨S.now.st, S.now.pa, v⟩ :: S.fk⟩, false, 0)
  else if d = 6 then
    match S.fk with
    | k :: r => (⟨k, r⟩, true, k.mark)
    | [] => (S, false, 0)
  else (S, false, 0)

structure MRel (M : Mach) (S : SS) (n : Nat) : Prop where
  st : StInv M.st n S.now.st (M.fk.map fun f => (f.si, f.sl)) (S.fk.map Kept.st)
  pa : StInv M.pa n S.now.pa (M.fk.map fun f => (f.pi, f.pl)) (S.fk.map Kept.pa)
  mark : M.fk.map Frk.pc = S.fk.map Kept.mark

theorem MRel.new : MRel Mach.new SS.new 0 := by
  refine ⟨⟨⟨?_, ?_, ?_, ?_, ?_⟩, ?_, ?_, ?_⟩, ⟨⟨?_, ?_, ?_, ?_, ?_⟩, ?_, ?_, ?_⟩, ?_⟩ <;> simp [Mach.new, SS.new, Chain, lim, FInv]

theorem MRel.step {M : Mach} {S : SS} {n : Nat} (h : MRel M S n) (d v : Int) : (M.step d v).2 = (S.step d v).2 ∧ MRel (M.step d v).1 (S.step d v).1 (n + 1) := by
  obtain ⟨hst, hpa, hmk⟩ := h
  unfold Mach.step SS.step
  by_cases h1 : d = 1
  · rw [if_pos h1, if_pos h1]
    exact ⟨rfl, hst.push v, hpa.more, hmk⟩
  rw [if_neg h1, if_neg h1]
  by_cases h2 : d = 2
  · rw [if_pos h2]
    have he := hst.empty_iff
    cases hn : S.now.st with
    | nil =>
      rw [hn] at he
      rw [if_neg (by simp at he; omega), if_neg (by omega), if_neg (by omega), if_neg (by omega), if_neg (by omega)]
      exact ⟨rfl, hst.more, hpa.more, hmk⟩
    | cons x r =>
      rw [hn] at he
      rw [hn] at hst
      rw [if_pos ⟨h2, by simp at he; exact he⟩]
      obtain ⟨ht, hp⟩ := hst.pop
      exact ⟨by simp [ht], hp.more, hpa.more, hmk⟩
  rw [if_neg (by omega), if_neg h2]
  by_cases h3 : d = 3
  · rw [if_pos h3, if_pos h3]
    exact ⟨rfl, hst.more, hpa.push v, hmk⟩
  rw [if_neg h3, if_neg h3]
  by_cases h4 : d = 4
  · rw [if_pos h4]
    have he := hpa.empty_iff
    cases hn : S.now.pa with
    | nil =>
      rw [hn] at he
      rw [if_neg (by simp at he; omega), if_neg (by omega), if_neg (by omega)]
      exact ⟨rfl, hst.more, hpa.more, hmk⟩
    | cons x r =>
      rw [hn] at he
      rw [hn] at hpa
      rw [if_pos ⟨h4, by simp at he; exact he⟩]
      obtain ⟨ht, hp⟩ := hpa.pop
      exact ⟨by simp [ht], hst.more, hp.more, hmk⟩
  rw [if_neg (by omega), if_neg h4]
  by_cases h5 : d = 5
  · rw [if_pos h5, if_pos h5]
    exact ⟨rfl, hst.save.more, hpa.save.more, by simp [hmk]⟩
  rw [if_neg h5, if_neg h5]
  by_cases h6 : d = 6
  · rw [if_pos h6, if_pos h6]
    cases hf : M.fk with
    | nil =>
      cases hk : S.fk with
      | nil => exact ⟨rfl, hst.more, hpa.more, hmk⟩
      | cons k r => rw [hf, hk] at hmk; simp at hmk
    | cons f r =>
      cases hk : S.fk with
      | nil => rw [hf, hk] at hmk; simp at hmk
      | cons k rk =>
        rw [hf, hk] at hmk hst hpa
        simp only [List.map_cons, List.cons.injEq] at hmk hst hpa
        exact ⟨by simp [hmk.1], hst.restore.more, hpa.restore.more, hmk.2⟩
  rw [if_neg h6, if_neg h6]
  exact ⟨rfl, hst.more, hpa.more, hmk⟩

end Go.Proofs.Ytlemajapimeciaa
