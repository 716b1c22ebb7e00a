/- Maps as lists of pairs whose keys rise: put, looked up, merged all the way down. No program. -/
import Derived.Test.YtmkdkcbkgngfdaaDoorMapP
import Derived.Test.YtmkdkcbkgngfdaaDoorSays
namespace Go.Proofs.YtmkdkcbkgngfdaaDoor
open Go.RowKit Go.Maps Go.Sort
set_option linter.unusedVariables false

theorem lt_before : ∀ a b : List UInt8, a < b → bytesBefore a b = true
  | [], [], h => absurd h (List.lt_irrefl _)
  | [], b :: s, _ => by simp [bytesBefore]
  | a :: r, [], h => absurd h (by simp)
  | a :: r, b :: s, h => by
    rw [List.cons_lt_cons_iff] at h
    simp only [bytesBefore, Bool.or_eq_true, decide_eq_true_eq, Bool.and_eq_true, beq_iff_eq]
    rcases h with h | ⟨h1, h2⟩
    · exact Or.inl h
    · exact Or.inr ⟨h1, lt_before r s h2⟩

theorem list_tri (a b : List UInt8) : a < b ∨ a = b ∨ b < a := by
  by_cases h : a = b
  · exact Or.inr (Or.inl h)
  · rcases WideAt.bytes_total a b h with h | h
    · exact Or.inl (before_lt _ _ h)
    · exact Or.inr (Or.inr (before_lt _ _ h))

theorem key_inj {a b : ByteArray} (h : a.data.toList = b.data.toList) : a = b := by
  cases a; cases b
  simp only [ByteArray.mk.injEq]
  exact Array.toList_inj.1 h

theorem key_tri (a b : ByteArray) (h : a ≠ b) (h2 : ¬ b.data.toList < a.data.toList) : a.data.toList < b.data.toList := by
  rcases list_tri a.data.toList b.data.toList with h3 | h3 | h3
  · exact h3
  · exact absurd (key_inj h3) h
  · exact absurd h3 h2

section
variable {α β : Type}

/-- The keys rise. -/
def Asc (l : List (ByteArray × α)) : Prop := l.Pairwise (fun p q => p.1.data.toList < q.1.data.toList)

theorem asc_rise {l : List (ByteArray × α)} (h : Asc l) : Rise (l.map (·.1)) := by
  intro i a b ha hb
  rw [less_before, toList_data, toList_data]
  refine lt_before _ _ ?_
  rw [List.getElem?_map] at ha hb
  obtain ⟨p, hp, rfl⟩ := Option.map_eq_some_iff.1 ha
  obtain ⟨q, hq, rfl⟩ := Option.map_eq_some_iff.1 hb
  obtain ⟨h1, h2⟩ := List.getElem?_eq_some_iff.1 hp
  obtain ⟨h3, h4⟩ := List.getElem?_eq_some_iff.1 hq
  have := List.pairwise_iff_getElem.1 h i (i + 1) h1 h3 (by omega)
  rw [h2, h4] at this
  exact this

theorem rise_asc {l : List (ByteArray × α)} (h : Rise (l.map (·.1))) : Asc l := by
  have := h.pair
  rw [List.map_map, List.pairwise_map] at this
  exact this

/-- What stands at a key. -/
def lk : List (ByteArray × α) → ByteArray → Option α
  | [], _ => none
  | p :: r, k => if p.1 = k then some p.2 else lk r k

theorem lk_none {l : List (ByteArray × α)} {k : ByteArray} (h : ∀ p ∈ l, p.1 ≠ k) : lk l k = none := by
  induction l with
  | nil => rfl
  | cons p r ih =>
    unfold lk
    rw [if_neg (h p List.mem_cons_self)]
    exact ih (fun q hq => h q (List.mem_cons_of_mem _ hq))

theorem lk_mem {l : List (ByteArray × α)} {k : ByteArray} {y : α} (h : lk l k = some y) : (k, y) ∈ l := by
  induction l with
  | nil => cases h
  | cons p r ih =>
    unfold lk at h
    split at h
    · rename_i e
      cases h
      rw [← e]
      exact List.mem_cons_self
    · exact List.mem_cons_of_mem _ (ih h)

theorem mem_lk {l : List (ByteArray × α)} (hl : Asc l) {p : ByteArray × α} (h : p ∈ l) : lk l p.1 = some p.2 := by
  induction l with
  | nil => cases h
  | cons q r ih =>
    obtain ⟨h1, h2⟩ := List.pairwise_cons.1 hl
    unfold lk
    rcases List.mem_cons.1 h with rfl | hr
    · rw [if_pos rfl]
    · rw [if_neg (fun e => by have := h1 p hr; rw [e] at this; exact List.lt_irrefl _ this)]
      exact ih h2 hr

/-- Two lists whose keys rise, alike at every key. -/
def OptRel (R : α → β → Prop) : Option α → Option β → Prop
  | none, none => True
  | some x, some y => R x y
  | _, _ => False

theorem asc_match (R : α → β → Prop) : ∀ (es : List (ByteArray × α)) (ps : List (ByteArray × β)), Asc es → Asc ps → (∀ k, OptRel R (lk es k) (lk ps k)) → es.map (·.1) = ps.map (·.1) ∧ ∀ (i : Nat) y, ps[i]? = some y → ∃ e, es[i]? = some e ∧ e.1 = y.1 ∧ R e.2 y.2
  | [], [], _, _, _ => ⟨rfl, fun i y hy => by simp at hy⟩
  | [], p :: r, _, _, h => by
    have := h p.1
    simp [lk, OptRel] at this
  | e :: es, [], _, _, h => by
    have := h e.1
    simp [lk, OptRel] at this
  | e :: es, p :: ps, he, hp, h => by
    obtain ⟨he1, he2⟩ := List.pairwise_cons.1 he
    obtain ⟨hp1, hp2⟩ := List.pairwise_cons.1 hp
    have hk : e.1 = p.1 := by
      by_cases hk : e.1 = p.1
      · exact hk
      exfalso
      rcases list_tri e.1.data.toList p.1.data.toList with h3 | h3 | h3
      · have hn : lk (p :: ps) e.1 = none := lk_none (fun q hq => by
          rcases List.mem_cons.1 hq with rfl | hq
          · exact fun e => hk e.symm
          · intro e2
            have := List.lt_trans h3 (hp1 q hq)
            rw [e2] at this
            exact List.lt_irrefl _ this)
        have := h e.1
        rw [hn] at this
        simp [lk, OptRel] at this
      · exact hk (key_inj h3)
      · have hn : lk (e :: es) p.1 = none := lk_none (fun q hq => by
          rcases List.mem_cons.1 hq with rfl | hq
          · exact hk
          · intro e2
            have := List.lt_trans h3 (he1 q hq)
            rw [e2] at this
            exact List.lt_irrefl _ this)
        have := h p.1
        rw [hn] at this
        simp [lk, OptRel] at this
    have hR : R e.2 p.2 := by
      have := h e.1
      simpa [lk, hk, OptRel] using this
    have hr : ∀ k, OptRel R (lk es k) (lk ps k) := fun k => by
      by_cases e1 : e.1 = k
      · rw [lk_none (l := es) (k := k) (fun q hq e2 => by have := he1 q hq; rw [e1, e2] at this; exact List.lt_irrefl _ this), lk_none (l := ps) (k := k) (fun q hq e2 => by have := hp1 q hq; rw [← hk, e1, e2] at this; exact List.lt_irrefl _ this)]
        trivial
      · have := h k
        unfold lk at this
        rw [if_neg e1, if_neg (by rw [← hk]; exact e1)] at this
        exact this
    obtain ⟨i1, i2⟩ := asc_match R es ps he2 hp2 hr
    refine ⟨by simp [hk, i1], fun i y hy => ?_⟩
    rcases i with _ | i
    · simp at hy
      subst hy
      exact ⟨e, rfl, hk, hR⟩
    · simp at hy
      exact i2 i y hy

/-- A value laid at a key. -/
def put : List (ByteArray × α) → ByteArray → α → List (ByteArray × α)
  | [], k, y => [(k, y)]
  | p :: r, k, y => if p.1 = k then (k, y) :: r else if k.data.toList < p.1.data.toList then (k, y) :: p :: r else p :: put r k y

theorem lk_put (y : α) (k k' : ByteArray) : ∀ l : List (ByteArray × α), lk (put l k y) k' = if k = k' then some y else lk l k'
  | [] => by simp [put, lk]
  | p :: r => by
    unfold put
    by_cases h1 : p.1 = k
    · rw [if_pos h1]
      by_cases h2 : k = k'
      · simp [lk, h2]
      · rw [if_neg h2]
        simp only [lk]
        rw [if_neg h2, if_neg (by rw [h1]; exact h2)]
    · rw [if_neg h1]
      split
      · by_cases h2 : k = k'
        · simp [lk, h2]
        · simp only [lk]
      · by_cases h2 : k = k'
        · subst h2
          simp only [lk]
          rw [if_neg h1, lk_put y k k r]
          simp
        · simp only [lk]
          rw [lk_put y k k' r, if_neg h2, if_neg h2]

theorem put_keys (y : α) (k : ByteArray) : ∀ (l : List (ByteArray × α)) (p : ByteArray × α), p ∈ put l k y → p.1 = k ∨ p ∈ l
  | [], p, h => by
    simp [put] at h
    exact Or.inl (by rw [h])
  | q :: r, p, h => by
    unfold put at h
    split at h
    · rcases List.mem_cons.1 h with rfl | h
      · exact Or.inl rfl
      · exact Or.inr (List.mem_cons_of_mem _ h)
    · split at h
      · rcases List.mem_cons.1 h with rfl | h
        · exact Or.inl rfl
        · exact Or.inr h
      · rcases List.mem_cons.1 h with rfl | h
        · exact Or.inr List.mem_cons_self
        · rcases put_keys y k r p h with h | h
          · exact Or.inl h
          · exact Or.inr (List.mem_cons_of_mem _ h)

theorem asc_put (y : α) (k : ByteArray) : ∀ l : List (ByteArray × α), Asc l → Asc (put l k y)
  | [], _ => List.pairwise_singleton _ _
  | p :: r, h => by
    obtain ⟨h1, h2⟩ := List.pairwise_cons.1 h
    unfold put
    split
    · rename_i e
      exact List.pairwise_cons.2 ⟨fun q hq => by rw [← e]; exact h1 q hq, h2⟩
    · rename_i e
      split
      · rename_i hlt
        refine List.pairwise_cons.2 ⟨fun q hq => ?_, h⟩
        rcases List.mem_cons.1 hq with rfl | hq
        · exact hlt
        · exact List.lt_trans hlt (h1 q hq)
      · rename_i hlt
        refine List.pairwise_cons.2 ⟨fun q hq => ?_, asc_put y k r h2⟩
        rcases put_keys y k r q hq with hq | hq
        · rw [hq]
          exact key_tri _ _ e hlt
        · exact h1 q hq

theorem length_put (y : α) (k : ByteArray) : ∀ l : List (ByteArray × α), (put l k y).length ≤ l.length + 1
  | [] => by simp [put]
  | p :: r => by
    unfold put
    split
    · simp
    · split
      · simp
      · have := length_put y k r
        simp
        omega

/-- How many keys lie ahead of one. -/
def plc : List ByteArray → ByteArray → Nat
  | [], _ => 0
  | a :: r, k => if Op.bytesLess a.toList k.toList = true then plc r k + 1 else 0

/-- Is the key there? -/
def hit (ks : List ByteArray) (k : ByteArray) : Bool := decide (ks[plc ks k]? = some k)

theorem less_lt (a b : ByteArray) : Op.bytesLess a.toList b.toList = true ↔ a.data.toList < b.data.toList := by
  rw [less_before, toList_data, toList_data]
  exact ⟨before_lt _ _, lt_before _ _⟩

theorem plc_le : ∀ (ks : List ByteArray) (k : ByteArray), plc ks k ≤ ks.length
  | [], _ => Nat.le_refl _
  | a :: r, k => by
    unfold plc
    have := plc_le r k
    split <;> simp <;> omega

theorem plc_eq : ∀ (ks : List ByteArray) (k : ByteArray) (j : Nat), j ≤ ks.length → (∀ (i : Nat) a, i < j → ks[i]? = some a → Op.bytesLess a.toList k.toList = true) → (∀ a, ks[j]? = some a → Op.bytesLess a.toList k.toList = false) → plc ks k = j
  | [], _, j, hj, _, _ => by simp at hj; subst hj; rfl
  | a :: r, k, 0, _, _, h => by
    unfold plc
    rw [if_neg (by rw [h a rfl]; simp)]
  | a :: r, k, j + 1, hj, h1, h2 => by
    unfold plc
    rw [if_pos (h1 0 a (by omega) rfl), plc_eq r k j (by simpa using hj) (fun i b hi hb => h1 (i + 1) b (by omega) (by simpa using hb)) (fun b hb => h2 b (by simpa using hb))]

theorem put_eq (k : ByteArray) (y : α) : ∀ l : List (ByteArray × α), put l k y = l.take (plc (l.map (·.1)) k) ++ (k, y) :: l.drop (plc (l.map (·.1)) k + if hit (l.map (·.1)) k = true then 1 else 0)
  | [] => by simp [put, plc]
  | p :: r => by
    unfold put
    by_cases h1 : p.1 = k
    · rw [if_pos h1]
      have hn : ¬ Op.bytesLess p.1.toList k.toList = true := fun h => by rw [less_lt, h1] at h; exact List.lt_irrefl _ h
      have e : plc ((p :: r).map (·.1)) k = 0 := by simp only [List.map_cons, plc]; rw [if_neg hn]
      have eh : hit ((p :: r).map (·.1)) k = true := by unfold hit; rw [e]; simp [h1]
      rw [e, eh]
      simp
    · rw [if_neg h1]
      by_cases h2 : k.data.toList < p.1.data.toList
      · rw [if_pos h2]
        have hn : ¬ Op.bytesLess p.1.toList k.toList = true := fun h => by rw [less_lt] at h; exact List.lt_irrefl _ (List.lt_trans h h2)
        have e : plc ((p :: r).map (·.1)) k = 0 := by simp only [List.map_cons, plc]; rw [if_neg hn]
        have eh : hit ((p :: r).map (·.1)) k = false := by unfold hit; rw [e]; simp [h1]
        rw [e, eh]
        simp
      · rw [if_neg h2]
        have hy : Op.bytesLess p.1.toList k.toList = true := (less_lt _ _).2 (key_tri _ _ h1 h2)
        have e : plc ((p :: r).map (·.1)) k = plc (r.map (·.1)) k + 1 := by simp only [List.map_cons, plc]; rw [if_pos hy]
        have eh : hit ((p :: r).map (·.1)) k = hit (r.map (·.1)) k := by unfold hit; rw [e]; simp
        rw [e, eh, put_eq k y r]
        cases hit (r.map (·.1)) k <;> simp

theorem lk_hit (k : ByteArray) : ∀ l : List (ByteArray × α), Asc l → (lk l k = if hit (l.map (·.1)) k = true then (l[plc (l.map (·.1)) k]?).map (·.2) else none)
  | [], _ => by simp [lk, hit, plc]
  | p :: r, h => by
    obtain ⟨g1, g2⟩ := List.pairwise_cons.1 h
    by_cases h1 : p.1 = k
    · have hn : ¬ Op.bytesLess p.1.toList k.toList = true := fun h => by rw [less_lt, h1] at h; exact List.lt_irrefl _ h
      have e : plc ((p :: r).map (·.1)) k = 0 := by simp only [List.map_cons, plc]; rw [if_neg hn]
      have eh : hit ((p :: r).map (·.1)) k = true := by unfold hit; rw [e]; simp [h1]
      rw [e, eh]
      simp [lk, h1]
    · by_cases h2 : k.data.toList < p.1.data.toList
      · have hn : ¬ Op.bytesLess p.1.toList k.toList = true := fun h => by rw [less_lt] at h; exact List.lt_irrefl _ (List.lt_trans h h2)
        have e : plc ((p :: r).map (·.1)) k = 0 := by simp only [List.map_cons, plc]; rw [if_neg hn]
        have eh : hit ((p :: r).map (·.1)) k = false := by unfold hit; rw [e]; simp [h1]
        rw [eh, lk_none (fun q hq e2 => by
          rcases List.mem_cons.1 hq with rfl | hq
          · exact h1 e2
          · have := List.lt_trans h2 (g1 q hq)
            rw [e2] at this
            exact List.lt_irrefl _ this)]
        simp
      · have hy : Op.bytesLess p.1.toList k.toList = true := (less_lt _ _).2 (key_tri _ _ h1 h2)
        have e : plc ((p :: r).map (·.1)) k = plc (r.map (·.1)) k + 1 := by simp only [List.map_cons, plc]; rw [if_pos hy]
        have eh : hit ((p :: r).map (·.1)) k = hit (r.map (·.1)) k := by unfold hit; rw [e]; simp
        rw [e, eh]
        simp only [lk]
        rw [if_neg h1, lk_hit k r g2]
        simp

/-- One list's pairs laid into another, f telling what comes of two values. -/
def mrgW (f : Option α → α → α) (ps qs : List (ByteArray × α)) : List (ByteArray × α) := qs.foldl (fun cur q => put cur q.1 (f (lk cur q.1) q.2)) ps

theorem asc_mrgW (f : Option α → α → α) : ∀ (qs ps : List (ByteArray × α)), Asc ps → Asc (mrgW f ps qs)
  | [], _, h => h
  | q :: r, ps, h => asc_mrgW f r _ (asc_put _ _ _ h)

theorem length_mrgW (f : Option α → α → α) : ∀ (qs ps : List (ByteArray × α)), (mrgW f ps qs).length ≤ ps.length + qs.length
  | [], ps => by simp [mrgW]
  | q :: r, ps => by
    have h1 := length_mrgW f r (put ps q.1 (f (lk ps q.1) q.2))
    have h2 := length_put (f (lk ps q.1) q.2) q.1 ps
    simp only [List.length_cons]
    unfold mrgW at h1 ⊢
    rw [List.foldl_cons]
    omega

theorem lk_mrgW (f : Option α → α → α) (k : ByteArray) : ∀ (qs ps : List (ByteArray × α)), Asc qs → lk (mrgW f ps qs) k = match lk qs k with | some y => some (f (lk ps k) y) | none => lk ps k
  | [], ps, _ => rfl
  | q :: r, ps, h => by
    obtain ⟨h1, h2⟩ := List.pairwise_cons.1 h
    have ih := lk_mrgW f k r (put ps q.1 (f (lk ps q.1) q.2)) h2
    show lk (mrgW f (put ps q.1 (f (lk ps q.1) q.2)) r) k = _
    rw [ih, lk_put]
    simp only [lk]
    by_cases e : q.1 = k
    · subst e
      have hn : lk r q.1 = none := lk_none (fun p hp e => by have := h1 p hp; rw [e] at this; exact List.lt_irrefl _ this)
      simp [hn]
    · simp [e]

theorem mrgW_next (f : Option α → α → α) {ps qs : List (ByteArray × α)} (hq : Asc qs) {j : Nat} {q : ByteArray × α} (h : qs[j]? = some q) :
    lk (mrgW f ps (qs.take j)) q.1 = lk ps q.1 ∧ mrgW f ps (qs.take (j + 1)) = put (mrgW f ps (qs.take j)) q.1 (f (lk ps q.1) q.2) := by
  have hj := (List.getElem?_eq_some_iff.1 h).1
  have he := (List.getElem?_eq_some_iff.1 h).2
  have ht : Asc (qs.take j) := List.Pairwise.sublist (List.take_sublist _ _) hq
  have hn : lk (qs.take j) q.1 = none := lk_none (fun p hp e => by
    obtain ⟨i, hi, rfl⟩ := List.getElem_of_mem hp
    rw [List.length_take] at hi
    have := List.pairwise_iff_getElem.1 hq i j (by omega) hj (by omega)
    rw [List.getElem_take] at e
    rw [e, he] at this
    exact List.lt_irrefl _ this)
  have e1 : lk (mrgW f ps (qs.take j)) q.1 = lk ps q.1 := by rw [lk_mrgW f _ _ _ ht, hn]
  refine ⟨e1, ?_⟩
  rw [List.take_add_one, h]
  unfold mrgW at e1 ⊢
  rw [Option.toList_some, List.foldl_append, List.foldl_cons, List.foldl_nil, e1]

theorem mem_mrgW (f : Option α → α → α) {ps qs : List (ByteArray × α)} (hp : Asc ps) (hq : Asc qs) {p : ByteArray × α} (h : p ∈ mrgW f ps qs) : p ∈ ps ∨ ∃ y, (p.1, y) ∈ qs ∧ p.2 = f (lk ps p.1) y := by
  have h1 := mem_lk (asc_mrgW f qs ps hp) h
  rw [lk_mrgW f _ _ _ hq] at h1
  cases e : lk qs p.1 with
  | none =>
    rw [e] at h1
    exact Or.inl (lk_mem h1)
  | some y =>
    rw [e] at h1
    simp at h1
    exact Or.inr ⟨y, lk_mem e, h1.symm⟩
end

/-- A map as plain data, and its pairs. -/
def mapJ (ps : List (ByteArray × JV)) : JV := .mk 6 0 ⟨#[]⟩ [] (ps.map (·.1)) (ps.map (·.2))
def prs (v : JV) : List (ByteArray × JV) := v.keys.zip v.vals

theorem zip_prs {α β : Type} : ∀ l : List (α × β), (l.map (·.1)).zip (l.map (·.2)) = l
  | [] => rfl
  | p :: r => by simp [zip_prs r]
theorem prs_mapJ (ps : List (ByteArray × JV)) : prs (mapJ ps) = ps := zip_prs ps

theorem zip_fst {α β : Type} : ∀ (a : List α) (b : List β), a.length = b.length → (a.zip b).map (·.1) = a ∧ (a.zip b).map (·.2) = b
  | [], [], _ => ⟨rfl, rfl⟩
  | [], b :: s, h => by simp at h
  | a :: r, [], h => by simp at h
  | a :: r, b :: s, h => by
    obtain ⟨h1, h2⟩ := zip_fst r s (by simpa using h)
    constructor <;> simp [h1, h2]

theorem mapJ_prs {n : Nat} {v : JV} (h : Say (n + 1) v) (hk : v.kind = 6) : mapJ (prs v) = v := by
  obtain ⟨-, h3, h4, h5, -, hkv, -⟩ := h
  have e1 : v.half = 0 := h3.resolve_left (by omega)
  have e2 : v.text = ⟨#[]⟩ := text_nil (h4.resolve_left (by omega))
  have e3 : v.list = [] := h5.resolve_left (by omega)
  obtain ⟨z1, z2⟩ := zip_fst v.keys v.vals hkv
  unfold mapJ prs
  rw [z1, z2]
  cases v
  simp only [JV.kind, JV.half, JV.text, JV.list, JV.keys, JV.vals] at *
  subst hk e1 e2 e3
  rfl

/-- What comes of two values: merged, where both are maps. -/
def mvs : Nat → Option JV → JV → JV
  | n + 1, some x, y => if x.kind = 6 ∧ y.kind = 6 then mapJ (mrgW (mvs n) (prs x) (prs y)) else y
  | _, _, y => y

/-- What Fit lets in, its texts and keys being texts in memory. -/
def Fine (n : Nat) (v : JV) : Prop := Good n v ∧ Say n v

theorem Fine.asc {n : Nat} {v : JV} (h : Fine (n + 1) v) : Asc (prs v) := by
  obtain ⟨-, -, -, -, -, -, hkv, -, -, -, -, -, hr, -⟩ := h
  refine rise_asc ?_
  unfold prs
  rw [(zip_fst v.keys v.vals hkv).1]
  exact hr

theorem Fine.val {n : Nat} {v : JV} (h : Fine (n + 1) v) {k : ByteArray} {y : JV} (hm : (k, y) ∈ prs v) : Fine n y := by
  obtain ⟨⟨-, -, -, -, -, hkv, -, -, -, -, -, -, -, -, hg⟩, -, -, -, -, -, -, -, -, -, -, -, -, hs, -⟩ := h
  have : y ∈ v.vals := by
    rw [← (zip_fst v.keys v.vals hkv).2]
    exact List.mem_map.2 ⟨(k, y), hm, rfl⟩
  exact ⟨hg y this, hs y this⟩

theorem Fine.key {n : Nat} {v : JV} (h : Fine (n + 1) v) {k : ByteArray} {y : JV} (hm : (k, y) ∈ prs v) : k.size ≤ 9223372036854775807 := by
  obtain ⟨-, -, -, -, -, -, hkv, -, -, -, -, -, -, -, hs, -⟩ := h
  refine hs k ?_
  rw [← (zip_fst v.keys v.vals hkv).1]
  exact List.mem_map.2 ⟨(k, y), hm, rfl⟩

theorem Fine.len {n : Nat} {v : JV} (h : Fine (n + 1) v) : (prs v).length ≤ 400 := by
  obtain ⟨⟨-, -, -, -, -, hkv, -, -, -, -, hl, -⟩, -⟩ := h
  unfold prs
  rw [List.length_zip]
  omega

theorem mapJ_say {n : Nat} {ps : List (ByteArray × JV)} (h1 : Asc ps) (h2 : ps.length ≤ 100000) (h3 : ∀ p ∈ ps, Say n p.2) (h4 : ∀ p ∈ ps, p.1.size ≤ 9223372036854775807) : Say (n + 1) (mapJ ps) :=
  ⟨by show (0 : Int) ≤ 6 ∧ (6 : Int) ≤ 6; decide, Or.inr rfl, Or.inr (by show (⟨#[]⟩ : ByteArray).toList = []; rw [ByteArray.toList_eq]), Or.inr rfl, Or.inl rfl, by simp [mapJ, JV.keys, JV.vals], by show (-18014398509481984 : Int) ≤ 0 ∧ (0 : Int) ≤ 18014398509481984; decide, Or.inl (by show Int.tmod 0 2 = 0; decide), Nat.zero_le _, by simpa [mapJ, JV.vals] using h2,
    by intro x hx; exact absurd hx (List.not_mem_nil), asc_rise h1, by
      intro x hx
      obtain ⟨p, hp, rfl⟩ := List.mem_map.1 hx
      exact h3 p hp, by
      intro k hk
      obtain ⟨p, hp, rfl⟩ := List.mem_map.1 hk
      exact h4 p hp, by show (⟨#[]⟩ : ByteArray).size ≤ 9223372036854775807; decide⟩

/-- What two values of JSON merge to can be said. -/
theorem mrg_say (n : Nat) : ∀ (x y : JV), Fine (n + 1) x → Fine (n + 1) y → Say (n + 1) (mapJ (mrgW (mvs n) (prs x) (prs y))) := by
  induction n with
  | zero =>
    intro x y hx hy
    refine mapJ_say (asc_mrgW _ _ _ hx.asc) ?_ (fun p hp => ?_) (fun p hp => ?_)
    · have := length_mrgW (mvs 0) (prs y) (prs x)
      have := hx.len
      have := hy.len
      omega
    · rcases mem_mrgW (mvs 0) hx.asc hy.asc hp with h | ⟨z, hz, e⟩
      · exact (hx.val (k := p.1) (y := p.2) h).2
      · rw [e]
        exact (hy.val hz).2
    · rcases mem_mrgW (mvs 0) hx.asc hy.asc hp with h | ⟨z, hz, e⟩
      · exact hx.key (k := p.1) (y := p.2) h
      · exact hy.key hz
  | succ m ih =>
    intro x y hx hy
    refine mapJ_say (asc_mrgW _ _ _ hx.asc) ?_ (fun p hp => ?_) (fun p hp => ?_)
    · have := length_mrgW (mvs (m + 1)) (prs y) (prs x)
      have := hx.len
      have := hy.len
      omega
    · rcases mem_mrgW (mvs (m + 1)) hx.asc hy.asc hp with h | ⟨z, hz, e⟩
      · exact (hx.val (k := p.1) (y := p.2) h).2
      · rw [e]
        have hzf := hy.val hz
        cases hu : lk (prs x) p.1 with
        | none => exact hzf.2
        | some u =>
          show Say (m + 1) (if u.kind = 6 ∧ z.kind = 6 then mapJ (mrgW (mvs m) (prs u) (prs z)) else z)
          split
          · exact ih u z (hx.val (lk_mem hu)) hzf
          · exact hzf.2
    · rcases mem_mrgW (mvs (m + 1)) hx.asc hy.asc hp with h | ⟨z, hz, e⟩
      · exact hx.key (k := p.1) (y := p.2) h
      · exact hy.key hz
end Go.Proofs.YtmkdkcbkgngfdaaDoor
