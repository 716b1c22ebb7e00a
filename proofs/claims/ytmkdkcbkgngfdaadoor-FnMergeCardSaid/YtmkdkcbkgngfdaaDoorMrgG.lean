/- Maps as the program has them: put, looked up; values whose blocks are among some. -/
import Derived.Test.YtmkdkcbkgngfdaaDoorMrgP
import Derived.Maps.RangeWalk
import Derived.Sort.KeysCollected
namespace Go.Proofs.YtmkdkcbkgngfdaaDoor
open Go.RowKit Go.Maps Go.Sort
set_option linter.unusedVariables false

theorem before_lit (a b : ByteArray) : (Lit.string a.data.toList).before (.string b.data.toList) = bytesBefore a.data.toList b.data.toList := rfl

theorem same_lit (a b : ByteArray) : (Lit.string a.data.toList).sameKey (.string b.data.toList) = decide (a = b) := by
  simp only [Lit.sameKey]
  by_cases h : a = b
  · simp [h]
  · simp [h]
    intro e
    exact h (by cases a; cases b; simp at e; simp [e])

/-- The program's own put. -/
theorem put_ents : ∀ (ents : List Ent) (k : ByteArray) (y : Value), Asc ents → (DataW.map (ents.map entL)).put (.string k.data.toList) (.held y) = .map ((put ents k y).map entL) := by
  intro ents k y ha
  have key : ∀ l : List Ent, Asc l → DataW.insert (entL (k, y)) ((l.map entL).filter fun p => !p.1.sameKey (.string k.data.toList)) = (put l k y).map entL := by
    intro l
    induction l with
    | nil => intro _; rfl
    | cons e r ih =>
      intro hl
      obtain ⟨h1, h2⟩ := List.pairwise_cons.1 hl
      have ht : (entL e).1.sameKey (.string k.data.toList) = decide (e.1 = k) := same_lit e.1 k
      unfold put
      by_cases hk : e.1 = k
      · rw [if_pos hk, List.map_cons, List.filter_cons_of_neg (by simp [ht, hk])]
        have hf : (r.map entL).filter (fun p => !p.1.sameKey (.string k.data.toList)) = r.map entL := by
          rw [List.filter_eq_self]
          intro p hp
          obtain ⟨q, hq, rfl⟩ := List.mem_map.1 hp
          have : (entL q).1.sameKey (.string k.data.toList) = decide (q.1 = k) := same_lit q.1 k
          rw [this]
          have hne : ¬ q.1 = k := fun e2 => by have := h1 q hq; rw [hk, e2] at this; exact List.lt_irrefl _ this
          simp [hne]
        rw [hf, List.map_cons]
        cases r with
        | nil => rfl
        | cons q r =>
          have hb : (entL (k, y)).1.before (entL q).1 = true := lt_before _ _ (by have := h1 q List.mem_cons_self; rw [hk] at this; exact this)
          simp only [List.map_cons, DataW.insert]
          rw [if_pos hb]
      · rw [if_neg hk, List.map_cons, List.filter_cons_of_pos (by simp [ht, hk])]
        by_cases hlt : k.data.toList < e.1.data.toList
        · rw [if_pos hlt]
          have hf : (r.map entL).filter (fun p => !p.1.sameKey (.string k.data.toList)) = r.map entL := by
            rw [List.filter_eq_self]
            intro p hp
            obtain ⟨q, hq, rfl⟩ := List.mem_map.1 hp
            have : (entL q).1.sameKey (.string k.data.toList) = decide (q.1 = k) := same_lit q.1 k
            rw [this]
            have hne : ¬ q.1 = k := fun e2 => by have := List.lt_trans hlt (h1 q hq); rw [e2] at this; exact List.lt_irrefl _ this
            simp [hne]
          have hb : (entL (k, y)).1.before (entL e).1 = true := lt_before _ _ hlt
          rw [hf]
          simp only [DataW.insert]
          rw [if_pos hb]
          rfl
        · rw [if_neg hlt]
          have hb : (entL (k, y)).1.before (entL e).1 = false := by
            cases hq : (entL (k, y)).1.before (entL e).1 with
            | false => rfl
            | true => exact absurd (before_lt _ _ hq) hlt
          simp only [DataW.insert, List.map_cons]
          rw [if_neg (by rw [hb]; simp), ih h2]
  show DataW.map _ = _
  exact congrArg DataW.map (key ents ha)

theorem atKey_lk (ents : List Ent) (k : ByteArray) (z : DataW Value) : (DataW.map (ents.map entL)).atKey (.string k.data.toList) z = match lk ents k with | some c => .held c | none => z := by
  induction ents with
  | nil => rfl
  | cons e r ih =>
    simp only [DataW.atKey, List.map_cons, List.find?_cons] at ih ⊢
    have ht : (entL e).1.sameKey (.string k.data.toList) = decide (e.1 = k) := same_lit e.1 k
    rw [ht]
    unfold lk
    by_cases hk : e.1 = k
    · simp [hk, entL]
    · simp only [hk, decide_false, if_false]
      exact ih

theorem has_lk (ents : List Ent) (k : ByteArray) : has (.map (ents.map entL)) (.string k.data.toList) = (lk ents k).isSome := by
  induction ents with
  | nil => rfl
  | cons e r ih =>
    rw [has_eq] at ih ⊢
    simp only [List.map_cons, List.any_cons]
    rw [ih]
    have ht : (entL e).1.sameKey (.string k.data.toList) = decide (e.1 = k) := same_lit e.1 k
    rw [ht]
    by_cases hk : e.1 = k <;> simp [lk, hk]

theorem at_lk {ents : List Ent} {k : ByteArray} {c : Value} (h : ∀ zd : DataW Value, (DataW.map (ents.map entL)).atKey (.string k.data.toList) zd = .held c) : lk ents k = some c := by
  have h1 := h .nil
  rw [atKey_lk] at h1
  cases e : lk ents k with
  | none => rw [e] at h1; cases h1
  | some d => rw [e] at h1; cases h1; rfl

theorem MapIs.norm {w : World} {g m : Nat} {ents : List Ent} (h : w.ownsMap Tryd.prog 9 Rv g m (.map (ents.map entL))) : MapIs w g ents := by
  obtain ⟨es, clock, hb, F, hs, hD⟩ := h
  refine ⟨es, clock, hb, F, ?_, hD⟩
  have := congrArg (fun D : DataW Value => Maps.size D) hD
  simp only [Maps.size, length_sorted] at this
  simp at this
  omega

theorem lookup_ok {w : World} {b : Nat} {ents : List Ent} (hm : MapIs w b ents) (k : ByteArray) (hs : k.size ≤ 9223372036854775807) :
    (Instr.lookup 55 (.map (some b)) (.string k) true).run Tryd.prog w = .ok (.tuple #[(lk ents k).getD .nilIface, .bool (lk ents k).isSome]) w := by
  have hkey : keyOf Tryd.prog 9 (.string k) = some (.string k.data.toList) := WideMaps.keyOf_string_mk Tryd.underlying9 (by unfold maxLen; omega)
  have hz : (zeroValue 20).run Tryd.prog w = .ok .nilIface w := by kernel_rfl
  obtain ⟨v, ps, hrun, hv⟩ := World.ownsMap.look_ok (w := w) hm (Maps.string_keyed Tryd.underlying9) Tryd.underlying55 hz (zd := .held .nilIface) (zp := []) rfl hkey
  have e1 : (DataW.map (ents.map fun (e : ByteArray × Value) => (Lit.string e.1.data.toList, DataW.held e.2))) = DataW.map (ents.map entL) := rfl
  rw [e1] at hrun hv
  rw [has_lk] at hrun
  rw [atKey_lk] at hv
  rw [hrun]
  have : v = (lk ents k).getD .nilIface := by
    cases e : lk ents k with
    | none => rw [e] at hv; simp [Rv] at hv; simp [hv.1]
    | some c => rw [e] at hv; simp [Rv] at hv; simp [hv.1]
  rw [this]

/-- A value as the program has it; its blocks are among some. -/
def GP (w : World) (P : Nat → Prop) : Nat → Value → JV → Prop
  | 0, _, _ => False
  | n + 1, x, v =>
    (v.kind = 0 ∧ x = .nilIface) ∨ (v.kind = 1 ∧ x = .iface 4 (.bool false)) ∨ (v.kind = 2 ∧ x = .iface 4 (.bool true)) ∨
    (v.kind = 3 ∧ v.half.tmod 2 = 0 ∧ x = .iface 3 (.int .i64 (v.half.tdiv 2))) ∨
    (v.kind = 3 ∧ ¬ v.half.tmod 2 = 0 ∧ x = .iface 66 (.float .f64 (halfBits v.half))) ∨
    (v.kind = 4 ∧ x = .iface 9 (.string v.text)) ∨
    (v.kind = 5 ∧ ∃ b o c, x = .iface 59 (.slice (some ⟨b, o, none⟩) v.list.length c) ∧ P b ∧ b < w.heap.size ∧ v.list.length ≤ c ∧ c ≤ 9223372036854775807 ∧
      ∀ (i : Nat) y, v.list[i]? = some y → ∃ z, w.cell? ⟨b, o + i, none⟩ = some z ∧ GP w P n z y) ∨
    (v.kind = 6 ∧ ∃ (b : Nat) (ents : List (ByteArray × Value)), x = .iface 55 (.map (some b)) ∧ P b ∧ b < w.heap.size ∧ MapIs w b ents ∧ ents.map (·.1) = v.keys ∧
      ∀ (i : Nat) y, v.vals[i]? = some y → ∃ e : ByteArray × Value, ents[i]? = some e ∧ GP w P n e.2 y)

theorem GP.keep {P P' : Nat → Prop} {w w' : World} (hw : ∀ b, b < w.heap.size → P b → w'.heap[b]? = w.heap[b]?) (hs : w.heap.size ≤ w'.heap.size) (hP : ∀ b, b < w.heap.size → P b → P' b) : ∀ (n : Nat) (x : Value) (v : JV), GP w P n x v → GP w' P' n x v
  | 0, _, _, h => h.elim
  | n + 1, x, v, h => by
    rcases h with h | h | h | h | h | h | h | h
    · exact Or.inl h
    · exact Or.inr (Or.inl h)
    · exact Or.inr (Or.inr (Or.inl h))
    · exact Or.inr (Or.inr (Or.inr (Or.inl h)))
    · exact Or.inr (Or.inr (Or.inr (Or.inr (Or.inl h))))
    · exact Or.inr (Or.inr (Or.inr (Or.inr (Or.inr (Or.inl h)))))
    · obtain ⟨hk, b, o, c, rfl, h1, h2, h3, h4, h5⟩ := h
      refine Or.inr (Or.inr (Or.inr (Or.inr (Or.inr (Or.inr (Or.inl ⟨hk, b, o, c, rfl, hP b h2 h1, Nat.lt_of_lt_of_le h2 hs, h3, h4, fun i y hy => ?_⟩))))))
      obtain ⟨z, hz, hg⟩ := h5 i y hy
      exact ⟨z, (World.cell?_of_block (hw b h2 h1)).trans hz, GP.keep hw hs hP n _ _ hg⟩
    · obtain ⟨hk, b, ents, rfl, h1, h2, h3, h4, h5⟩ := h
      refine Or.inr (Or.inr (Or.inr (Or.inr (Or.inr (Or.inr (Or.inr ⟨hk, b, ents, rfl, hP b h2 h1, Nat.lt_of_lt_of_le h2 hs, ?_, h4, fun i y hy => ?_⟩))))))
      · obtain ⟨es, clock, hb, r⟩ := h3
        exact ⟨es, clock, (hw b h2 h1).trans hb, r⟩
      · obtain ⟨z, hz, hg⟩ := h5 i y hy
        exact ⟨z, hz, GP.keep hw hs hP n _ _ hg⟩

theorem GP.of_gat {w : World} {lo : Nat} : ∀ (n : Nat) (x : Value) (v : JV), GAt w lo n x v → GP w (fun b => lo ≤ b) n x v
  | 0, _, _, h => h.elim
  | n + 1, x, v, h => by
    rcases h with h | h | h | h | h | h | h | h
    · exact Or.inl h
    · exact Or.inr (Or.inl h)
    · exact Or.inr (Or.inr (Or.inl h))
    · exact Or.inr (Or.inr (Or.inr (Or.inl h)))
    · exact Or.inr (Or.inr (Or.inr (Or.inr (Or.inl h))))
    · exact Or.inr (Or.inr (Or.inr (Or.inr (Or.inr (Or.inl h)))))
    · obtain ⟨hk, b, o, c, rfl, h1, h2, h3, h4, h5⟩ := h
      refine Or.inr (Or.inr (Or.inr (Or.inr (Or.inr (Or.inr (Or.inl ⟨hk, b, o, c, rfl, h1, h2, h3, h4, fun i y hy => ?_⟩))))))
      obtain ⟨z, hz, hg⟩ := h5 i y hy
      exact ⟨z, hz, GP.of_gat n _ _ hg⟩
    · obtain ⟨hk, b, ents, rfl, h1, h2, h3, h4, h5⟩ := h
      refine Or.inr (Or.inr (Or.inr (Or.inr (Or.inr (Or.inr (Or.inr ⟨hk, b, ents, rfl, h1, h2, h3, h4, fun i y hy => ?_⟩))))))
      obtain ⟨z, hz, hg⟩ := h5 i y hy
      exact ⟨z, hz, GP.of_gat n _ _ hg⟩

theorem GP.gat {w : World} {P : Nat → Prop} {lo : Nat} (hP : ∀ b, P b → lo ≤ b) : ∀ (n : Nat) (x : Value) (v : JV), GP w P n x v → GAt w lo n x v
  | 0, _, _, h => h.elim
  | n + 1, x, v, h => by
    rcases h with h | h | h | h | h | h | h | h
    · exact Or.inl h
    · exact Or.inr (Or.inl h)
    · exact Or.inr (Or.inr (Or.inl h))
    · exact Or.inr (Or.inr (Or.inr (Or.inl h)))
    · exact Or.inr (Or.inr (Or.inr (Or.inr (Or.inl h))))
    · exact Or.inr (Or.inr (Or.inr (Or.inr (Or.inr (Or.inl h)))))
    · obtain ⟨hk, b, o, c, rfl, h1, h2, h3, h4, h5⟩ := h
      refine Or.inr (Or.inr (Or.inr (Or.inr (Or.inr (Or.inr (Or.inl ⟨hk, b, o, c, rfl, hP b h1, h2, h3, h4, fun i y hy => ?_⟩))))))
      obtain ⟨z, hz, hg⟩ := h5 i y hy
      exact ⟨z, hz, GP.gat hP n _ _ hg⟩
    · obtain ⟨hk, b, ents, rfl, h1, h2, h3, h4, h5⟩ := h
      refine Or.inr (Or.inr (Or.inr (Or.inr (Or.inr (Or.inr (Or.inr ⟨hk, b, ents, rfl, hP b h1, h2, h3, h4, fun i y hy => ?_⟩))))))
      obtain ⟨z, hz, hg⟩ := h5 i y hy
      exact ⟨z, hz, GP.gat hP n _ _ hg⟩

theorem GP.form {w : World} {P : Nat → Prop} {n : Nat} {x : Value} {v : JV} (h : GP w P n x v) : x = .nilIface ∨ ∃ t u, x = .iface t u :=
  GAt.form (GP.gat (lo := 0) (fun b _ => Nat.zero_le b) n x v h)

/-- No map. -/
def NoMap (x : Value) : Prop := ∀ W : World, (Instr.typeAssert x 20 55 true).run Tryd.prog W = .ok (.tuple #[.map none, .bool false]) W

theorem GP.nomap {w : World} {P : Nat → Prop} {n : Nat} {x : Value} {v : JV} (h : GP w P n x v) (hk : ¬ v.kind = 6) : NoMap x := by
  intro W
  cases n with
  | zero => exact absurd h (fun h => h)
  | succ n =>
    rcases h with h | h | h | h | h | h | h | h
    · rw [h.2]; exact as_nil_map W
    · rw [h.2]; exact as_bool_map _ W
    · rw [h.2]; exact as_bool_map _ W
    · rw [h.2.2]; exact as_int_map _ W
    · rw [h.2.2]; exact as_float_map _ W
    · rw [h.2]; exact as_str_map _ W
    · obtain ⟨-, b, o, c, h, -⟩ := h
      rw [h]; exact as_list_map _ W
    · exact absurd h.1 hk

/-- A map of values whose blocks are among some. -/
structure MPt (w : World) (P : Nat → Prop) (n b : Nat) (ents : List Ent) (ps : List (ByteArray × JV)) : Prop where
  p : P b
  lt : b < w.heap.size
  map : MapIs w b ents
  keys : ents.map (·.1) = ps.map (·.1)
  vals : ∀ (i : Nat) y, ps[i]? = some y → ∃ e : Ent, ents[i]? = some e ∧ GP w P n e.2 y.2

theorem MPt.asc {w : World} {P : Nat → Prop} {n b : Nat} {ents : List Ent} {ps : List (ByteArray × JV)} (h : MPt w P n b ents ps) (ha : Asc ps) : Asc ents := by
  refine rise_asc ?_
  rw [h.keys]
  exact asc_rise ha

theorem MPt.rel {w : World} {P : Nat → Prop} {n b : Nat} {ents : List Ent} {ps : List (ByteArray × JV)} (h : MPt w P n b ents ps) (k : ByteArray) : OptRel (GP w P n) (lk ents k) (lk ps k) := by
  obtain ⟨-, -, -, hk, hv⟩ := h
  induction ps generalizing ents with
  | nil =>
    have : ents = [] := by simpa using hk
    subst this
    trivial
  | cons p r ih =>
    cases ents with
    | nil => simp at hk
    | cons e es =>
      simp only [List.map_cons, List.cons.injEq] at hk
      obtain ⟨e', he', hg⟩ := hv 0 p rfl
      simp at he'
      subst he'
      unfold lk
      rw [hk.1]
      split
      · exact hg
      · exact ih hk.2 (fun i y hy => hv (i + 1) y (by simpa using hy))

theorem MPt.gp {w : World} {P : Nat → Prop} {n b : Nat} {ents : List Ent} {ps : List (ByteArray × JV)} (h : MPt w P n b ents ps) : GP w P (n + 1) (.iface 55 (.map (some b))) (mapJ ps) := by
  refine Or.inr (Or.inr (Or.inr (Or.inr (Or.inr (Or.inr (Or.inr ⟨rfl, b, ents, rfl, h.p, h.lt, h.map, h.keys, fun i y hy => ?_⟩))))))
  simp only [mapJ, JV.vals, List.getElem?_map] at hy
  obtain ⟨p, hp, rfl⟩ := Option.map_eq_some_iff.1 hy
  exact h.vals i p hp

theorem GP.mg {w : World} {P : Nat → Prop} {n : Nat} {x : Value} {v : JV} (h : GP w P (n + 1) x v) (hk : v.kind = 6) (hl : v.keys.length = v.vals.length) : ∃ b ents, x = .iface 55 (.map (some b)) ∧ MPt w P n b ents (prs v) := by
  rcases h with h | h | h | h | h | h | h | h
  · omega
  · omega
  · omega
  · omega
  · omega
  · omega
  · omega
  · obtain ⟨-, b, ents, rfl, h1, h2, h3, h4, h5⟩ := h
    obtain ⟨z1, z2⟩ := zip_fst v.keys v.vals hl
    refine ⟨b, ents, rfl, h1, h2, h3, by rw [h4]; exact z1.symm, fun i y hy => ?_⟩
    have : v.vals[i]? = some y.2 := by
      have h6 : ((prs v).map (·.2))[i]? = some y.2 := by rw [List.getElem?_map, hy]; rfl
      unfold prs at h6
      rw [z2] at h6
      exact h6
    exact h5 i _ this

theorem MPt.keep {P P' : Nat → Prop} {w w' : World} {n b : Nat} {ents : List Ent} {ps : List (ByteArray × JV)} (h : MPt w P n b ents ps) (hw : ∀ b, b < w.heap.size → P b → w'.heap[b]? = w.heap[b]?) (hs : w.heap.size ≤ w'.heap.size) (hP : ∀ b, b < w.heap.size → P b → P' b) : MPt w' P' n b ents ps := by
  refine ⟨hP b h.lt h.p, Nat.lt_of_lt_of_le h.lt hs, ?_, h.keys, fun i y hy => ?_⟩
  · obtain ⟨es, clock, hb, r⟩ := h.map
    exact ⟨es, clock, (hw b h.lt h.p).trans hb, r⟩
  · obtain ⟨e, he, hg⟩ := h.vals i y hy
    exact ⟨e, he, GP.keep hw hs hP n _ _ hg⟩
end Go.Proofs.YtmkdkcbkgngfdaaDoor
