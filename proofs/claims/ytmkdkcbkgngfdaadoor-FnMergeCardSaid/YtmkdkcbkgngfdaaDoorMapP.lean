/- A map that the program gives: its keys in their order, its values at them. -/
import Derived.Test.YtmkdkcbkgngfdaaDoorIter
import Derived.Test.YtmkdkcbkgngfdaaDoorFromW
namespace Go.Proofs.YtmkdkcbkgngfdaaDoor
open Go.RowKit Go.Maps Go.Sort
set_option linter.unusedVariables false

theorem before_lt : ∀ a b : List UInt8, bytesBefore a b = true → a < b
  | [], [], h => by simp [bytesBefore] at h
  | [], b :: s, _ => List.nil_lt_cons b s
  | a :: r, [], h => by simp [bytesBefore] at h
  | a :: r, b :: s, h => by
    rw [List.cons_lt_cons_iff]
    simp only [bytesBefore, Bool.or_eq_true, decide_eq_true_eq, Bool.and_eq_true, beq_iff_eq] at h
    rcases h with h | ⟨h1, h2⟩
    · exact Or.inl h
    · exact Or.inr ⟨h1, before_lt r s h2⟩

theorem Rise.pair {ks : List ByteArray} (h : Rise ks) : (ks.map (fun k => k.data.toList)).Pairwise (fun a b => a < b) := by
  rw [List.pairwise_iff_getElem]
  intro i j hi hj hij
  simp only [List.length_map] at hi hj
  simp only [List.getElem_map]
  obtain ⟨d, rfl⟩ : ∃ d, j = i + d + 1 := ⟨j - i - 1, by omega⟩
  exact before_lt _ _ (rise_all h d i _ _ (List.getElem?_eq_getElem hi) (List.getElem?_eq_getElem hj))

theorem strKeys_ents (ents : List Ent) : strKeys (.map (ents.map entL)) = (ents.map (·.1)).map (fun k => k.data.toList) := by
  simp [strKeys, entL, strOf, Function.comp_def]

theorem atKey_ent {ents : List Ent} (h : Rise (ents.map (·.1))) {j : Nat} {e : Ent} (he : ents[j]? = some e) (z : DataW Value) : (DataW.map (ents.map entL)).atKey (.string e.1.data.toList) z = .held e.2 := by
  have hp := h.pair
  rw [List.map_map, List.pairwise_map] at hp
  have hfind : (ents.map entL).find? (fun p => p.1.sameKey (.string e.1.data.toList)) = some (entL e) := by
    rw [List.find?_map]
    have : ents.find? ((fun p : Lit × DataW Value => p.1.sameKey (.string e.1.data.toList)) ∘ entL) = some e := by
      rw [List.find?_eq_some_iff_getElem]
      have hj := (List.getElem?_eq_some_iff.1 he)
      obtain ⟨hjl, hje⟩ := hj
      refine ⟨by simp [entL, Lit.sameKey], j, hjl, hje, fun i hi => ?_⟩
      have hlt := List.pairwise_iff_getElem.1 hp i j (by omega) hjl hi
      simp only [Function.comp, entL, Lit.sameKey, Bool.not_eq_true', beq_eq_false_iff_ne, ne_eq] at hlt ⊢
      intro heq
      rw [hje] at hlt
      rw [heq] at hlt
      exact List.lt_irrefl _ hlt
    rw [this]
    rfl
  simp only [DataW.atKey, hfind, entL]

theorem lookup_ent {w : World} {b : Nat} {ents : List Ent} (hm : MapIs w b ents) (h : Rise (ents.map (·.1))) {j : Nat} {e : Ent} (he : ents[j]? = some e) (hs : e.1.size ≤ 9223372036854775807) :
    (Instr.lookup 55 (.map (some b)) (.string e.1) false).run Tryd.prog w = .ok e.2 w := by
  have hkey : keyOf Tryd.prog 9 (.string e.1) = some (.string e.1.data.toList) := WideMaps.keyOf_string_mk Tryd.underlying9 (by unfold maxLen; omega)
  have hz : (zeroValue 20).run Tryd.prog w = .ok .nilIface w := by kernel_rfl
  obtain ⟨v, ps, hrun, hv⟩ := World.ownsMap.lookup (w := w) hm (Maps.string_keyed Tryd.underlying9) Tryd.underlying55 hz (zd := .held .nilIface) (zp := []) rfl hkey
  have hat := atKey_ent h he (.held .nilIface)
  have e1 : (DataW.map (ents.map fun (e : ByteArray × Value) => (Lit.string e.1.data.toList, DataW.held e.2))) = DataW.map (ents.map entL) := rfl
  rw [e1, hat] at hv
  have : v = e.2 := by
    simp only [Rv, Option.some.injEq, Prod.mk.injEq, DataW.held.injEq] at hv
    exact hv.1
  rw [← this]
  exact hrun

/-- The keys' row in memory, as texts. -/
theorem enc_keys (ks : List ByteArray) : (ks.map (fun k => k.data.toList)).map encStr = ks.map Value.string := by
  rw [List.map_map]
  apply List.map_congr_left
  intro k hk
  simp [encStr]
end Go.Proofs.YtmkdkcbkgngfdaaDoor
