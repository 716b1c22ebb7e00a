/- Keys that rise, put into a map one after another, lie in their order. -/
import Derived.Test.YtbnbemacljjimaaGreatDoorGoB
import Derived.WideShapes
namespace Go.Proofs.YtbnbemacljjimaaGreatDoor
open Go.RowKit
set_option linter.unusedVariables false

theorem less_before : ∀ a b : List UInt8, Op.bytesLess a b = bytesBefore a b
  | [], [] => rfl
  | _ :: _, [] => rfl
  | [], _ :: _ => rfl
  | a :: x, b :: y => by simp [Op.bytesLess, bytesBefore, less_before x y]

theorem toList_data (s : ByteArray) : s.toList = s.data.toList := ByteArray.toList_eq s

abbrev Ent := ByteArray × Value
def entL (e : Ent) : Lit × DataW Value := (Lit.string e.1.data.toList, DataW.held e.2)

theorem put_end : ∀ (ents : List Ent) (k : ByteArray) (x : Value), (∀ e ∈ ents, bytesBefore e.1.data.toList k.data.toList = true) →
    (DataW.map (ents.map entL)).put (.string k.data.toList) (.held x) = .map ((ents ++ [(k, x)]).map entL) := by
  intro ents k x h
  have hf : (ents.map entL).filter (fun p => !p.1.sameKey (.string k.data.toList)) = ents.map entL := by
    rw [List.filter_eq_self]
    intro p hp
    obtain ⟨e, he, rfl⟩ := List.mem_map.1 hp
    have hb := h e he
    simp only [entL, Lit.sameKey, Bool.not_eq_true', beq_eq_false_iff_ne, ne_eq]
    intro hq
    rw [hq, WideAt.bytes_irrefl] at hb
    cases hb
  have hi : ∀ l : List Ent, (∀ e ∈ l, bytesBefore e.1.data.toList k.data.toList = true) → DataW.insert (entL (k, x)) (l.map entL) = (l ++ [(k, x)]).map entL := by
    intro l
    induction l with
    | nil => intro _; rfl
    | cons e r ih =>
      intro hl
      have he := hl e (by simp)
      have hn : bytesBefore k.data.toList e.1.data.toList = false := by
        cases hq : bytesBefore k.data.toList e.1.data.toList with
        | false => rfl
        | true =>
          have := WideShapes.bytes_trans _ _ _ he hq
          rw [WideAt.bytes_irrefl] at this
          cases this
      have := ih (fun e he => hl e (by simp [he]))
      simp only [List.map_cons, List.cons_append, DataW.insert, entL, Lit.before, hn] at this ⊢
      simp [this]
  show DataW.map _ = _
  rw [hf]
  congr 1
  exact hi ents h
end Go.Proofs.YtbnbemacljjimaaGreatDoor
