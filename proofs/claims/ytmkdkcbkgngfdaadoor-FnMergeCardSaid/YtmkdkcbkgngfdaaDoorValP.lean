/- Plain: keys collected so far are no more than the map has. -/
import Derived.Test.YtmkdkcbkgngfdaaDoorValK
namespace Go.Proofs.YtmkdkcbkgngfdaaDoor
open Go.RowKit Go.Maps Go.Sort Go.Shelf
set_option linter.unusedVariables false

theorem nodup_le {α : Type} [DecidableEq α] : ∀ (l l' : List α), l.Nodup → (∀ x ∈ l, x ∈ l') → l.length ≤ l'.length
  | [], _, _, _ => Nat.zero_le _
  | a :: l, l', hn, hs => by
    have ha : a ∈ l' := hs a List.mem_cons_self
    have hn' := List.nodup_cons.1 hn
    have h := nodup_le l (l'.erase a) hn'.2 (fun x hx => (List.mem_erase_of_ne (by intro e; subst e; exact hn'.1 hx)).2 (hs x (List.mem_cons_of_mem _ hx)))
    rw [List.length_erase_of_mem ha] at h
    have := List.length_pos_of_mem ha
    simp only [List.length_cons]
    omega
end Go.Proofs.YtmkdkcbkgngfdaaDoor
