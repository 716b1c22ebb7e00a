/- The keys of a map, in their order: what slices.Sorted gives of maps.Keys, laid at this program (each one application of the library's contracts). -/
import Derived.Test.YtmkdkcbkgngfdaaDoorIt
import Derived.Test.YtmkdkcbkgngfdaaDoorJBase
namespace Go.Proofs.YtmkdkcbkgngfdaaDoor
open Go.RowKit Go.Maps Go.Sort Go.Shelf
set_option linter.unusedVariables false

theorem sortsAt (m : Nat) : AnyZ.SortsIn Tryd.prog Tryd.sorted100_ren Fence.wide m :=
  ⟨fun blk off cap ss W hH hblk hsz => callsIn_wide.2 (AnyM.slices_Sort_string Tryd.sort114 blk off cap ss W hH hblk hsz),
   fun p cap W => callsIn_wide.2 (AnyM.slices_Sort_string_none Tryd.sort114 p cap W)⟩

theorem mapsKeys_any (mb : Option Nat) (W : World) : Calls Tryd.prog 101 #[.map mb] W fun e w' => e = .returned (.func (.func 115) #[] #[.pointer (some ⟨W.heap.size, 0, none⟩)]) ∧ w' = W.alloc (.cells #[.map mb] 55) :=
  callsIn_wide.1 (AnyZ.keys_in Tryd.keys101 Fence.wide 5 trivial rfl mb W)

set_option maxHeartbeats 1000000 in
theorem sortedKeys_any {H : Type} (b nn : Nat) (D0 : DataW H) (R : Value → Option (DataW H × List MemPlace)) (w : World) (hown : w.ownsMap Tryd.prog 9 R b nn D0) (hmax : Maps.size D0 ≤ maxLen) (hbytes : Maps.size D0 * 16 ≤ 140737488355328) :
    Calls Tryd.prog 100 #[.func (.func 115) #[] #[.pointer (some ⟨w.heap.size, 0, none⟩)]] (w.alloc (.cells #[.map (some b)] 55)) fun e w' => ∃ (v : Value) (ss : List (List UInt8)), e = .returned v ∧ ss.Perm (strKeys D0) ∧
      w'.ownsRow (w.alloc (.cells #[.map (some b)] 55)).heap.size 9 1 v ss.length ((ss.mergeSort (fun x y => decide (x ≤ y))).map encStr) ∧ (v = .slice none 0 0 ↔ ss = []) ∧ Below (w.alloc (.cells #[.map (some b)] 55)).heap.size (w.alloc (.cells #[.map (some b)] 55)) w' := by
  have hbl := hown.lt
  have hseq : SeqGives Fence.wide 2 Tryd.prog 115 #[.pointer (some ⟨w.heap.size, 0, none⟩)] encStr (fun ss => ss.Perm (strKeys D0)) (Maps.size D0) (w.alloc (.cells #[.map (some b)] 55)) :=
    AnyZ.keys_gives (ρ := Tryd.keys101_ren) { Tryd.keys101 with } Fence.wide _ trivial rfl (by omega) w.heap.size b nn D0 _ (by simp) (by simp) (by
      obtain ⟨es, clock, hb, Ft, hs, hD⟩ := hown
      exact ⟨es, clock, (Below.heap_alloc _ _ b hbl).trans hb, Ft, hs, hD⟩)
  exact callsIn_wide.1 (AnyZ.sorted_in Tryd.sorted100 Fence.wide 5 trivial trivial trivial trivial rfl (by omega) (sortsAt _) (enters_of Tryd.func114 (by kernel_rfl) rfl) 115 #[.pointer (some ⟨w.heap.size, 0, none⟩)] trivial (enters_of Tryd.func115 (by kernel_rfl) rfl) _ _ hmax hbytes _ hseq)

/-- A list of texts that rises is what sorting makes of any order of it. -/
theorem sorted_rise {ss l : List (List UInt8)} (hp : ss.Perm l) (hr : l.Pairwise (fun a b => a < b)) : ss.mergeSort (fun x y => decide (x ≤ y)) = l := by
  have h1 : ss.mergeSort (fun x y => decide (x ≤ y)) = l.mergeSort (fun x y => decide (x ≤ y)) := mergeSort_of_perm hp
  rw [h1]
  refine List.mergeSort_of_pairwise (hr.imp fun h => ?_)
  simp only [decide_eq_true_eq]
  exact List.le_of_lt h
end Go.Proofs.YtmkdkcbkgngfdaaDoor
