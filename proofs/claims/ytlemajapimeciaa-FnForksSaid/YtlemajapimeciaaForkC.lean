/- The machine's stack of values: what a push does. -/
import Derived.Test.YtlemajapimeciaaForkB
import Derived.Lib.MinMax
namespace Go.Proofs.Ytlemajapimeciaa
open Go.RowKit
set_option linter.unusedVariables false

def NewOwn (w : World) (v v' : Value) : Prop := v'.ownBlock = v.ownBlock ∨ ∃ g, w.heap.size ≤ g ∧ v'.ownBlock = some g

/-- The push onto a row without the place: an append. -/
theorem stkPush_end {w w1 : World} {B sb cap cap' : Nat} {ao ao' : Option Addr} {data : List (Int × Int)} {index limit m x : Int} {o1 o2 : Obj} (hm : m = max index limit + 1) (hml : ¬ m < data.length)
    (hblk : Blk w sb 77 #[.slice ao data.length cap, .int .i64 index, .int .i64 limit]) (hown : w.ownsRow B 79 2 (.slice ao data.length cap) data.length (stkCells data))
    (hb1 : Blk w1 sb 77 #[.slice ao data.length cap, .int .i64 m, .int .i64 limit])
    (hg : ((w.setCell ⟨sb, 1, none⟩ (.int .i64 m)).alloc o1 |>.alloc o2).drew.drew.drew.grownBy w1 (Value.slice ao data.length cap).ownBlock)
    (hn : (Value.slice ao' (data.length + 1) cap').ownBlock = (Value.slice ao data.length cap).ownBlock ∨ (Value.slice ao' (data.length + 1) cap').ownBlock = some ((w.setCell ⟨sb, 1, none⟩ (.int .i64 m)).alloc o1 |>.alloc o2).drew.drew.drew.heap.size)
    (hown' : w1.ownsRow B 79 2 (.slice ao' (data.length + 1) cap') (data.length + 1) (stkCells data ++ [.iface 3 (.int .i64 x), .int .i64 index])) :
    ∃ v', StkAt (w1.setCell ⟨sb, 0, none⟩ (.slice ao' (data.length + 1) cap')) B sb v' ((Stk.mk data index limit).push x) ∧ NewOwn w (.slice ao data.length cap) v' ∧
      Only (Stk.Cells sb (.slice ao data.length cap)) w (w1.setCell ⟨sb, 0, none⟩ (.slice ao' (data.length + 1) cap')) := by
  refine ⟨.slice ao' (data.length + 1) cap', ⟨?_, ?_⟩, ?_, ?_⟩
  · have h := hb1.set_ 0 (.slice ao' (data.length + 1) cap')
    simp only [Stk.push, ← hm]
    simpa using h
  · simp only [Stk.push, ← hm, if_neg hml, List.length_append, List.length_singleton, stkCells_snoc]
    exact ownsRow_setCell_other hown' (a := ⟨sb, 0, none⟩) (own_blk_ne hown' hb1 (by decide)) _
  · rcases hn with hn | hn
    · exact Or.inl hn
    · refine Or.inr ⟨_, ?_, hn⟩
      simp
      omega
  · have h0 : Only (Stk.Cells sb (.slice ao data.length cap)) w (((w.setCell ⟨sb, 1, none⟩ (.int .i64 m)).alloc o1).alloc o2).drew.drew.drew :=
      ((((Only.refl (Stk.Cells sb (.slice ao data.length cap)) w).setCell (p := ⟨sb, 1, none⟩) (Or.inl (Or.inl rfl)) _).alloc _).alloc _).drew.drew.drew
    exact (h0.grown hg (fun k hk => Or.inl (Or.inr hk))).setCell (p := ⟨sb, 0, none⟩) (Or.inl (Or.inl rfl)) _

set_option maxHeartbeats 1000000 in
theorem stkPush_app (w : World) (B sb : Nat) (ao : Option Addr) (cap : Nat) (data : List (Int × Int)) (index limit m x : Int) (hB : B ≤ w.heap.size)
    (hblk : Blk w sb 77 #[.slice ao data.length cap, .int .i64 index, .int .i64 limit]) (hown : w.ownsRow B 79 2 (.slice ao data.length cap) data.length (stkCells data))
    (hlen : data.length ≤ 2000) (hi0 : -1 ≤ index) (hi1 : index < data.length) (hl0 : -1 ≤ limit) (hl1 : limit < data.length) (hm : m = max index limit + 1) (hml : ¬ m < data.length) :
    Calls Try.prog 26 #[.pointer (some ⟨sb, 0, none⟩), .iface 3 (.int .i64 x)] w fun e w' => e = .returned (.tuple #[]) ∧ ∃ v', StkAt w' B sb v' ((Stk.mk data index limit).push x) ∧ NewOwn w (.slice ao data.length cap) v' ∧
      Only (Stk.Cells sb (.slice ao data.length cap)) w w' := by
  obtain ⟨i0, hi, hz0, hz1, hz2⟩ := info_parts Try.info79
  have hbs := hblk.lt
  have c0 := hblk.cell 0
  have c1 := hblk.cell 1
  have c2 := hblk.cell 2
  have f0 := hblk.frozen 0
  have f1 := hblk.frozen 1
  simp at c0 c1 c2
  have hn0 := own_blk_ne hown hblk (by decide)
  have hw0 : Hid (∀ o1 o2, Blk (((w.setCell ⟨sb, 1, none⟩ (.int .i64 m)).alloc o1).alloc o2).drew.drew.drew sb 77 #[.slice ao data.length cap, .int .i64 m, .int .i64 limit]) := fun o1 o2 => by
    have h2 : Blk (w.setCell ⟨sb, 1, none⟩ (.int .i64 m)) sb 77 #[.slice ao data.length cap, .int .i64 m, .int .i64 limit] := by simpa using hblk.set_ 1 (.int .i64 m)
    exact ((h2.alloc o1).alloc o2).drew.drew.drew
  have ho0 : Hid (∀ o1 o2, (((w.setCell ⟨sb, 1, none⟩ (.int .i64 m)).alloc o1).alloc o2).ownsRow B 79 2 (.slice ao data.length cap) data.length (stkCells data)) := fun o1 o2 => ((ownsRow_setCell_other hown hn0 _).alloc _).alloc _
  have hr0 : Hid (∀ o1, Reads (((w.setCell ⟨sb, 1, none⟩ (.int .i64 m)).alloc o1).alloc (.cells #[.iface 3 (.int .i64 x), .int .i64 index] 79)) (w.heap.size + 1 + 1) 2 (some ⟨w.heap.size + 1, 0, none⟩) 1 [.iface 3 (.int .i64 x), .int .i64 index]) := fun o1 => by
    have := reads_new2 ((w.setCell ⟨sb, 1, none⟩ (.int .i64 m)).alloc o1) (.iface 3 (.int .i64 x)) (.int .i64 index) 79
    simpa using this
  have hs0 : Hid (∀ o1 o2, B ≤ (((w.setCell ⟨sb, 1, none⟩ (.int .i64 m)).alloc o1).alloc o2).heap.size) := fun o1 o2 => by simp; omega
  have q1 : Hid (data.length + 1 ≤ maxLen) := by unfold maxLen; show _ ≤ _; omega
  have q2 : Hid ((data.length + 1) * 24 ≤ 140737488355328) := by show _ ≤ _; omega
  have q3 : ∀ u ∈ [Value.iface 3 (.int .i64 x), .int .i64 index], u.oneCell' = true := by simp [Value.oneCell']
  have Q3 := Lib.hid q3
  have k2 : ∀ o1 o2, (((w.setCell ⟨sb, 1, none⟩ (.int .i64 m)).alloc o1).alloc o2).cell? ⟨sb, 0, none⟩ = some (.slice ao data.length cap) := fun o1 o2 => (hw0.out o1 o2).cell 0
  clear q3
  have hdl : decide (m < (data.length : Int)) = false := by simpa using hml
  subst hm
  have HB := Lib.hid hblk
  have HO := Lib.hid hown
  have HN := Lib.hid hn0
  clear hblk hown hn0
  go_enter Try.func26, Try.ntmps26
  go_wp2
  go_region
  go_wp2
  go_region
  go_wp2
  go_region_law (refine step_append_any _ rfl (.tmp 48) (.tmp 50) 75 rfl B 79 i0 _ 2 24 Try.underlying75 hi hz0 hz1 hz2 rfl (Nat.zero_lt_succ _) (.slice ao data.length cap) data.length (stkCells data) rfl (ho0.out _ _) (w.heap.size + 1 + 1) (some ⟨w.heap.size + 1, 0, none⟩) 1 1 [.iface 3 (.int .i64 x), .int .i64 index] rfl (hr0.out _) Q3.out q1.out q2.out (hs0.out _ _) ?_; intro v' w1 hown' hg hno; obtain ⟨ao', cap', rfl⟩ := own_slice hown'; have hb1 := Blk.grown (hw0.out _ _) hg (Ne.symm HN.out); have k0 := hb1.cell 0; have f0' := hb1.frozen 0; simp at k0)
  all_goals
    go_wp2
    go_end0
    exact ⟨rfl, stkPush_end rfl (Int.not_lt.2 hml) HB.out HO.out hb1 hg hno hown'⟩
end Go.Proofs.Ytlemajapimeciaa
