/- What the machine's constructors make: an empty stack of scopes, an empty stack, a machine. -/
import Derived.Test.YtlemajapimeciaaRows
import Derived.Test.YtlemajapimeciaaBase
namespace Go.Proofs.Ytlemajapimeciaa
open Go.RowKit

theorem newScope_any (w : World) : Calls Try.prog 31 #[] w fun e w' => e = .returned (.pointer (some ⟨w.heap.size, 0, none⟩)) ∧ w.alloc (.cells #[.slice none 0 0, .int .i64 (-1), .int .i64 (-1)] 72) = w' := by
  go_enter Try.func31, Try.ntmps31
  go_wp2
  go_ret
  exact ⟨rfl, rfl⟩

theorem newStack_any (w : World) : Calls Try.prog 30 #[] w fun e w' => e = .returned (.pointer (some ⟨w.heap.size, 0, none⟩)) ∧ w.alloc (.cells #[.slice none 0 0, .int .i64 (-1), .int .i64 (-1)] 77) = w' := by
  go_enter Try.func30, Try.ntmps30
  go_wp2
  go_ret
  exact ⟨rfl, rfl⟩

/-- The cells of a machine: its three stacks, its forks. -/
def envCells (s p c : Nat) (fk : Value) : Array Value :=
  #[.int .i64 0, .pointer (some ⟨s, 0, none⟩), .pointer (some ⟨p, 0, none⟩), .pointer (some ⟨c, 0, none⟩), .slice none 0 0, .slice none 0 0, .slice none 0 0, fk, .bool false, .int .i64 0, .int .i64 0, .int .i64 0,
    .nilIface, .nilIface, .nilIface, .nilIface, .nilIface, .nilIface, .nilIface, .nilIface, .nilIface, .nilIface, .nilIface, .nilIface, .nilIface, .nilIface, .nilIface, .nilIface,
    .nilIface, .nilIface, .nilIface, .nilIface, .nilIface, .nilIface, .nilIface, .nilIface, .nilIface, .nilIface, .nilIface, .nilIface, .nilIface, .nilIface, .nilIface, .nilIface]
def freshStack : Array Value := #[.slice none 0 0, .int .i64 (-1), .int .i64 (-1)]
def EnvMade (w w' : World) : Prop :=
  Blk w' w.heap.size 77 freshStack ∧ Blk w' (w.heap.size + 1) 77 freshStack ∧ Blk w' (w.heap.size + 2) 72 freshStack ∧
    Blk w' (w.heap.size + 3) 57 (envCells w.heap.size (w.heap.size + 1) (w.heap.size + 2) (.slice none 0 0)) ∧ Below w.heap.size w w' ∧ w'.heap.size = w.heap.size + 4

theorem blk_new' {w : World} {n : Nat} (t : TypeId) (cs : Array Value) (hn : n = w.heap.size) : Blk (w.alloc (.cells cs t)) n t cs := by subst hn; exact Blk.new w t cs

theorem newEnv_any (w : World) : Calls Try.prog 20 #[] w fun e w' => e = .returned (.pointer (some ⟨w.heap.size + 3, 0, none⟩)) ∧ EnvMade w w' := by
  go_enter Try.func20, Try.ntmps20
  go_wp2_with (first
    | (go_at_call 30; refine (newStack_any _).mono ?_; rintro e w' ⟨rfl, rfl⟩)
    | (go_at_call 31; refine (newScope_any _).mono ?_; rintro e w' ⟨rfl, rfl⟩))
  go_ret
  refine ⟨rfl, ?_, ?_, ?_, ?_, ?_, ?_⟩
  · exact (((Blk.new w 77 freshStack).alloc _).alloc _).alloc _
  · exact ((blk_new' 77 freshStack (by simp)).alloc _).alloc _
  · exact (blk_new' 72 freshStack (by simp)).alloc _
  · exact blk_new' 57 _ (by simp)
  · exact ((((Below.refl _ _).alloc (Nat.le_refl _) _).alloc (by simp) _).alloc (by simp; omega) _).alloc (by simp; omega) _
  · simp

theorem zzNewEnv_any (w : World) : Calls Try.prog 8 #[] w fun e w' => e = .returned (.pointer (some ⟨w.heap.size + 3, 0, none⟩)) ∧ EnvMade w w' := by
  go_enter Try.func8, Try.ntmps8
  go_wp2_with (go_at_call 20; refine (newEnv_any _).mono ?_; rintro e w' ⟨rfl, hm⟩)
  go_ret
  exact ⟨rfl, hm⟩

/-- The cells of the scopes that were pushed, from place k on. -/
def scCells : Nat → List (Int × Int × Int) → List Value
  | _, [] => []
  | k, x :: r => .int .i64 x.1 :: .int .i64 x.2.1 :: .int .i64 0 :: .int .i64 0 :: .int .i64 x.2.2 :: .int .i64 ((k : Int) - 1) :: scCells (k + 1) r

theorem scCells_snoc (x : Int × Int × Int) : ∀ (xs : List (Int × Int × Int)) (k : Nat), scCells k (xs ++ [x]) = scCells k xs ++ [.int .i64 x.1, .int .i64 x.2.1, .int .i64 0, .int .i64 0, .int .i64 x.2.2, .int .i64 (((k + xs.length : Nat) : Int) - 1)]
  | [], k => by simp [scCells]
  | y :: r, k => by
    simp only [List.cons_append, scCells, scCells_snoc x r (k + 1), List.length_cons]
    rw [show k + 1 + r.length = k + (r.length + 1) by omega]

def ScopeSt (w : World) (B sb : Nat) (xs : List (Int × Int × Int)) : Prop :=
  ∃ v, Blk w sb 72 #[v, .int .i64 ((xs.length : Int) - 1), .int .i64 (-1)] ∧ w.ownsRow B 74 6 v xs.length (scCells 0 xs)

def Keeps (t1 t2 : TypeId) (w w' : World) : Prop := ∀ g t cs, t ≠ t1 → t ≠ t2 → Blk w g t cs → Blk w' g t cs

theorem Try.info74 : (Try.prog.info? 74).map (fun i => (i.zero, i.size, i.bytes)) = some (some (.agg #[.int .i64 0, .int .i64 0, .int .i64 0, .int .i64 0, .int .i64 0, .int .i64 0]), 6, 48) := by kernel_rfl

theorem own_slice {w : World} {B : Nat} {e : TypeId} {size n : Nat} {v : Value} {xs : List Value} (h : w.ownsRow B e size v n xs) : ∃ ao cap, v = .slice ao n cap := by
  rcases h.2 with ⟨rfl, rfl⟩ | ⟨g, cap, _, rfl, _⟩
  · exact ⟨_, _, rfl⟩
  · exact ⟨_, _, rfl⟩

theorem reads_new6 (w : World) (a b c d e f : Value) (t : TypeId) : Reads (w.alloc (.cells #[a, b, c, d, e, f] t)) (w.heap.size + 1) 6 (some ⟨w.heap.size, 0, none⟩) 1 [a, b, c, d, e, f] := by
  refine ⟨rfl, fun _ => ⟨_, rfl, by simp, fun j u hu => ?_⟩⟩
  have hb := Blk.new w t #[a, b, c, d, e, f]
  have : (⟨w.heap.size, 0, none⟩ : Addr).add j = ⟨w.heap.size, j, none⟩ := by unfold Addr.add; split <;> simp_all
  rw [this, hb.cell, ← hu]; simp

theorem scPush_end {w w1 : World} {B sb cap cap' : Nat} {ao ao' : Option Addr} {xs : List (Int × Int × Int)} {id off outer : Int} {o1 o2 o3 : Obj}
    (hblk : Blk w sb 72 #[.slice ao xs.length cap, .int .i64 ((xs.length : Int) - 1), .int .i64 (-1)]) (hown : w.ownsRow B 74 6 (.slice ao xs.length cap) xs.length (scCells 0 xs)) (hB : B ≤ w.heap.size) (hsB : B ≤ sb)
    (hb1 : Blk w1 sb 72 #[.slice ao xs.length cap, .int .i64 xs.length, .int .i64 (-1)])
    (hg : ((((w.setCell ⟨sb, 1, none⟩ (.int .i64 xs.length)).alloc o1).alloc o2).alloc o3).drew.drew.drew.drew.grownBy w1 (Value.slice ao xs.length cap).ownBlock)
    (hown' : w1.ownsRow B 74 6 (.slice ao' (xs.length + 1) cap') (xs.length + 1) (scCells 0 xs ++ [.int .i64 id, .int .i64 off, .int .i64 0, .int .i64 0, .int .i64 outer, .int .i64 ((xs.length : Int) - 1)])) :
    ScopeSt (w1.setCell ⟨sb, 0, none⟩ (.slice ao' (xs.length + 1) cap')) B sb (xs ++ [(id, off, outer)]) ∧ Below B w (w1.setCell ⟨sb, 0, none⟩ (.slice ao' (xs.length + 1) cap')) ∧
      Keeps 72 74 w (w1.setCell ⟨sb, 0, none⟩ (.slice ao' (xs.length + 1) cap')) := by
  refine ⟨⟨.slice ao' (xs.length + 1) cap', ?_, ?_⟩, ?_, ?_⟩
  · have h := hb1.set_ 0 (.slice ao' (xs.length + 1) cap')
    have e : ((xs ++ [(id, off, outer)]).length : Int) - 1 = (xs.length : Int) := by simp
    rw [e]
    simpa using h
  · rw [scCells_snoc, List.length_append]
    have h := ownsRow_setCell_other hown' (a := ⟨sb, 0, none⟩) (own_blk_ne hown' hb1 (by decide)) (.slice ao' (xs.length + 1) cap')
    simpa using h
  · have h0 : Below B w ((((w.setCell ⟨sb, 1, none⟩ (.int .i64 xs.length)).alloc o1).alloc o2).alloc o3).drew.drew.drew.drew :=
      ((((Below.refl B w).setCell (p := ⟨sb, 1, none⟩) hsB _).alloc (by simp; omega) _).alloc (by simp; omega) _).alloc (by simp; omega) _ |>.drew.drew.drew.drew
    exact (h0.grown hg (by simp; omega) (fun k hk => (hown.lt k hk).1)).setCell (p := ⟨sb, 0, none⟩) hsB _
  · intro g t cs h72 h74 hb
    have hne : g ≠ sb := hb.ne_ hblk h72
    have h1 : Blk ((((w.setCell ⟨sb, 1, none⟩ (.int .i64 xs.length)).alloc o1).alloc o2).alloc o3).drew.drew.drew.drew g t cs := (((hb.far hne _).alloc _).alloc _).alloc _
    exact (h1.grown hg (Ne.symm (own_blk_ne hown hb (Ne.symm h74)))).far hne _

set_option maxHeartbeats 1000000 in
theorem scPush_any (w : World) (B sb : Nat) (xs : List (Int × Int × Int)) (id off outer : Int) (h : ScopeSt w B sb xs) (hB : B ≤ w.heap.size) (hsB : B ≤ sb) (hlen : xs.length ≤ 100) :
    Calls Try.prog 21 #[.pointer (some ⟨sb, 0, none⟩), .agg #[.int .i64 id, .int .i64 off, .int .i64 0, .int .i64 0, .int .i64 outer]] w fun e w' =>
      e = .returned (.tuple #[]) ∧ ScopeSt w' B sb (xs ++ [(id, off, outer)]) ∧ Below B w w' ∧ Keeps 72 74 w w' := by
  obtain ⟨i0, hi0, hz0, hz1, hz2⟩ := info_parts Try.info74
  obtain ⟨v, hblk, hown⟩ := h
  obtain ⟨ao, cap, rfl⟩ := own_slice hown
  have hlt := hblk.lt
  have c0 := hblk.cell 0
  have c1 := hblk.cell 1
  have c2 := hblk.cell 2
  have f1 := hblk.frozen 1
  have f0 := hblk.frozen 0
  simp at c0 c1 c2
  go_enter Try.func21, Try.ntmps21
  go_wp2
  go_region
  go_wp2
  go_region
  go_wp2
  go_region
  go_wp2
  have hw0 : Hid (∀ o1 o2 o3, Blk ((((w.setCell ⟨sb, 1, none⟩ (.int .i64 xs.length)).alloc o1).alloc o2).alloc o3).drew.drew.drew.drew sb 72 #[.slice ao xs.length cap, .int .i64 xs.length, .int .i64 (-1)]) := fun o1 o2 o3 => (((hblk.set_ 1 _).alloc _).alloc _).alloc _
  have ho0 : Hid (∀ o1 o2 o3, ((((w.setCell ⟨sb, 1, none⟩ (.int .i64 xs.length)).alloc o1).alloc o2).alloc o3).ownsRow B 74 6 (.slice ao xs.length cap) xs.length (scCells 0 xs)) := fun o1 o2 o3 => (((ownsRow_setCell_other hown (own_blk_ne hown hblk (by decide)) _).alloc _).alloc _).alloc _
  have hr0 : Hid (∀ o1 o2, Reads ((((w.setCell ⟨sb, 1, none⟩ (.int .i64 xs.length)).alloc o1).alloc o2).alloc (.cells #[.int .i64 id, .int .i64 off, .int .i64 0, .int .i64 0, .int .i64 outer, .int .i64 ((xs.length : Int) - 1)] 74)) (w.heap.size + 1 + 1 + 1) 6 (some ⟨w.heap.size + 1 + 1, 0, none⟩) 1 [.int .i64 id, .int .i64 off, .int .i64 0, .int .i64 0, .int .i64 outer, .int .i64 ((xs.length : Int) - 1)]) := fun o1 o2 => by
    have := reads_new6 (((w.setCell ⟨sb, 1, none⟩ (.int .i64 xs.length)).alloc o1).alloc o2) (.int .i64 id) (.int .i64 off) (.int .i64 0) (.int .i64 0) (.int .i64 outer) (.int .i64 ((xs.length : Int) - 1)) 74
    simpa using this
  have hs0 : Hid (∀ o1 o2 o3, B ≤ ((((w.setCell ⟨sb, 1, none⟩ (.int .i64 xs.length)).alloc o1).alloc o2).alloc o3).heap.size) := fun o1 o2 o3 => by simp; omega
  have q1 : Hid (xs.length + 1 ≤ maxLen) := by unfold maxLen; show _ ≤ _; omega
  have q2 : Hid ((xs.length + 1) * 48 ≤ 140737488355328) := by show _ ≤ _; omega
  have q3 : ∀ u ∈ [Value.int .i64 id, .int .i64 off, .int .i64 0, .int .i64 0, .int .i64 outer, .int .i64 ((xs.length : Int) - 1)], u.oneCell' = true := by simp [Value.oneCell']
  have Q3 := Lib.hid q3
  clear q3
  have hn0 : (Value.slice ao xs.length cap).ownBlock ≠ some sb := own_blk_ne hown hblk (by decide)
  have k3 : ∀ o1 o2 o3, ((((w.setCell ⟨sb, 1, none⟩ (.int .i64 xs.length)).alloc o1).alloc o2).alloc o3).cell? ⟨sb, 0, none⟩ = some (.slice ao xs.length cap) := fun o1 o2 o3 => (hw0.out o1 o2 o3).cell 0
  go_region_law (refine step_append_any _ rfl (.tmp 48) (.tmp 50) 70 rfl B 74 i0 _ 6 48 Try.underlying70 hi0 hz0 hz1 hz2 rfl (Nat.zero_lt_succ _) (.slice ao xs.length cap) xs.length (scCells 0 xs) rfl (ho0.out _ _ _) (w.heap.size + 1 + 1 + 1) (some ⟨w.heap.size + 1 + 1, 0, none⟩) 1 1 [.int .i64 id, .int .i64 off, .int .i64 0, .int .i64 0, .int .i64 outer, .int .i64 ((xs.length : Int) - 1)] rfl (hr0.out _ _) Q3.out q1.out q2.out (hs0.out _ _ _) ?_; intro v' w1 hown' hg _; obtain ⟨ao', cap', rfl⟩ := own_slice hown'; have hb1 := Blk.grown (hw0.out _ _ _) hg (Ne.symm hn0); have k0 := hb1.cell 0; have f0' := hb1.frozen 0; simp at k0)
  all_goals
    go_wp2
    go_end0
    exact ⟨rfl, scPush_end hblk hown hB hsB hb1 hg hown'⟩
end Go.Proofs.Ytlemajapimeciaa
