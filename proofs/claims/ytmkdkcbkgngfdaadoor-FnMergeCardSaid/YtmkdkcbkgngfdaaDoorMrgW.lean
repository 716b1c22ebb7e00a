/- The reference's With: the region of its two appends and its store, by an invariant (printed by mkmrgw.py). -/
import Derived.Test.YtmkdkcbkgngfdaaDoorMapR
namespace Go.Proofs.YtmkdkcbkgngfdaaDoor
open Go.RowKit Go.Maps Go.Sort
set_option linter.unusedVariables false

structure RegK (V : World) (g off : Nat) (e : TypeId) (sz i : Nat) (xs ns : List Value) (p2 a3 a5 a7 : Value) (listed : Array Bool) (w : World) (s0 s1 s2 s3 s4 s5 s6 s7 s8 s9 s10 : Value) : Prop where
  size : listed.size = 12
  low : ¬ Up listed 11 → Below V.heap.size V w
  a : Up listed 6 → ¬ Up listed 9 → w.ownsRow V.heap.size e sz s6 i xs
  b : Up listed 8 → ¬ Up listed 9 → ∃ b, s8 = .slice (some ⟨b, 0, none⟩) 1 1 ∧ V.heap.size ≤ b ∧ Blk w b e ns.toArray ∧ (Up listed 6 → s6.ownBlock ≠ some b)
  c : Up listed 9 → ¬ Up listed 11 → w.ownsRow V.heap.size e sz s9 (i + 1) (xs ++ ns)
  d : Up listed 11 → ∃ Y, Below V.heap.size V Y ∧ Y.ownsRow V.heap.size e sz s9 (i + 1) (xs ++ ns) ∧ w = Y.setCell ⟨g, off, none⟩ s9
  o9 : Up listed 9 → Up listed 6 ∧ Up listed 8
  o11 : Up listed 11 → Up listed 9 ∧ Up listed 1 ∧ Up listed 3 ∧ Up listed 7
  f0 : Up listed 0 → s0 = .pointer (some ⟨g, off, none⟩)
  f1 : Up listed 1 → s1 = .slice none 0 0
  f2 : Up listed 2 → s2 = p2
  f3 : Up listed 3 → s3 = a3
  f4 : Up listed 4 → s4 = .int .i64 i
  f5 : Up listed 5 → s5 = a5
  f7 : Up listed 7 → s7 = a7
  f10 : Up listed 10 → s10 = .pointer (some ⟨g, off, none⟩)

theorem RegK.start (V : World) (g off : Nat) (e : TypeId) (sz i : Nat) (xs ns : List Value) (p2 a3 a5 a7 : Value) (s0 s1 s2 s3 s4 s5 s6 s7 s8 s9 s10 : Value) : RegK V g off e sz i xs ns p2 a3 a5 a7 (Array.replicate 12 false) V.drew s0 s1 s2 s3 s4 s5 s6 s7 s8 s9 s10 :=
  { size := by simp
    low := fun _ => ⟨rfl, rfl, rfl, Nat.le_refl _, fun _ _ => rfl⟩
    a := fun h => h.start.elim
    b := fun h => h.start.elim
    c := fun h => h.start.elim
    d := fun h => h.start.elim
    o9 := fun h => h.start.elim
    o11 := fun h => h.start.elim
    f0 := fun h => h.start.elim
    f1 := fun h => h.start.elim
    f2 := fun h => h.start.elim
    f3 := fun h => h.start.elim
    f4 := fun h => h.start.elim
    f5 := fun h => h.start.elim
    f7 := fun h => h.start.elim
    f10 := fun h => h.start.elim }

theorem RegK.s0 {V : World} {g off : Nat} {e : TypeId} {sz i : Nat} {xs ns : List Value} {p2 a3 a5 a7 : Value} {listed : Array Bool} {w : World} {s0 s1 s2 s3 s4 s5 s6 s7 s8 s9 s10 : Value} (H : RegK V g off e sz i xs ns p2 a3 a5 a7 listed w s0 s1 s2 s3 s4 s5 s6 s7 s8 s9 s10) : RegK V g off e sz i xs ns p2 a3 a5 a7 (listed.setIfInBounds 0 true) w (.pointer (some ⟨g, off, none⟩)) s1 s2 s3 s4 s5 s6 s7 s8 s9 s10 :=
  { size := by rw [Array.size_setIfInBounds]; exact H.size
    low := fun h => H.low (fun u => h u.more)
    a := fun h h2 => H.a (h.set_ne (by decide)) (fun u => h2 u.more)
    b := fun h h2 => let ⟨b, h3, h4, h5, h6⟩ := H.b (h.set_ne (by decide)) (fun u => h2 u.more); ⟨b, h3, h4, h5, fun h => h6 (h.set_ne (by decide))⟩
    c := fun h h2 => H.c (h.set_ne (by decide)) (fun u => h2 u.more)
    d := fun h => H.d (h.set_ne (by decide))
    o9 := fun h => let ⟨h1, h2⟩ := H.o9 (h.set_ne (by decide)); ⟨h1.more, h2.more⟩
    o11 := fun h => let ⟨h1, h2, h3, h4⟩ := H.o11 (h.set_ne (by decide)); ⟨h1.more, h2.more, h3.more, h4.more⟩
    f0 := fun _ => rfl
    f1 := fun h => H.f1 (h.set_ne (by decide))
    f2 := fun h => H.f2 (h.set_ne (by decide))
    f3 := fun h => H.f3 (h.set_ne (by decide))
    f4 := fun h => H.f4 (h.set_ne (by decide))
    f5 := fun h => H.f5 (h.set_ne (by decide))
    f7 := fun h => H.f7 (h.set_ne (by decide))
    f10 := fun h => H.f10 (h.set_ne (by decide)) }

theorem RegK.s1 {V : World} {g off : Nat} {e : TypeId} {sz i : Nat} {xs ns : List Value} {p2 a3 a5 a7 : Value} {listed : Array Bool} {w : World} {s0 s1 s2 s3 s4 s5 s6 s7 s8 s9 s10 : Value} (H : RegK V g off e sz i xs ns p2 a3 a5 a7 listed w s0 s1 s2 s3 s4 s5 s6 s7 s8 s9 s10) : RegK V g off e sz i xs ns p2 a3 a5 a7 (listed.setIfInBounds 1 true) w s0 (.slice none 0 0) s2 s3 s4 s5 s6 s7 s8 s9 s10 :=
  { size := by rw [Array.size_setIfInBounds]; exact H.size
    low := fun h => H.low (fun u => h u.more)
    a := fun h h2 => H.a (h.set_ne (by decide)) (fun u => h2 u.more)
    b := fun h h2 => let ⟨b, h3, h4, h5, h6⟩ := H.b (h.set_ne (by decide)) (fun u => h2 u.more); ⟨b, h3, h4, h5, fun h => h6 (h.set_ne (by decide))⟩
    c := fun h h2 => H.c (h.set_ne (by decide)) (fun u => h2 u.more)
    d := fun h => H.d (h.set_ne (by decide))
    o9 := fun h => let ⟨h1, h2⟩ := H.o9 (h.set_ne (by decide)); ⟨h1.more, h2.more⟩
    o11 := fun h => let ⟨h1, h2, h3, h4⟩ := H.o11 (h.set_ne (by decide)); ⟨h1.more, h2.more, h3.more, h4.more⟩
    f0 := fun h => H.f0 (h.set_ne (by decide))
    f1 := fun _ => rfl
    f2 := fun h => H.f2 (h.set_ne (by decide))
    f3 := fun h => H.f3 (h.set_ne (by decide))
    f4 := fun h => H.f4 (h.set_ne (by decide))
    f5 := fun h => H.f5 (h.set_ne (by decide))
    f7 := fun h => H.f7 (h.set_ne (by decide))
    f10 := fun h => H.f10 (h.set_ne (by decide)) }

theorem RegK.s2 {V : World} {g off : Nat} {e : TypeId} {sz i : Nat} {xs ns : List Value} {p2 a3 a5 a7 : Value} {listed : Array Bool} {w : World} {s0 s1 s2 s3 s4 s5 s6 s7 s8 s9 s10 : Value} (H : RegK V g off e sz i xs ns p2 a3 a5 a7 listed w s0 s1 s2 s3 s4 s5 s6 s7 s8 s9 s10) : RegK V g off e sz i xs ns p2 a3 a5 a7 (listed.setIfInBounds 2 true) w s0 s1 (p2) s3 s4 s5 s6 s7 s8 s9 s10 :=
  { size := by rw [Array.size_setIfInBounds]; exact H.size
    low := fun h => H.low (fun u => h u.more)
    a := fun h h2 => H.a (h.set_ne (by decide)) (fun u => h2 u.more)
    b := fun h h2 => let ⟨b, h3, h4, h5, h6⟩ := H.b (h.set_ne (by decide)) (fun u => h2 u.more); ⟨b, h3, h4, h5, fun h => h6 (h.set_ne (by decide))⟩
    c := fun h h2 => H.c (h.set_ne (by decide)) (fun u => h2 u.more)
    d := fun h => H.d (h.set_ne (by decide))
    o9 := fun h => let ⟨h1, h2⟩ := H.o9 (h.set_ne (by decide)); ⟨h1.more, h2.more⟩
    o11 := fun h => let ⟨h1, h2, h3, h4⟩ := H.o11 (h.set_ne (by decide)); ⟨h1.more, h2.more, h3.more, h4.more⟩
    f0 := fun h => H.f0 (h.set_ne (by decide))
    f1 := fun h => H.f1 (h.set_ne (by decide))
    f2 := fun _ => rfl
    f3 := fun h => H.f3 (h.set_ne (by decide))
    f4 := fun h => H.f4 (h.set_ne (by decide))
    f5 := fun h => H.f5 (h.set_ne (by decide))
    f7 := fun h => H.f7 (h.set_ne (by decide))
    f10 := fun h => H.f10 (h.set_ne (by decide)) }

theorem RegK.s3 {V : World} {g off : Nat} {e : TypeId} {sz i : Nat} {xs ns : List Value} {p2 a3 a5 a7 : Value} {listed : Array Bool} {w : World} {s0 s1 s2 s3 s4 s5 s6 s7 s8 s9 s10 : Value} (H : RegK V g off e sz i xs ns p2 a3 a5 a7 listed w s0 s1 s2 s3 s4 s5 s6 s7 s8 s9 s10) : RegK V g off e sz i xs ns p2 a3 a5 a7 (listed.setIfInBounds 3 true) w s0 s1 s2 (a3) s4 s5 s6 s7 s8 s9 s10 :=
  { size := by rw [Array.size_setIfInBounds]; exact H.size
    low := fun h => H.low (fun u => h u.more)
    a := fun h h2 => H.a (h.set_ne (by decide)) (fun u => h2 u.more)
    b := fun h h2 => let ⟨b, h3, h4, h5, h6⟩ := H.b (h.set_ne (by decide)) (fun u => h2 u.more); ⟨b, h3, h4, h5, fun h => h6 (h.set_ne (by decide))⟩
    c := fun h h2 => H.c (h.set_ne (by decide)) (fun u => h2 u.more)
    d := fun h => H.d (h.set_ne (by decide))
    o9 := fun h => let ⟨h1, h2⟩ := H.o9 (h.set_ne (by decide)); ⟨h1.more, h2.more⟩
    o11 := fun h => let ⟨h1, h2, h3, h4⟩ := H.o11 (h.set_ne (by decide)); ⟨h1.more, h2.more, h3.more, h4.more⟩
    f0 := fun h => H.f0 (h.set_ne (by decide))
    f1 := fun h => H.f1 (h.set_ne (by decide))
    f2 := fun h => H.f2 (h.set_ne (by decide))
    f3 := fun _ => rfl
    f4 := fun h => H.f4 (h.set_ne (by decide))
    f5 := fun h => H.f5 (h.set_ne (by decide))
    f7 := fun h => H.f7 (h.set_ne (by decide))
    f10 := fun h => H.f10 (h.set_ne (by decide)) }

theorem RegK.s4 {V : World} {g off : Nat} {e : TypeId} {sz i : Nat} {xs ns : List Value} {p2 a3 a5 a7 : Value} {listed : Array Bool} {w : World} {s0 s1 s2 s3 s4 s5 s6 s7 s8 s9 s10 : Value} (H : RegK V g off e sz i xs ns p2 a3 a5 a7 listed w s0 s1 s2 s3 s4 s5 s6 s7 s8 s9 s10) : RegK V g off e sz i xs ns p2 a3 a5 a7 (listed.setIfInBounds 4 true) w s0 s1 s2 s3 (.int .i64 i) s5 s6 s7 s8 s9 s10 :=
  { size := by rw [Array.size_setIfInBounds]; exact H.size
    low := fun h => H.low (fun u => h u.more)
    a := fun h h2 => H.a (h.set_ne (by decide)) (fun u => h2 u.more)
    b := fun h h2 => let ⟨b, h3, h4, h5, h6⟩ := H.b (h.set_ne (by decide)) (fun u => h2 u.more); ⟨b, h3, h4, h5, fun h => h6 (h.set_ne (by decide))⟩
    c := fun h h2 => H.c (h.set_ne (by decide)) (fun u => h2 u.more)
    d := fun h => H.d (h.set_ne (by decide))
    o9 := fun h => let ⟨h1, h2⟩ := H.o9 (h.set_ne (by decide)); ⟨h1.more, h2.more⟩
    o11 := fun h => let ⟨h1, h2, h3, h4⟩ := H.o11 (h.set_ne (by decide)); ⟨h1.more, h2.more, h3.more, h4.more⟩
    f0 := fun h => H.f0 (h.set_ne (by decide))
    f1 := fun h => H.f1 (h.set_ne (by decide))
    f2 := fun h => H.f2 (h.set_ne (by decide))
    f3 := fun h => H.f3 (h.set_ne (by decide))
    f4 := fun _ => rfl
    f5 := fun h => H.f5 (h.set_ne (by decide))
    f7 := fun h => H.f7 (h.set_ne (by decide))
    f10 := fun h => H.f10 (h.set_ne (by decide)) }

theorem RegK.s5 {V : World} {g off : Nat} {e : TypeId} {sz i : Nat} {xs ns : List Value} {p2 a3 a5 a7 : Value} {listed : Array Bool} {w : World} {s0 s1 s2 s3 s4 s5 s6 s7 s8 s9 s10 : Value} (H : RegK V g off e sz i xs ns p2 a3 a5 a7 listed w s0 s1 s2 s3 s4 s5 s6 s7 s8 s9 s10) : RegK V g off e sz i xs ns p2 a3 a5 a7 (listed.setIfInBounds 5 true) w s0 s1 s2 s3 s4 (a5) s6 s7 s8 s9 s10 :=
  { size := by rw [Array.size_setIfInBounds]; exact H.size
    low := fun h => H.low (fun u => h u.more)
    a := fun h h2 => H.a (h.set_ne (by decide)) (fun u => h2 u.more)
    b := fun h h2 => let ⟨b, h3, h4, h5, h6⟩ := H.b (h.set_ne (by decide)) (fun u => h2 u.more); ⟨b, h3, h4, h5, fun h => h6 (h.set_ne (by decide))⟩
    c := fun h h2 => H.c (h.set_ne (by decide)) (fun u => h2 u.more)
    d := fun h => H.d (h.set_ne (by decide))
    o9 := fun h => let ⟨h1, h2⟩ := H.o9 (h.set_ne (by decide)); ⟨h1.more, h2.more⟩
    o11 := fun h => let ⟨h1, h2, h3, h4⟩ := H.o11 (h.set_ne (by decide)); ⟨h1.more, h2.more, h3.more, h4.more⟩
    f0 := fun h => H.f0 (h.set_ne (by decide))
    f1 := fun h => H.f1 (h.set_ne (by decide))
    f2 := fun h => H.f2 (h.set_ne (by decide))
    f3 := fun h => H.f3 (h.set_ne (by decide))
    f4 := fun h => H.f4 (h.set_ne (by decide))
    f5 := fun _ => rfl
    f7 := fun h => H.f7 (h.set_ne (by decide))
    f10 := fun h => H.f10 (h.set_ne (by decide)) }

theorem RegK.s7 {V : World} {g off : Nat} {e : TypeId} {sz i : Nat} {xs ns : List Value} {p2 a3 a5 a7 : Value} {listed : Array Bool} {w : World} {s0 s1 s2 s3 s4 s5 s6 s7 s8 s9 s10 : Value} (H : RegK V g off e sz i xs ns p2 a3 a5 a7 listed w s0 s1 s2 s3 s4 s5 s6 s7 s8 s9 s10) : RegK V g off e sz i xs ns p2 a3 a5 a7 (listed.setIfInBounds 7 true) w s0 s1 s2 s3 s4 s5 s6 (a7) s8 s9 s10 :=
  { size := by rw [Array.size_setIfInBounds]; exact H.size
    low := fun h => H.low (fun u => h u.more)
    a := fun h h2 => H.a (h.set_ne (by decide)) (fun u => h2 u.more)
    b := fun h h2 => let ⟨b, h3, h4, h5, h6⟩ := H.b (h.set_ne (by decide)) (fun u => h2 u.more); ⟨b, h3, h4, h5, fun h => h6 (h.set_ne (by decide))⟩
    c := fun h h2 => H.c (h.set_ne (by decide)) (fun u => h2 u.more)
    d := fun h => H.d (h.set_ne (by decide))
    o9 := fun h => let ⟨h1, h2⟩ := H.o9 (h.set_ne (by decide)); ⟨h1.more, h2.more⟩
    o11 := fun h => let ⟨h1, h2, h3, h4⟩ := H.o11 (h.set_ne (by decide)); ⟨h1.more, h2.more, h3.more, h4.more⟩
    f0 := fun h => H.f0 (h.set_ne (by decide))
    f1 := fun h => H.f1 (h.set_ne (by decide))
    f2 := fun h => H.f2 (h.set_ne (by decide))
    f3 := fun h => H.f3 (h.set_ne (by decide))
    f4 := fun h => H.f4 (h.set_ne (by decide))
    f5 := fun h => H.f5 (h.set_ne (by decide))
    f7 := fun _ => rfl
    f10 := fun h => H.f10 (h.set_ne (by decide)) }

theorem RegK.s10 {V : World} {g off : Nat} {e : TypeId} {sz i : Nat} {xs ns : List Value} {p2 a3 a5 a7 : Value} {listed : Array Bool} {w : World} {s0 s1 s2 s3 s4 s5 s6 s7 s8 s9 s10 : Value} (H : RegK V g off e sz i xs ns p2 a3 a5 a7 listed w s0 s1 s2 s3 s4 s5 s6 s7 s8 s9 s10) : RegK V g off e sz i xs ns p2 a3 a5 a7 (listed.setIfInBounds 10 true) w s0 s1 s2 s3 s4 s5 s6 s7 s8 s9 (.pointer (some ⟨g, off, none⟩)) :=
  { size := by rw [Array.size_setIfInBounds]; exact H.size
    low := fun h => H.low (fun u => h u.more)
    a := fun h h2 => H.a (h.set_ne (by decide)) (fun u => h2 u.more)
    b := fun h h2 => let ⟨b, h3, h4, h5, h6⟩ := H.b (h.set_ne (by decide)) (fun u => h2 u.more); ⟨b, h3, h4, h5, fun h => h6 (h.set_ne (by decide))⟩
    c := fun h h2 => H.c (h.set_ne (by decide)) (fun u => h2 u.more)
    d := fun h => H.d (h.set_ne (by decide))
    o9 := fun h => let ⟨h1, h2⟩ := H.o9 (h.set_ne (by decide)); ⟨h1.more, h2.more⟩
    o11 := fun h => let ⟨h1, h2, h3, h4⟩ := H.o11 (h.set_ne (by decide)); ⟨h1.more, h2.more, h3.more, h4.more⟩
    f0 := fun h => H.f0 (h.set_ne (by decide))
    f1 := fun h => H.f1 (h.set_ne (by decide))
    f2 := fun h => H.f2 (h.set_ne (by decide))
    f3 := fun h => H.f3 (h.set_ne (by decide))
    f4 := fun h => H.f4 (h.set_ne (by decide))
    f5 := fun h => H.f5 (h.set_ne (by decide))
    f7 := fun h => H.f7 (h.set_ne (by decide))
    f10 := fun _ => rfl }

theorem RegK.s6 {V : World} {g off : Nat} {e : TypeId} {sz i : Nat} {xs ns : List Value} {p2 a3 a5 a7 : Value} {listed : Array Bool} {w : World} {s0 s1 s2 s3 s4 s5 s6 s7 s8 s9 s10 : Value} {w2 : World} {v2 : Value} (H : RegK V g off e sz i xs ns p2 a3 a5 a7 listed w s0 s1 s2 s3 s4 s5 s6 s7 s8 s9 s10) (hno : ¬ Up listed 6) (hg : w.grownBy w2 none) (hl : v2.ownBlock = none ∨ v2.ownBlock = some w.heap.size) (ho : w2.ownsRow V.heap.size e sz v2 i xs) : RegK V g off e sz i xs ns p2 a3 a5 a7 (listed.setIfInBounds 6 true) w2 s0 s1 s2 s3 s4 s5 v2 s7 s8 s9 s10 :=
  { size := by rw [Array.size_setIfInBounds]; exact H.size
    low := fun h => (H.low (fun u => h u.more)).trans ⟨hg.os, hg.tape, hg.output, hg.size, fun k hk => hg.block k (by have := (H.low (fun u => h u.more)).size; omega) (by simp)⟩
    a := fun _ _ => ho
    b := fun h h2 => let ⟨b, h3, h4, h5, h6⟩ := H.b (h.set_ne (by decide)) (fun u => h2 u.more); ⟨b, h3, h4, h5.grown hg (by simp), fun _ => by have := h5.lt; rcases hl with e | e <;> rw [e] <;> simp; omega⟩
    c := fun h => absurd (H.o9 (h.set_ne (by decide))).1 hno
    d := fun h => absurd (H.o9 (H.o11 (h.set_ne (by decide))).1).1 hno
    o9 := fun h => let ⟨h1, h2⟩ := H.o9 (h.set_ne (by decide)); ⟨h1.more, h2.more⟩
    o11 := fun h => let ⟨h1, h2, h3, h4⟩ := H.o11 (h.set_ne (by decide)); ⟨h1.more, h2.more, h3.more, h4.more⟩
    f0 := fun h => H.f0 (h.set_ne (by decide))
    f1 := fun h => H.f1 (h.set_ne (by decide))
    f2 := fun h => H.f2 (h.set_ne (by decide))
    f3 := fun h => H.f3 (h.set_ne (by decide))
    f4 := fun h => H.f4 (h.set_ne (by decide))
    f5 := fun h => H.f5 (h.set_ne (by decide))
    f7 := fun h => H.f7 (h.set_ne (by decide))
    f10 := fun h => H.f10 (h.set_ne (by decide)) }

theorem RegK.s8 {V : World} {g off : Nat} {e : TypeId} {sz i : Nat} {xs ns : List Value} {p2 a3 a5 a7 : Value} {listed : Array Bool} {w : World} {s0 s1 s2 s3 s4 s5 s6 s7 s8 s9 s10 : Value} (H : RegK V g off e sz i xs ns p2 a3 a5 a7 listed w s0 s1 s2 s3 s4 s5 s6 s7 s8 s9 s10) (hno : ¬ Up listed 8) : RegK V g off e sz i xs ns p2 a3 a5 a7 (listed.setIfInBounds 8 true) (w.alloc (.cells ns.toArray e)) s0 s1 s2 s3 s4 s5 s6 s7 (.slice (some ⟨w.heap.size, 0, none⟩) 1 1) s9 s10 :=
  { size := by rw [Array.size_setIfInBounds]; exact H.size
    low := fun h => (H.low (fun u => h u.more)).alloc (H.low (fun u => h u.more)).size _
    a := fun h h2 => (H.a (h.set_ne (by decide)) (fun u => h2 u.more)).alloc _
    b := fun _ h2 => ⟨w.heap.size, rfl, (H.low (fun u => h2 ((H.o11 u).1.more))).size, Blk.new w _ _, fun h => by have ho := H.a (h.set_ne (by decide)) (fun u => h2 u.more); intro e; have := ho.lt _ e; omega⟩
    c := fun h => absurd (H.o9 (h.set_ne (by decide))).2 hno
    d := fun h => absurd (H.o9 (H.o11 (h.set_ne (by decide))).1).2 hno
    o9 := fun h => let ⟨h1, h2⟩ := H.o9 (h.set_ne (by decide)); ⟨h1.more, h2.more⟩
    o11 := fun h => let ⟨h1, h2, h3, h4⟩ := H.o11 (h.set_ne (by decide)); ⟨h1.more, h2.more, h3.more, h4.more⟩
    f0 := fun h => H.f0 (h.set_ne (by decide))
    f1 := fun h => H.f1 (h.set_ne (by decide))
    f2 := fun h => H.f2 (h.set_ne (by decide))
    f3 := fun h => H.f3 (h.set_ne (by decide))
    f4 := fun h => H.f4 (h.set_ne (by decide))
    f5 := fun h => H.f5 (h.set_ne (by decide))
    f7 := fun h => H.f7 (h.set_ne (by decide))
    f10 := fun h => H.f10 (h.set_ne (by decide)) }

theorem RegK.s9 {V : World} {g off : Nat} {e : TypeId} {sz i : Nat} {xs ns : List Value} {p2 a3 a5 a7 : Value} {listed : Array Bool} {w : World} {s0 s1 s2 s3 s4 s5 s6 s7 s8 s9 s10 : Value} {w2 : World} {v2 : Value} (H : RegK V g off e sz i xs ns p2 a3 a5 a7 listed w s0 s1 s2 s3 s4 s5 s6 s7 s8 s9 s10) (hno : ¬ Up listed 9) (hw6 : Up listed 6) (hw8 : Up listed 8) (hg : w.grownBy w2 s6.ownBlock) (ho : w2.ownsRow V.heap.size e sz v2 (i + 1) (xs ++ ns)) : RegK V g off e sz i xs ns p2 a3 a5 a7 (listed.setIfInBounds 9 true) w2 s0 s1 s2 s3 s4 s5 s6 s7 s8 v2 s10 :=
  { size := by rw [Array.size_setIfInBounds]; exact H.size
    low := fun h => (H.low (fun u => h u.more)).trans ⟨hg.os, hg.tape, hg.output, hg.size, fun k hk => hg.block k (by have := (H.low (fun u => h u.more)).size; omega) (fun e => by have := (H.a hw6 hno).lt _ e.symm; omega)⟩
    a := fun _ h => absurd (Up.self (by rw [H.size]; decide)) h
    b := fun _ h => absurd (Up.self (by rw [H.size]; decide)) h
    c := fun _ _ => ho
    d := fun h => absurd (H.o11 (h.set_ne (by decide))).1 hno
    o9 := fun _ => ⟨hw6.more, hw8.more⟩
    o11 := fun h => let ⟨h1, h2, h3, h4⟩ := H.o11 (h.set_ne (by decide)); ⟨h1.more, h2.more, h3.more, h4.more⟩
    f0 := fun h => H.f0 (h.set_ne (by decide))
    f1 := fun h => H.f1 (h.set_ne (by decide))
    f2 := fun h => H.f2 (h.set_ne (by decide))
    f3 := fun h => H.f3 (h.set_ne (by decide))
    f4 := fun h => H.f4 (h.set_ne (by decide))
    f5 := fun h => H.f5 (h.set_ne (by decide))
    f7 := fun h => H.f7 (h.set_ne (by decide))
    f10 := fun h => H.f10 (h.set_ne (by decide)) }

theorem RegK.s11 {V : World} {g off : Nat} {e : TypeId} {sz i : Nat} {xs ns : List Value} {p2 a3 a5 a7 : Value} {listed : Array Bool} {w : World} {s0 s1 s2 s3 s4 s5 s6 s7 s8 s9 s10 : Value} (H : RegK V g off e sz i xs ns p2 a3 a5 a7 listed w s0 s1 s2 s3 s4 s5 s6 s7 s8 s9 s10) (hno : ¬ Up listed 11) (hw9 : Up listed 9) (hw1 : Up listed 1) (hw3 : Up listed 3) (hw7 : Up listed 7) : RegK V g off e sz i xs ns p2 a3 a5 a7 (listed.setIfInBounds 11 true) (w.setCell ⟨g, off, none⟩ s9) s0 s1 s2 s3 s4 s5 s6 s7 s8 s9 s10 :=
  { size := by rw [Array.size_setIfInBounds]; exact H.size
    low := fun h => absurd (Up.self (by rw [H.size]; decide)) h
    a := fun _ h => absurd hw9.more h
    b := fun _ h => absurd hw9.more h
    c := fun _ h => absurd (Up.self (by rw [H.size]; decide)) h
    d := fun _ => ⟨w, H.low hno, H.c hw9 hno, rfl⟩
    o9 := fun h => let ⟨h1, h2⟩ := H.o9 (h.set_ne (by decide)); ⟨h1.more, h2.more⟩
    o11 := fun _ => ⟨hw9.more, hw1.more, hw3.more, hw7.more⟩
    f0 := fun h => H.f0 (h.set_ne (by decide))
    f1 := fun h => H.f1 (h.set_ne (by decide))
    f2 := fun h => H.f2 (h.set_ne (by decide))
    f3 := fun h => H.f3 (h.set_ne (by decide))
    f4 := fun h => H.f4 (h.set_ne (by decide))
    f5 := fun h => H.f5 (h.set_ne (by decide))
    f7 := fun h => H.f7 (h.set_ne (by decide))
    f10 := fun h => H.f10 (h.set_ne (by decide)) }

structure RegL (V : World) (base g off : Nat) (e : TypeId) (sz n : Nat) (xs : List Value) (v0 p2 a3 a4 a5 : Value) (listed : Array Bool) (w : World) (s0 s1 s2 s3 s4 s5 s6 s7 : Value) : Prop where
  size : listed.size = 9
  low : ¬ Up listed 6 → w = V.drew
  a : Up listed 6 → ¬ Up listed 8 → V.drew.grownBy w v0.ownBlock ∧ w.ownsRow base e sz s6 n xs
  d : Up listed 8 → ∃ Y, V.drew.grownBy Y v0.ownBlock ∧ Y.ownsRow base e sz s6 n xs ∧ w = Y.setCell ⟨g, off, none⟩ s6
  o5 : Up listed 5 → Up listed 3
  o6 : Up listed 6 → Up listed 1 ∧ Up listed 5
  o8 : Up listed 8 → Up listed 6
  f0 : Up listed 0 → s0 = .pointer (some ⟨g, off, none⟩)
  f1 : Up listed 1 → s1 = v0
  f2 : Up listed 2 → s2 = p2
  f3 : Up listed 3 → s3 = a3
  f4 : Up listed 4 → s4 = a4
  f5 : Up listed 5 → s5 = a5
  f7 : Up listed 7 → s7 = .pointer (some ⟨g, off, none⟩)

theorem RegL.start (V : World) (base g off : Nat) (e : TypeId) (sz n : Nat) (xs : List Value) (v0 p2 a3 a4 a5 : Value) (s0 s1 s2 s3 s4 s5 s6 s7 : Value) : RegL V base g off e sz n xs v0 p2 a3 a4 a5 (Array.replicate 9 false) V.drew s0 s1 s2 s3 s4 s5 s6 s7 :=
  { size := by simp
    low := fun _ => rfl
    a := fun h => h.start.elim
    d := fun h => h.start.elim
    o5 := fun h => h.start.elim
    o6 := fun h => h.start.elim
    o8 := fun h => h.start.elim
    f0 := fun h => h.start.elim
    f1 := fun h => h.start.elim
    f2 := fun h => h.start.elim
    f3 := fun h => h.start.elim
    f4 := fun h => h.start.elim
    f5 := fun h => h.start.elim
    f7 := fun h => h.start.elim }

theorem RegL.s0 {V : World} {base g off : Nat} {e : TypeId} {sz n : Nat} {xs : List Value} {v0 p2 a3 a4 a5 : Value} {listed : Array Bool} {w : World} {s0 s1 s2 s3 s4 s5 s6 s7 : Value} (H : RegL V base g off e sz n xs v0 p2 a3 a4 a5 listed w s0 s1 s2 s3 s4 s5 s6 s7) : RegL V base g off e sz n xs v0 p2 a3 a4 a5 (listed.setIfInBounds 0 true) w (.pointer (some ⟨g, off, none⟩)) s1 s2 s3 s4 s5 s6 s7 :=
  { size := by rw [Array.size_setIfInBounds]; exact H.size
    low := fun h => H.low (fun u => h u.more)
    a := fun h h2 => H.a (h.set_ne (by decide)) (fun u => h2 u.more)
    d := fun h => H.d (h.set_ne (by decide))
    o5 := fun h => (H.o5 (h.set_ne (by decide))).more
    o6 := fun h => let ⟨h1, h2⟩ := H.o6 (h.set_ne (by decide)); ⟨h1.more, h2.more⟩
    o8 := fun h => (H.o8 (h.set_ne (by decide))).more
    f0 := fun _ => rfl
    f1 := fun h => H.f1 (h.set_ne (by decide))
    f2 := fun h => H.f2 (h.set_ne (by decide))
    f3 := fun h => H.f3 (h.set_ne (by decide))
    f4 := fun h => H.f4 (h.set_ne (by decide))
    f5 := fun h => H.f5 (h.set_ne (by decide))
    f7 := fun h => H.f7 (h.set_ne (by decide)) }

theorem RegL.s1 {V : World} {base g off : Nat} {e : TypeId} {sz n : Nat} {xs : List Value} {v0 p2 a3 a4 a5 : Value} {listed : Array Bool} {w : World} {s0 s1 s2 s3 s4 s5 s6 s7 : Value} (H : RegL V base g off e sz n xs v0 p2 a3 a4 a5 listed w s0 s1 s2 s3 s4 s5 s6 s7) : RegL V base g off e sz n xs v0 p2 a3 a4 a5 (listed.setIfInBounds 1 true) w s0 (v0) s2 s3 s4 s5 s6 s7 :=
  { size := by rw [Array.size_setIfInBounds]; exact H.size
    low := fun h => H.low (fun u => h u.more)
    a := fun h h2 => H.a (h.set_ne (by decide)) (fun u => h2 u.more)
    d := fun h => H.d (h.set_ne (by decide))
    o5 := fun h => (H.o5 (h.set_ne (by decide))).more
    o6 := fun h => let ⟨h1, h2⟩ := H.o6 (h.set_ne (by decide)); ⟨h1.more, h2.more⟩
    o8 := fun h => (H.o8 (h.set_ne (by decide))).more
    f0 := fun h => H.f0 (h.set_ne (by decide))
    f1 := fun _ => rfl
    f2 := fun h => H.f2 (h.set_ne (by decide))
    f3 := fun h => H.f3 (h.set_ne (by decide))
    f4 := fun h => H.f4 (h.set_ne (by decide))
    f5 := fun h => H.f5 (h.set_ne (by decide))
    f7 := fun h => H.f7 (h.set_ne (by decide)) }

theorem RegL.s2 {V : World} {base g off : Nat} {e : TypeId} {sz n : Nat} {xs : List Value} {v0 p2 a3 a4 a5 : Value} {listed : Array Bool} {w : World} {s0 s1 s2 s3 s4 s5 s6 s7 : Value} (H : RegL V base g off e sz n xs v0 p2 a3 a4 a5 listed w s0 s1 s2 s3 s4 s5 s6 s7) : RegL V base g off e sz n xs v0 p2 a3 a4 a5 (listed.setIfInBounds 2 true) w s0 s1 (p2) s3 s4 s5 s6 s7 :=
  { size := by rw [Array.size_setIfInBounds]; exact H.size
    low := fun h => H.low (fun u => h u.more)
    a := fun h h2 => H.a (h.set_ne (by decide)) (fun u => h2 u.more)
    d := fun h => H.d (h.set_ne (by decide))
    o5 := fun h => (H.o5 (h.set_ne (by decide))).more
    o6 := fun h => let ⟨h1, h2⟩ := H.o6 (h.set_ne (by decide)); ⟨h1.more, h2.more⟩
    o8 := fun h => (H.o8 (h.set_ne (by decide))).more
    f0 := fun h => H.f0 (h.set_ne (by decide))
    f1 := fun h => H.f1 (h.set_ne (by decide))
    f2 := fun _ => rfl
    f3 := fun h => H.f3 (h.set_ne (by decide))
    f4 := fun h => H.f4 (h.set_ne (by decide))
    f5 := fun h => H.f5 (h.set_ne (by decide))
    f7 := fun h => H.f7 (h.set_ne (by decide)) }

theorem RegL.s3 {V : World} {base g off : Nat} {e : TypeId} {sz n : Nat} {xs : List Value} {v0 p2 a3 a4 a5 : Value} {listed : Array Bool} {w : World} {s0 s1 s2 s3 s4 s5 s6 s7 : Value} (H : RegL V base g off e sz n xs v0 p2 a3 a4 a5 listed w s0 s1 s2 s3 s4 s5 s6 s7) : RegL V base g off e sz n xs v0 p2 a3 a4 a5 (listed.setIfInBounds 3 true) w s0 s1 s2 (a3) s4 s5 s6 s7 :=
  { size := by rw [Array.size_setIfInBounds]; exact H.size
    low := fun h => H.low (fun u => h u.more)
    a := fun h h2 => H.a (h.set_ne (by decide)) (fun u => h2 u.more)
    d := fun h => H.d (h.set_ne (by decide))
    o5 := fun h => (H.o5 (h.set_ne (by decide))).more
    o6 := fun h => let ⟨h1, h2⟩ := H.o6 (h.set_ne (by decide)); ⟨h1.more, h2.more⟩
    o8 := fun h => (H.o8 (h.set_ne (by decide))).more
    f0 := fun h => H.f0 (h.set_ne (by decide))
    f1 := fun h => H.f1 (h.set_ne (by decide))
    f2 := fun h => H.f2 (h.set_ne (by decide))
    f3 := fun _ => rfl
    f4 := fun h => H.f4 (h.set_ne (by decide))
    f5 := fun h => H.f5 (h.set_ne (by decide))
    f7 := fun h => H.f7 (h.set_ne (by decide)) }

theorem RegL.s4 {V : World} {base g off : Nat} {e : TypeId} {sz n : Nat} {xs : List Value} {v0 p2 a3 a4 a5 : Value} {listed : Array Bool} {w : World} {s0 s1 s2 s3 s4 s5 s6 s7 : Value} (H : RegL V base g off e sz n xs v0 p2 a3 a4 a5 listed w s0 s1 s2 s3 s4 s5 s6 s7) : RegL V base g off e sz n xs v0 p2 a3 a4 a5 (listed.setIfInBounds 4 true) w s0 s1 s2 s3 (a4) s5 s6 s7 :=
  { size := by rw [Array.size_setIfInBounds]; exact H.size
    low := fun h => H.low (fun u => h u.more)
    a := fun h h2 => H.a (h.set_ne (by decide)) (fun u => h2 u.more)
    d := fun h => H.d (h.set_ne (by decide))
    o5 := fun h => (H.o5 (h.set_ne (by decide))).more
    o6 := fun h => let ⟨h1, h2⟩ := H.o6 (h.set_ne (by decide)); ⟨h1.more, h2.more⟩
    o8 := fun h => (H.o8 (h.set_ne (by decide))).more
    f0 := fun h => H.f0 (h.set_ne (by decide))
    f1 := fun h => H.f1 (h.set_ne (by decide))
    f2 := fun h => H.f2 (h.set_ne (by decide))
    f3 := fun h => H.f3 (h.set_ne (by decide))
    f4 := fun _ => rfl
    f5 := fun h => H.f5 (h.set_ne (by decide))
    f7 := fun h => H.f7 (h.set_ne (by decide)) }

theorem RegL.s5 {V : World} {base g off : Nat} {e : TypeId} {sz n : Nat} {xs : List Value} {v0 p2 a3 a4 a5 : Value} {listed : Array Bool} {w : World} {s0 s1 s2 s3 s4 s5 s6 s7 : Value} (H : RegL V base g off e sz n xs v0 p2 a3 a4 a5 listed w s0 s1 s2 s3 s4 s5 s6 s7) (hw3 : Up listed 3) : RegL V base g off e sz n xs v0 p2 a3 a4 a5 (listed.setIfInBounds 5 true) w s0 s1 s2 s3 s4 a5 s6 s7 :=
  { size := by rw [Array.size_setIfInBounds]; exact H.size
    low := fun h => H.low (fun u => h u.more)
    a := fun h h2 => H.a (h.set_ne (by decide)) (fun u => h2 u.more)
    d := fun h => H.d (h.set_ne (by decide))
    o5 := fun _ => hw3.more
    o6 := fun h => let ⟨h1, h2⟩ := H.o6 (h.set_ne (by decide)); ⟨h1.more, h2.more⟩
    o8 := fun h => (H.o8 (h.set_ne (by decide))).more
    f0 := fun h => H.f0 (h.set_ne (by decide))
    f1 := fun h => H.f1 (h.set_ne (by decide))
    f2 := fun h => H.f2 (h.set_ne (by decide))
    f3 := fun h => H.f3 (h.set_ne (by decide))
    f4 := fun h => H.f4 (h.set_ne (by decide))
    f5 := fun _ => rfl
    f7 := fun h => H.f7 (h.set_ne (by decide)) }

theorem RegL.s7 {V : World} {base g off : Nat} {e : TypeId} {sz n : Nat} {xs : List Value} {v0 p2 a3 a4 a5 : Value} {listed : Array Bool} {w : World} {s0 s1 s2 s3 s4 s5 s6 s7 : Value} (H : RegL V base g off e sz n xs v0 p2 a3 a4 a5 listed w s0 s1 s2 s3 s4 s5 s6 s7) : RegL V base g off e sz n xs v0 p2 a3 a4 a5 (listed.setIfInBounds 7 true) w s0 s1 s2 s3 s4 s5 s6 (.pointer (some ⟨g, off, none⟩)) :=
  { size := by rw [Array.size_setIfInBounds]; exact H.size
    low := fun h => H.low (fun u => h u.more)
    a := fun h h2 => H.a (h.set_ne (by decide)) (fun u => h2 u.more)
    d := fun h => H.d (h.set_ne (by decide))
    o5 := fun h => (H.o5 (h.set_ne (by decide))).more
    o6 := fun h => let ⟨h1, h2⟩ := H.o6 (h.set_ne (by decide)); ⟨h1.more, h2.more⟩
    o8 := fun h => (H.o8 (h.set_ne (by decide))).more
    f0 := fun h => H.f0 (h.set_ne (by decide))
    f1 := fun h => H.f1 (h.set_ne (by decide))
    f2 := fun h => H.f2 (h.set_ne (by decide))
    f3 := fun h => H.f3 (h.set_ne (by decide))
    f4 := fun h => H.f4 (h.set_ne (by decide))
    f5 := fun h => H.f5 (h.set_ne (by decide))
    f7 := fun _ => rfl }

theorem RegL.s6 {V : World} {base g off : Nat} {e : TypeId} {sz n : Nat} {xs : List Value} {v0 p2 a3 a4 a5 : Value} {listed : Array Bool} {w : World} {s0 s1 s2 s3 s4 s5 s6 s7 : Value} {w2 : World} {v2 : Value} (H : RegL V base g off e sz n xs v0 p2 a3 a4 a5 listed w s0 s1 s2 s3 s4 s5 s6 s7) (hno : ¬ Up listed 6) (hw1 : Up listed 1) (hw5 : Up listed 5) (hg : w.grownBy w2 v0.ownBlock) (ho : w2.ownsRow base e sz v2 n xs) : RegL V base g off e sz n xs v0 p2 a3 a4 a5 (listed.setIfInBounds 6 true) w2 s0 s1 s2 s3 s4 s5 v2 s7 :=
  { size := by rw [Array.size_setIfInBounds]; exact H.size
    low := fun h => absurd (Up.self (by rw [H.size]; decide)) h
    a := fun _ _ => ⟨by rw [← H.low hno]; exact hg, ho⟩
    d := fun h => absurd (H.o8 (h.set_ne (by decide))) hno
    o5 := fun h => (H.o5 (h.set_ne (by decide))).more
    o6 := fun _ => ⟨hw1.more, hw5.more⟩
    o8 := fun h => (H.o8 (h.set_ne (by decide))).more
    f0 := fun h => H.f0 (h.set_ne (by decide))
    f1 := fun h => H.f1 (h.set_ne (by decide))
    f2 := fun h => H.f2 (h.set_ne (by decide))
    f3 := fun h => H.f3 (h.set_ne (by decide))
    f4 := fun h => H.f4 (h.set_ne (by decide))
    f5 := fun h => H.f5 (h.set_ne (by decide))
    f7 := fun h => H.f7 (h.set_ne (by decide)) }

theorem RegL.s8 {V : World} {base g off : Nat} {e : TypeId} {sz n : Nat} {xs : List Value} {v0 p2 a3 a4 a5 : Value} {listed : Array Bool} {w : World} {s0 s1 s2 s3 s4 s5 s6 s7 : Value} (H : RegL V base g off e sz n xs v0 p2 a3 a4 a5 listed w s0 s1 s2 s3 s4 s5 s6 s7) (hno : ¬ Up listed 8) (hw6 : Up listed 6) : RegL V base g off e sz n xs v0 p2 a3 a4 a5 (listed.setIfInBounds 8 true) (w.setCell ⟨g, off, none⟩ s6) s0 s1 s2 s3 s4 s5 s6 s7 :=
  { size := by rw [Array.size_setIfInBounds]; exact H.size
    low := fun h => absurd hw6.more h
    a := fun _ h => absurd (Up.self (by rw [H.size]; decide)) h
    d := fun _ => ⟨w, (H.a hw6 hno).1, (H.a hw6 hno).2, rfl⟩
    o5 := fun h => (H.o5 (h.set_ne (by decide))).more
    o6 := fun h => let ⟨h1, h2⟩ := H.o6 (h.set_ne (by decide)); ⟨h1.more, h2.more⟩
    o8 := fun _ => hw6.more
    f0 := fun h => H.f0 (h.set_ne (by decide))
    f1 := fun h => H.f1 (h.set_ne (by decide))
    f2 := fun h => H.f2 (h.set_ne (by decide))
    f3 := fun h => H.f3 (h.set_ne (by decide))
    f4 := fun h => H.f4 (h.set_ne (by decide))
    f5 := fun h => H.f5 (h.set_ne (by decide))
    f7 := fun h => H.f7 (h.set_ne (by decide)) }
end Go.Proofs.YtmkdkcbkgngfdaaDoor
