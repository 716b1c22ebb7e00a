/- The reference's merged: the region that looks up, loads and lays two variables, by an invariant (printed by mkmrgm.py). -/
import Derived.Test.YtmkdkcbkgngfdaaDoorMapR
namespace Go.Proofs.YtmkdkcbkgngfdaaDoor
open Go.RowKit Go.Maps Go.Sort
set_option linter.unusedVariables false

/-- A variable laid in the region, ahead of its store and behind it. -/
def Laid (V w : World) (up : Prop) (s x : Value) : Prop := ∃ a, s = .pointer (some ⟨a, 0, none⟩) ∧ V.heap.size ≤ a ∧ (¬ up → Blk w a 26 #[.int .i64 0, .int .i64 0, .string ⟨#[]⟩, .slice none 0 0, .slice none 0 0, .slice none 0 0]) ∧ (up → ∃ cells, x = .agg cells ∧ Blk w a 26 cells)

theorem Laid.lt {V w : World} {up : Prop} {s x : Value} (h : Laid V w up s x) : ∃ a, s = .pointer (some ⟨a, 0, none⟩) ∧ V.heap.size ≤ a ∧ a < w.heap.size := by
  obtain ⟨a, h1, h2, h3, h4⟩ := h
  by_cases hu : up
  · obtain ⟨c, _, hb⟩ := h4 hu
    exact ⟨a, h1, h2, hb.lt⟩
  · exact ⟨a, h1, h2, (h3 hu).lt⟩

theorem Laid.keep {V w w' : World} {up up' : Prop} {s x : Value} (h : Laid V w up s x) (hw : ∀ a, s = .pointer (some ⟨a, 0, none⟩) → a < w.heap.size → w'.heap[a]? = w.heap[a]?) (h1 : up → up') (h2 : up' → up) : Laid V w' up' s x := by
  obtain ⟨a, e, l, h3, h4⟩ := h
  refine ⟨a, e, l, fun u => ?_, fun u => ?_⟩
  · have hb := h3 (fun v => u (h1 v))
    exact (hw a e hb.lt).trans hb
  · obtain ⟨c, ec, hb⟩ := h4 (h2 u)
    exact ⟨c, ec, (hw a e hb.lt).trans hb⟩

structure RegM (V : World) (P : Nat → Prop) (Sb n j : Nat) (k : ByteArray) (G : JV) (A a4 p6 yc : Value) (listed : Array Bool) (w : World) (s0 s1 s2 s3 s4 s5 s6 s7 s8 s9 : Value) : Prop where
  size : listed.size = 12
  low : Below V.heap.size V w
  f2 : Up listed 2 → JP V P (n + 1) s2 G
  b8 : Up listed 8 → Laid V w (Up listed 10) s8 s2
  b9 : Up listed 9 → Laid V w (Up listed 11) s9 s7
  ne : Up listed 8 → Up listed 9 → s8 ≠ s9
  o10 : Up listed 10 → Up listed 8 ∧ Up listed 2
  o11 : Up listed 11 → Up listed 9 ∧ Up listed 7
  f0 : Up listed 0 → s0 = A
  f1 : Up listed 1 → s1 = .string k
  f3 : Up listed 3 → s3 = .pointer (some ⟨Sb, 5, none⟩)
  f4 : Up listed 4 → s4 = a4
  f5 : Up listed 5 → s5 = .int .i64 j
  f6 : Up listed 6 → s6 = p6
  f7 : Up listed 7 → s7 = yc

theorem RegM.start (V : World) (P : Nat → Prop) (Sb n j : Nat) (k : ByteArray) (G : JV) (A a4 p6 yc : Value) (s0 s1 s2 s3 s4 s5 s6 s7 s8 s9 : Value) : RegM V P Sb n j k G A a4 p6 yc (Array.replicate 12 false) V.drew s0 s1 s2 s3 s4 s5 s6 s7 s8 s9 :=
  { size := by simp
    low := ⟨rfl, rfl, rfl, Nat.le_refl _, fun _ _ => rfl⟩
    f2 := fun h => h.start.elim
    b8 := fun h => h.start.elim
    b9 := fun h => h.start.elim
    ne := fun h => h.start.elim
    o10 := fun h => h.start.elim
    o11 := fun h => h.start.elim
    f0 := fun h => h.start.elim
    f1 := fun h => h.start.elim
    f3 := fun h => h.start.elim
    f4 := fun h => h.start.elim
    f5 := fun h => h.start.elim
    f6 := fun h => h.start.elim
    f7 := fun h => h.start.elim }

theorem RegM.s0 {V : World} {P : Nat → Prop} {Sb n j : Nat} {k : ByteArray} {G : JV} {A a4 p6 yc : Value} {listed : Array Bool} {w : World} {s0 s1 s2 s3 s4 s5 s6 s7 s8 s9 : Value} (H : RegM V P Sb n j k G A a4 p6 yc listed w s0 s1 s2 s3 s4 s5 s6 s7 s8 s9) : RegM V P Sb n j k G A a4 p6 yc (listed.setIfInBounds 0 true) w (A) s1 s2 s3 s4 s5 s6 s7 s8 s9 :=
  { size := by rw [Array.size_setIfInBounds]; exact H.size
    low := H.low
    f2 := fun h => H.f2 (h.set_ne (by decide))
    b8 := fun h => (H.b8 (h.set_ne (by decide))).keep (fun _ _ _ => rfl) Up.more (fun u => u.set_ne (by decide))
    b9 := fun h => (H.b9 (h.set_ne (by decide))).keep (fun _ _ _ => rfl) Up.more (fun u => u.set_ne (by decide))
    ne := fun h h2 => H.ne (h.set_ne (by decide)) (h2.set_ne (by decide))
    o10 := fun h => let ⟨h1, h2⟩ := H.o10 (h.set_ne (by decide)); ⟨h1.more, h2.more⟩
    o11 := fun h => let ⟨h1, h2⟩ := H.o11 (h.set_ne (by decide)); ⟨h1.more, h2.more⟩
    f0 := fun _ => rfl
    f1 := fun h => H.f1 (h.set_ne (by decide))
    f3 := fun h => H.f3 (h.set_ne (by decide))
    f4 := fun h => H.f4 (h.set_ne (by decide))
    f5 := fun h => H.f5 (h.set_ne (by decide))
    f6 := fun h => H.f6 (h.set_ne (by decide))
    f7 := fun h => H.f7 (h.set_ne (by decide)) }

theorem RegM.s1 {V : World} {P : Nat → Prop} {Sb n j : Nat} {k : ByteArray} {G : JV} {A a4 p6 yc : Value} {listed : Array Bool} {w : World} {s0 s1 s2 s3 s4 s5 s6 s7 s8 s9 : Value} (H : RegM V P Sb n j k G A a4 p6 yc listed w s0 s1 s2 s3 s4 s5 s6 s7 s8 s9) : RegM V P Sb n j k G A a4 p6 yc (listed.setIfInBounds 1 true) w s0 (.string k) s2 s3 s4 s5 s6 s7 s8 s9 :=
  { size := by rw [Array.size_setIfInBounds]; exact H.size
    low := H.low
    f2 := fun h => H.f2 (h.set_ne (by decide))
    b8 := fun h => (H.b8 (h.set_ne (by decide))).keep (fun _ _ _ => rfl) Up.more (fun u => u.set_ne (by decide))
    b9 := fun h => (H.b9 (h.set_ne (by decide))).keep (fun _ _ _ => rfl) Up.more (fun u => u.set_ne (by decide))
    ne := fun h h2 => H.ne (h.set_ne (by decide)) (h2.set_ne (by decide))
    o10 := fun h => let ⟨h1, h2⟩ := H.o10 (h.set_ne (by decide)); ⟨h1.more, h2.more⟩
    o11 := fun h => let ⟨h1, h2⟩ := H.o11 (h.set_ne (by decide)); ⟨h1.more, h2.more⟩
    f0 := fun h => H.f0 (h.set_ne (by decide))
    f1 := fun _ => rfl
    f3 := fun h => H.f3 (h.set_ne (by decide))
    f4 := fun h => H.f4 (h.set_ne (by decide))
    f5 := fun h => H.f5 (h.set_ne (by decide))
    f6 := fun h => H.f6 (h.set_ne (by decide))
    f7 := fun h => H.f7 (h.set_ne (by decide)) }

theorem RegM.s3 {V : World} {P : Nat → Prop} {Sb n j : Nat} {k : ByteArray} {G : JV} {A a4 p6 yc : Value} {listed : Array Bool} {w : World} {s0 s1 s2 s3 s4 s5 s6 s7 s8 s9 : Value} (H : RegM V P Sb n j k G A a4 p6 yc listed w s0 s1 s2 s3 s4 s5 s6 s7 s8 s9) : RegM V P Sb n j k G A a4 p6 yc (listed.setIfInBounds 3 true) w s0 s1 s2 (.pointer (some ⟨Sb, 5, none⟩)) s4 s5 s6 s7 s8 s9 :=
  { size := by rw [Array.size_setIfInBounds]; exact H.size
    low := H.low
    f2 := fun h => H.f2 (h.set_ne (by decide))
    b8 := fun h => (H.b8 (h.set_ne (by decide))).keep (fun _ _ _ => rfl) Up.more (fun u => u.set_ne (by decide))
    b9 := fun h => (H.b9 (h.set_ne (by decide))).keep (fun _ _ _ => rfl) Up.more (fun u => u.set_ne (by decide))
    ne := fun h h2 => H.ne (h.set_ne (by decide)) (h2.set_ne (by decide))
    o10 := fun h => let ⟨h1, h2⟩ := H.o10 (h.set_ne (by decide)); ⟨h1.more, h2.more⟩
    o11 := fun h => let ⟨h1, h2⟩ := H.o11 (h.set_ne (by decide)); ⟨h1.more, h2.more⟩
    f0 := fun h => H.f0 (h.set_ne (by decide))
    f1 := fun h => H.f1 (h.set_ne (by decide))
    f3 := fun _ => rfl
    f4 := fun h => H.f4 (h.set_ne (by decide))
    f5 := fun h => H.f5 (h.set_ne (by decide))
    f6 := fun h => H.f6 (h.set_ne (by decide))
    f7 := fun h => H.f7 (h.set_ne (by decide)) }

theorem RegM.s4 {V : World} {P : Nat → Prop} {Sb n j : Nat} {k : ByteArray} {G : JV} {A a4 p6 yc : Value} {listed : Array Bool} {w : World} {s0 s1 s2 s3 s4 s5 s6 s7 s8 s9 : Value} (H : RegM V P Sb n j k G A a4 p6 yc listed w s0 s1 s2 s3 s4 s5 s6 s7 s8 s9) : RegM V P Sb n j k G A a4 p6 yc (listed.setIfInBounds 4 true) w s0 s1 s2 s3 (a4) s5 s6 s7 s8 s9 :=
  { size := by rw [Array.size_setIfInBounds]; exact H.size
    low := H.low
    f2 := fun h => H.f2 (h.set_ne (by decide))
    b8 := fun h => (H.b8 (h.set_ne (by decide))).keep (fun _ _ _ => rfl) Up.more (fun u => u.set_ne (by decide))
    b9 := fun h => (H.b9 (h.set_ne (by decide))).keep (fun _ _ _ => rfl) Up.more (fun u => u.set_ne (by decide))
    ne := fun h h2 => H.ne (h.set_ne (by decide)) (h2.set_ne (by decide))
    o10 := fun h => let ⟨h1, h2⟩ := H.o10 (h.set_ne (by decide)); ⟨h1.more, h2.more⟩
    o11 := fun h => let ⟨h1, h2⟩ := H.o11 (h.set_ne (by decide)); ⟨h1.more, h2.more⟩
    f0 := fun h => H.f0 (h.set_ne (by decide))
    f1 := fun h => H.f1 (h.set_ne (by decide))
    f3 := fun h => H.f3 (h.set_ne (by decide))
    f4 := fun _ => rfl
    f5 := fun h => H.f5 (h.set_ne (by decide))
    f6 := fun h => H.f6 (h.set_ne (by decide))
    f7 := fun h => H.f7 (h.set_ne (by decide)) }

theorem RegM.s5 {V : World} {P : Nat → Prop} {Sb n j : Nat} {k : ByteArray} {G : JV} {A a4 p6 yc : Value} {listed : Array Bool} {w : World} {s0 s1 s2 s3 s4 s5 s6 s7 s8 s9 : Value} (H : RegM V P Sb n j k G A a4 p6 yc listed w s0 s1 s2 s3 s4 s5 s6 s7 s8 s9) : RegM V P Sb n j k G A a4 p6 yc (listed.setIfInBounds 5 true) w s0 s1 s2 s3 s4 (.int .i64 j) s6 s7 s8 s9 :=
  { size := by rw [Array.size_setIfInBounds]; exact H.size
    low := H.low
    f2 := fun h => H.f2 (h.set_ne (by decide))
    b8 := fun h => (H.b8 (h.set_ne (by decide))).keep (fun _ _ _ => rfl) Up.more (fun u => u.set_ne (by decide))
    b9 := fun h => (H.b9 (h.set_ne (by decide))).keep (fun _ _ _ => rfl) Up.more (fun u => u.set_ne (by decide))
    ne := fun h h2 => H.ne (h.set_ne (by decide)) (h2.set_ne (by decide))
    o10 := fun h => let ⟨h1, h2⟩ := H.o10 (h.set_ne (by decide)); ⟨h1.more, h2.more⟩
    o11 := fun h => let ⟨h1, h2⟩ := H.o11 (h.set_ne (by decide)); ⟨h1.more, h2.more⟩
    f0 := fun h => H.f0 (h.set_ne (by decide))
    f1 := fun h => H.f1 (h.set_ne (by decide))
    f3 := fun h => H.f3 (h.set_ne (by decide))
    f4 := fun h => H.f4 (h.set_ne (by decide))
    f5 := fun _ => rfl
    f6 := fun h => H.f6 (h.set_ne (by decide))
    f7 := fun h => H.f7 (h.set_ne (by decide)) }

theorem RegM.s6 {V : World} {P : Nat → Prop} {Sb n j : Nat} {k : ByteArray} {G : JV} {A a4 p6 yc : Value} {listed : Array Bool} {w : World} {s0 s1 s2 s3 s4 s5 s6 s7 s8 s9 : Value} (H : RegM V P Sb n j k G A a4 p6 yc listed w s0 s1 s2 s3 s4 s5 s6 s7 s8 s9) : RegM V P Sb n j k G A a4 p6 yc (listed.setIfInBounds 6 true) w s0 s1 s2 s3 s4 s5 (p6) s7 s8 s9 :=
  { size := by rw [Array.size_setIfInBounds]; exact H.size
    low := H.low
    f2 := fun h => H.f2 (h.set_ne (by decide))
    b8 := fun h => (H.b8 (h.set_ne (by decide))).keep (fun _ _ _ => rfl) Up.more (fun u => u.set_ne (by decide))
    b9 := fun h => (H.b9 (h.set_ne (by decide))).keep (fun _ _ _ => rfl) Up.more (fun u => u.set_ne (by decide))
    ne := fun h h2 => H.ne (h.set_ne (by decide)) (h2.set_ne (by decide))
    o10 := fun h => let ⟨h1, h2⟩ := H.o10 (h.set_ne (by decide)); ⟨h1.more, h2.more⟩
    o11 := fun h => let ⟨h1, h2⟩ := H.o11 (h.set_ne (by decide)); ⟨h1.more, h2.more⟩
    f0 := fun h => H.f0 (h.set_ne (by decide))
    f1 := fun h => H.f1 (h.set_ne (by decide))
    f3 := fun h => H.f3 (h.set_ne (by decide))
    f4 := fun h => H.f4 (h.set_ne (by decide))
    f5 := fun h => H.f5 (h.set_ne (by decide))
    f6 := fun _ => rfl
    f7 := fun h => H.f7 (h.set_ne (by decide)) }

theorem RegM.s7 {V : World} {P : Nat → Prop} {Sb n j : Nat} {k : ByteArray} {G : JV} {A a4 p6 yc : Value} {listed : Array Bool} {w : World} {s0 s1 s2 s3 s4 s5 s6 s7 s8 s9 : Value} (H : RegM V P Sb n j k G A a4 p6 yc listed w s0 s1 s2 s3 s4 s5 s6 s7 s8 s9) (hno : ¬ Up listed 7) : RegM V P Sb n j k G A a4 p6 yc (listed.setIfInBounds 7 true) w s0 s1 s2 s3 s4 s5 s6 yc s8 s9 :=
  { size := by rw [Array.size_setIfInBounds]; exact H.size
    low := H.low
    f2 := fun h => H.f2 (h.set_ne (by decide))
    b8 := fun h => (H.b8 (h.set_ne (by decide))).keep (fun _ _ _ => rfl) Up.more (fun u => u.set_ne (by decide))
    b9 := fun h => let ⟨a, h1, h2, h3, h4⟩ := H.b9 (h.set_ne (by decide)); ⟨a, h1, h2, fun u => h3 (fun v => u v.more), fun u => absurd (H.o11 (u.set_ne (by decide))).2 hno⟩
    ne := fun h h2 => H.ne (h.set_ne (by decide)) (h2.set_ne (by decide))
    o10 := fun h => let ⟨h1, h2⟩ := H.o10 (h.set_ne (by decide)); ⟨h1.more, h2.more⟩
    o11 := fun h => let ⟨h1, h2⟩ := H.o11 (h.set_ne (by decide)); ⟨h1.more, h2.more⟩
    f0 := fun h => H.f0 (h.set_ne (by decide))
    f1 := fun h => H.f1 (h.set_ne (by decide))
    f3 := fun h => H.f3 (h.set_ne (by decide))
    f4 := fun h => H.f4 (h.set_ne (by decide))
    f5 := fun h => H.f5 (h.set_ne (by decide))
    f6 := fun h => H.f6 (h.set_ne (by decide))
    f7 := fun _ => rfl }

theorem RegM.s2 {V : World} {P : Nat → Prop} {Sb n j : Nat} {k : ByteArray} {G : JV} {A a4 p6 yc : Value} {listed : Array Bool} {w : World} {s0 s1 s2 s3 s4 s5 s6 s7 s8 s9 : Value} {w2 : World} {v2 : Value} (H : RegM V P Sb n j k G A a4 p6 yc listed w s0 s1 s2 s3 s4 s5 s6 s7 s8 s9) (hno : ¬ Up listed 2) (hb : Below w.heap.size w w2) (hj : JP V P (n + 1) v2 G) : RegM V P Sb n j k G A a4 p6 yc (listed.setIfInBounds 2 true) w2 s0 s1 v2 s3 s4 s5 s6 s7 s8 s9 :=
  { size := by rw [Array.size_setIfInBounds]; exact H.size
    low := H.low.trans (hb.mono H.low.size)
    f2 := fun _ => hj
    b8 := fun h => let ⟨a, h1, h2, h3, h4⟩ := H.b8 (h.set_ne (by decide)); ⟨a, h1, h2, fun u => (h3 (fun v => u v.more)).below hb (h3 (fun v => u v.more)).lt, fun u => absurd (H.o10 (u.set_ne (by decide))).2 hno⟩
    b9 := fun h => (H.b9 (h.set_ne (by decide))).keep (fun a _ ha => hb.block a ha) Up.more (fun u => u.set_ne (by decide))
    ne := fun h h2 => H.ne (h.set_ne (by decide)) (h2.set_ne (by decide))
    o10 := fun h => let ⟨h1, h2⟩ := H.o10 (h.set_ne (by decide)); ⟨h1.more, h2.more⟩
    o11 := fun h => let ⟨h1, h2⟩ := H.o11 (h.set_ne (by decide)); ⟨h1.more, h2.more⟩
    f0 := fun h => H.f0 (h.set_ne (by decide))
    f1 := fun h => H.f1 (h.set_ne (by decide))
    f3 := fun h => H.f3 (h.set_ne (by decide))
    f4 := fun h => H.f4 (h.set_ne (by decide))
    f5 := fun h => H.f5 (h.set_ne (by decide))
    f6 := fun h => H.f6 (h.set_ne (by decide))
    f7 := fun h => H.f7 (h.set_ne (by decide)) }

theorem RegM.s8 {V : World} {P : Nat → Prop} {Sb n j : Nat} {k : ByteArray} {G : JV} {A a4 p6 yc : Value} {listed : Array Bool} {w : World} {s0 s1 s2 s3 s4 s5 s6 s7 s8 s9 : Value} (H : RegM V P Sb n j k G A a4 p6 yc listed w s0 s1 s2 s3 s4 s5 s6 s7 s8 s9) (hno : ¬ Up listed 8) : RegM V P Sb n j k G A a4 p6 yc (listed.setIfInBounds 8 true) (w.alloc (.cells #[.int .i64 0, .int .i64 0, .string ⟨#[]⟩, .slice none 0 0, .slice none 0 0, .slice none 0 0] 26)) s0 s1 s2 s3 s4 s5 s6 s7 (.pointer (some ⟨w.heap.size, 0, none⟩)) s9 :=
  { size := by rw [Array.size_setIfInBounds]; exact H.size
    low := H.low.alloc H.low.size _
    f2 := fun h => H.f2 (h.set_ne (by decide))
    b8 := fun _ => ⟨w.heap.size, rfl, H.low.size, fun _ => Blk.new w _ _, fun u => absurd (H.o10 (u.set_ne (by decide))).1 hno⟩
    b9 := fun h => (H.b9 (h.set_ne (by decide))).keep (fun a _ ha => Below.heap_alloc w _ a ha) Up.more (fun u => u.set_ne (by decide))
    ne := fun _ h2 => by obtain ⟨a, e, _, hl⟩ := (H.b9 (h2.set_ne (by decide))).lt; rw [e]; intro e2; simp at e2 <;> omega
    o10 := fun h => let ⟨h1, h2⟩ := H.o10 (h.set_ne (by decide)); ⟨h1.more, h2.more⟩
    o11 := fun h => let ⟨h1, h2⟩ := H.o11 (h.set_ne (by decide)); ⟨h1.more, h2.more⟩
    f0 := fun h => H.f0 (h.set_ne (by decide))
    f1 := fun h => H.f1 (h.set_ne (by decide))
    f3 := fun h => H.f3 (h.set_ne (by decide))
    f4 := fun h => H.f4 (h.set_ne (by decide))
    f5 := fun h => H.f5 (h.set_ne (by decide))
    f6 := fun h => H.f6 (h.set_ne (by decide))
    f7 := fun h => H.f7 (h.set_ne (by decide)) }

theorem RegM.s9 {V : World} {P : Nat → Prop} {Sb n j : Nat} {k : ByteArray} {G : JV} {A a4 p6 yc : Value} {listed : Array Bool} {w : World} {s0 s1 s2 s3 s4 s5 s6 s7 s8 s9 : Value} (H : RegM V P Sb n j k G A a4 p6 yc listed w s0 s1 s2 s3 s4 s5 s6 s7 s8 s9) (hno : ¬ Up listed 9) : RegM V P Sb n j k G A a4 p6 yc (listed.setIfInBounds 9 true) (w.alloc (.cells #[.int .i64 0, .int .i64 0, .string ⟨#[]⟩, .slice none 0 0, .slice none 0 0, .slice none 0 0] 26)) s0 s1 s2 s3 s4 s5 s6 s7 s8 (.pointer (some ⟨w.heap.size, 0, none⟩)) :=
  { size := by rw [Array.size_setIfInBounds]; exact H.size
    low := H.low.alloc H.low.size _
    f2 := fun h => H.f2 (h.set_ne (by decide))
    b8 := fun h => (H.b8 (h.set_ne (by decide))).keep (fun a _ ha => Below.heap_alloc w _ a ha) Up.more (fun u => u.set_ne (by decide))
    b9 := fun _ => ⟨w.heap.size, rfl, H.low.size, fun _ => Blk.new w _ _, fun u => absurd (H.o11 (u.set_ne (by decide))).1 hno⟩
    ne := fun h _ => by obtain ⟨a, e, _, hl⟩ := (H.b8 (h.set_ne (by decide))).lt; rw [e]; intro e2; simp at e2 <;> omega
    o10 := fun h => let ⟨h1, h2⟩ := H.o10 (h.set_ne (by decide)); ⟨h1.more, h2.more⟩
    o11 := fun h => let ⟨h1, h2⟩ := H.o11 (h.set_ne (by decide)); ⟨h1.more, h2.more⟩
    f0 := fun h => H.f0 (h.set_ne (by decide))
    f1 := fun h => H.f1 (h.set_ne (by decide))
    f3 := fun h => H.f3 (h.set_ne (by decide))
    f4 := fun h => H.f4 (h.set_ne (by decide))
    f5 := fun h => H.f5 (h.set_ne (by decide))
    f6 := fun h => H.f6 (h.set_ne (by decide))
    f7 := fun h => H.f7 (h.set_ne (by decide)) }

theorem RegM.s10 {V : World} {P : Nat → Prop} {Sb n j : Nat} {k : ByteArray} {G : JV} {A a4 p6 yc : Value} {listed : Array Bool} {w : World} {s0 s1 s2 s3 s4 s5 s6 s7 s8 s9 : Value} {w2 : World} {a : Nat} {cells : Array Value} (H : RegM V P Sb n j k G A a4 p6 yc listed w s0 s1 s2 s3 s4 s5 s6 s7 s8 s9) (hno : ¬ Up listed 10) (hw1 : Up listed 8) (hw2 : Up listed 2) (hx : s2 = .agg cells) (hs : s8 = .pointer (some ⟨a, 0, none⟩)) (hk : Blk w2 a 26 cells) (ho : Only (· = a) w w2) (hl : V.heap.size ≤ a) : RegM V P Sb n j k G A a4 p6 yc (listed.setIfInBounds 10 true) w2 s0 s1 s2 s3 s4 s5 s6 s7 s8 s9 :=
  { size := by rw [Array.size_setIfInBounds]; exact H.size
    low := H.low.trans (ho.below (by intro k hk; omega) H.low.size)
    f2 := fun h => H.f2 (h.set_ne (by decide))
    b8 := fun _ => ⟨a, hs, hl, fun u => absurd (Up.self (by rw [H.size]; decide)) u, fun _ => ⟨cells, hx, hk⟩⟩
    b9 := fun h => (H.b9 (h.set_ne (by decide))).keep (fun b e hb => ho.block b hb (by rintro rfl; exact H.ne hw1 (h.set_ne (by decide)) (hs.trans e.symm))) Up.more (fun u => u.set_ne (by decide))
    ne := fun h h2 => H.ne (h.set_ne (by decide)) (h2.set_ne (by decide))
    o10 := fun _ => ⟨hw1.more, hw2.more⟩
    o11 := fun h => let ⟨h1, h2⟩ := H.o11 (h.set_ne (by decide)); ⟨h1.more, h2.more⟩
    f0 := fun h => H.f0 (h.set_ne (by decide))
    f1 := fun h => H.f1 (h.set_ne (by decide))
    f3 := fun h => H.f3 (h.set_ne (by decide))
    f4 := fun h => H.f4 (h.set_ne (by decide))
    f5 := fun h => H.f5 (h.set_ne (by decide))
    f6 := fun h => H.f6 (h.set_ne (by decide))
    f7 := fun h => H.f7 (h.set_ne (by decide)) }

theorem RegM.s11 {V : World} {P : Nat → Prop} {Sb n j : Nat} {k : ByteArray} {G : JV} {A a4 p6 yc : Value} {listed : Array Bool} {w : World} {s0 s1 s2 s3 s4 s5 s6 s7 s8 s9 : Value} {w2 : World} {a : Nat} {cells : Array Value} (H : RegM V P Sb n j k G A a4 p6 yc listed w s0 s1 s2 s3 s4 s5 s6 s7 s8 s9) (hno : ¬ Up listed 11) (hw1 : Up listed 9) (hw2 : Up listed 7) (hx : s7 = .agg cells) (hs : s9 = .pointer (some ⟨a, 0, none⟩)) (hk : Blk w2 a 26 cells) (ho : Only (· = a) w w2) (hl : V.heap.size ≤ a) : RegM V P Sb n j k G A a4 p6 yc (listed.setIfInBounds 11 true) w2 s0 s1 s2 s3 s4 s5 s6 s7 s8 s9 :=
  { size := by rw [Array.size_setIfInBounds]; exact H.size
    low := H.low.trans (ho.below (by intro k hk; omega) H.low.size)
    f2 := fun h => H.f2 (h.set_ne (by decide))
    b8 := fun h => (H.b8 (h.set_ne (by decide))).keep (fun b e hb => ho.block b hb (by rintro rfl; exact H.ne (h.set_ne (by decide)) hw1 (e.trans hs.symm))) Up.more (fun u => u.set_ne (by decide))
    b9 := fun _ => ⟨a, hs, hl, fun u => absurd (Up.self (by rw [H.size]; decide)) u, fun _ => ⟨cells, hx, hk⟩⟩
    ne := fun h h2 => H.ne (h.set_ne (by decide)) (h2.set_ne (by decide))
    o10 := fun h => let ⟨h1, h2⟩ := H.o10 (h.set_ne (by decide)); ⟨h1.more, h2.more⟩
    o11 := fun _ => ⟨hw1.more, hw2.more⟩
    f0 := fun h => H.f0 (h.set_ne (by decide))
    f1 := fun h => H.f1 (h.set_ne (by decide))
    f3 := fun h => H.f3 (h.set_ne (by decide))
    f4 := fun h => H.f4 (h.set_ne (by decide))
    f5 := fun h => H.f5 (h.set_ne (by decide))
    f6 := fun h => H.f6 (h.set_ne (by decide))
    f7 := fun h => H.f7 (h.set_ne (by decide)) }
end Go.Proofs.YtmkdkcbkgngfdaaDoor
