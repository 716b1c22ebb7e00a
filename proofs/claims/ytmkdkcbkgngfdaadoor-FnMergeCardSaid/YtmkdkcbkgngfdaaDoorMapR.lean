/- mapFromGo's loop: the region of its two appends and two stores, by an invariant (printed by mkmapr.py). -/
import Derived.Test.YtmkdkcbkgngfdaaDoorMapW
import Derived.Test.YtmkdkcbkgngfdaaDoorInv
namespace Go.Proofs.YtmkdkcbkgngfdaaDoor
open Go.RowKit Go.Maps Go.Sort
set_option linter.unusedVariables false

theorem Up.self {listed : Array Bool} {i : Nat} (h : i < listed.size) : Up (listed.setIfInBounds i true) i := by
  unfold Up
  rw [Array.getD_eq_getD_getElem?]
  simp [h]

/-- Ahead of the second append: the block of the answer, the block of what was read, the row of values. -/
def Early (V : World) (g t S j : Nat) (kv vv : Value) (vcs : List Value) (c0 c1 c2 c3 c4 c5 : Value) (w : World) : Prop :=
  Blk w g 26 #[.int .i64 6, .int .i64 0, .string ⟨#[]⟩, .slice none 0 0, kv, vv] ∧ Blk w t 26 #[c0, c1, c2, c3, c4, c5] ∧ w.ownsRow S 26 6 vv j vcs ∧ V.heap.size ≤ w.heap.size

/-- Behind the first append. -/
def StB (V : World) (S j : Nat) (kv : Value) (k : ByteArray) (ksT : List Value) (w : World) (kv' : Value) : Prop :=
  ∃ Ya Yb, Below V.heap.size V Ya ∧ Ya.grownBy Yb kv.ownBlock ∧ (kv'.ownBlock = kv.ownBlock ∨ kv'.ownBlock = some Ya.heap.size) ∧ Yb.ownsRow S 9 1 kv' (j + 1) (ksT ++ [.string k]) ∧ Below Yb.heap.size Yb w

/-- Behind the second append. -/
def StC (V : World) (S j : Nat) (kv vv : Value) (k : ByteArray) (ksT vcs : List Value) (c0 c1 c2 c3 c4 c5 : Value) (Yd : World) (kv' vv' : Value) : Prop :=
  ∃ Yc, StB V S j kv k ksT Yc kv' ∧ Yc.grownBy Yd vv.ownBlock ∧ (vv'.ownBlock = vv.ownBlock ∨ vv'.ownBlock = some Yc.heap.size) ∧ Yd.ownsRow S 26 6 vv' (j + 1) (vcs ++ [c0, c1, c2, c3, c4, c5])

def Tail (listed : Array Bool) (w Yd : World) (g : Nat) (kv' vv' : Value) : Prop :=
  (¬ Up listed 11 → w = Yd) ∧ (Up listed 11 → ¬ Up listed 13 → w = Yd.setCell ⟨g, 4, none⟩ kv') ∧ (Up listed 13 → w = (Yd.setCell ⟨g, 4, none⟩ kv').setCell ⟨g, 5, none⟩ vv')

theorem Tail.keep {listed : Array Bool} {w Yd : World} {g i : Nat} {kv' vv' : Value} (h : Tail listed w Yd g kv' vv') (h1 : ¬ 11 = i) (h2 : ¬ 13 = i) : Tail (listed.setIfInBounds i true) w Yd g kv' vv' :=
  ⟨fun a => h.1 (fun u => a u.more), fun a b => h.2.1 (a.set_ne h1) (fun u => b u.more), fun a => h.2.2 (a.set_ne h2)⟩

/-- What the region rests on. -/
structure Ctx8 (V : World) (g t S : Nat) (kv vv : Value) : Prop where
  gk : some g ≠ kv.ownBlock
  gv : some g ≠ vv.ownBlock
  tk : some t ≠ kv.ownBlock
  kl : ∀ b, kv.ownBlock = some b → b < V.heap.size
  vl : ∀ b, vv.ownBlock = some b → b < V.heap.size
  hvk : vv.ownBlock = none ∨ vv.ownBlock ≠ kv.ownBlock

structure Reg8 (V : World) (g t S j : Nat) (kv vv : Value) (k : ByteArray) (ksT vcs : List Value) (c0 c1 c2 c3 c4 c5 : Value) (listed : Array Bool) (w : World) (s28 s29 s30 s31 s32 s33 s34 s35 s36 s37 s38 s39 : Value) : Prop where
  size : listed.size = 14
  a : ¬ Up listed 4 → Below V.heap.size V w ∧ w.ownsRow S 9 1 kv j ksT
  e : ¬ Up listed 9 → Early V g t S j kv vv vcs c0 c1 c2 c3 c4 c5 w
  b : Up listed 4 → ¬ Up listed 9 → StB V S j kv k ksT w s32
  c : Up listed 9 → ∃ Yd, StC V S j kv vv k ksT vcs c0 c1 c2 c3 c4 c5 Yd s32 s37 ∧ Blk Yd g 26 #[.int .i64 6, .int .i64 0, .string ⟨#[]⟩, .slice none 0 0, kv, vv] ∧ Tail listed w Yd g s32 s37
  f0 : Up listed 0 → s28 = .pointer (some ⟨g, 4, none⟩)
  f1 : Up listed 1 → s29 = kv
  f2 : Up listed 2 → s30 = .string k
  f3 : Up listed 3 → ∃ b, s31 = .slice (some ⟨b, 0, none⟩) 1 1 ∧ V.heap.size ≤ b ∧ (¬ Up listed 4 → Blk w b 9 #[.string k])
  f5 : Up listed 5 → s33 = .pointer (some ⟨g, 5, none⟩)
  f6 : Up listed 6 → s34 = vv
  f7 : Up listed 7 → s35 = .agg #[c0, c1, c2, c3, c4, c5]
  f8 : Up listed 8 → ∃ b, s36 = .slice (some ⟨b, 0, none⟩) 1 1 ∧ V.heap.size ≤ b ∧ (¬ Up listed 9 → Blk w b 26 #[c0, c1, c2, c3, c4, c5])
  f10 : Up listed 10 → s38 = .pointer (some ⟨g, 4, none⟩)
  f12 : Up listed 12 → s39 = .pointer (some ⟨g, 5, none⟩)
  o4 : Up listed 4 → Up listed 1 ∧ Up listed 3
  o8 : Up listed 8 → Up listed 7
  o9 : Up listed 9 → Up listed 4 ∧ Up listed 6 ∧ Up listed 8
  o11 : Up listed 11 → Up listed 9
  o13 : Up listed 13 → Up listed 11

theorem Reg8.start (V : World) (g t S j : Nat) (kv vv : Value) (k : ByteArray) (ksT vcs : List Value) (c0 c1 c2 c3 c4 c5 : Value) (s28 s29 s30 s31 s32 s33 s34 s35 s36 s37 s38 s39 : Value) (ha : Below V.heap.size V V.drew ∧ V.drew.ownsRow S 9 1 kv j ksT) (he : Early V g t S j kv vv vcs c0 c1 c2 c3 c4 c5 V.drew) : Reg8 V g t S j kv vv k ksT vcs c0 c1 c2 c3 c4 c5 (Array.replicate 14 false) V.drew s28 s29 s30 s31 s32 s33 s34 s35 s36 s37 s38 s39 :=
  { size := by simp
    a := fun _ => ha
    e := fun _ => he
    b := fun h => h.start.elim
    c := fun h => h.start.elim
    f0 := fun h => h.start.elim
    f1 := fun h => h.start.elim
    f2 := fun h => h.start.elim
    f3 := fun h => h.start.elim
    f5 := fun h => h.start.elim
    f6 := fun h => h.start.elim
    f7 := fun h => h.start.elim
    f8 := fun h => h.start.elim
    f10 := fun h => h.start.elim
    f12 := fun h => h.start.elim
    o4 := fun h => h.start.elim
    o8 := fun h => h.start.elim
    o9 := fun h => h.start.elim
    o11 := fun h => h.start.elim
    o13 := fun h => h.start.elim }

theorem Reg8.s0 {V : World} {g t S j : Nat} {kv vv : Value} {k : ByteArray} {ksT vcs : List Value} {c0 c1 c2 c3 c4 c5 : Value} {listed : Array Bool} {w : World} {s28 s29 s30 s31 s32 s33 s34 s35 s36 s37 s38 s39 : Value} (H : Reg8 V g t S j kv vv k ksT vcs c0 c1 c2 c3 c4 c5 listed w s28 s29 s30 s31 s32 s33 s34 s35 s36 s37 s38 s39) : Reg8 V g t S j kv vv k ksT vcs c0 c1 c2 c3 c4 c5 (listed.setIfInBounds 0 true) w (.pointer (some ⟨g, 4, none⟩)) s29 s30 s31 s32 s33 s34 s35 s36 s37 s38 s39 :=
  { size := by rw [Array.size_setIfInBounds]; exact H.size
    a := fun h => H.a (fun u => h u.more)
    e := fun h => H.e (fun u => h u.more)
    b := fun h h2 => H.b (h.set_ne (by decide)) (fun u => h2 u.more)
    c := fun h => let ⟨Yd, h1, h2, h3⟩ := H.c (h.set_ne (by decide)); ⟨Yd, h1, h2, h3.keep (by decide) (by decide)⟩
    f0 := fun _ => rfl
    f1 := fun h => H.f1 (h.set_ne (by decide))
    f2 := fun h => H.f2 (h.set_ne (by decide))
    f3 := fun h => let ⟨b, h1, h2, h3⟩ := H.f3 (h.set_ne (by decide)); ⟨b, h1, h2, fun h4 => h3 (fun u => h4 u.more)⟩
    f5 := fun h => H.f5 (h.set_ne (by decide))
    f6 := fun h => H.f6 (h.set_ne (by decide))
    f7 := fun h => H.f7 (h.set_ne (by decide))
    f8 := fun h => let ⟨b, h1, h2, h3⟩ := H.f8 (h.set_ne (by decide)); ⟨b, h1, h2, fun h4 => h3 (fun u => h4 u.more)⟩
    f10 := fun h => H.f10 (h.set_ne (by decide))
    f12 := fun h => H.f12 (h.set_ne (by decide))
    o4 := fun h => let ⟨h1, h2⟩ := H.o4 (h.set_ne (by decide)); ⟨h1.more, h2.more⟩
    o8 := fun h => (H.o8 (h.set_ne (by decide))).more
    o9 := fun h => let ⟨h1, h2, h3⟩ := H.o9 (h.set_ne (by decide)); ⟨h1.more, h2.more, h3.more⟩
    o11 := fun h => (H.o11 (h.set_ne (by decide))).more
    o13 := fun h => (H.o13 (h.set_ne (by decide))).more }

theorem Reg8.s1 {V : World} {g t S j : Nat} {kv vv : Value} {k : ByteArray} {ksT vcs : List Value} {c0 c1 c2 c3 c4 c5 : Value} {listed : Array Bool} {w : World} {s28 s29 s30 s31 s32 s33 s34 s35 s36 s37 s38 s39 : Value} (H : Reg8 V g t S j kv vv k ksT vcs c0 c1 c2 c3 c4 c5 listed w s28 s29 s30 s31 s32 s33 s34 s35 s36 s37 s38 s39) : Reg8 V g t S j kv vv k ksT vcs c0 c1 c2 c3 c4 c5 (listed.setIfInBounds 1 true) w s28 (kv) s30 s31 s32 s33 s34 s35 s36 s37 s38 s39 :=
  { size := by rw [Array.size_setIfInBounds]; exact H.size
    a := fun h => H.a (fun u => h u.more)
    e := fun h => H.e (fun u => h u.more)
    b := fun h h2 => H.b (h.set_ne (by decide)) (fun u => h2 u.more)
    c := fun h => let ⟨Yd, h1, h2, h3⟩ := H.c (h.set_ne (by decide)); ⟨Yd, h1, h2, h3.keep (by decide) (by decide)⟩
    f0 := fun h => H.f0 (h.set_ne (by decide))
    f1 := fun _ => rfl
    f2 := fun h => H.f2 (h.set_ne (by decide))
    f3 := fun h => let ⟨b, h1, h2, h3⟩ := H.f3 (h.set_ne (by decide)); ⟨b, h1, h2, fun h4 => h3 (fun u => h4 u.more)⟩
    f5 := fun h => H.f5 (h.set_ne (by decide))
    f6 := fun h => H.f6 (h.set_ne (by decide))
    f7 := fun h => H.f7 (h.set_ne (by decide))
    f8 := fun h => let ⟨b, h1, h2, h3⟩ := H.f8 (h.set_ne (by decide)); ⟨b, h1, h2, fun h4 => h3 (fun u => h4 u.more)⟩
    f10 := fun h => H.f10 (h.set_ne (by decide))
    f12 := fun h => H.f12 (h.set_ne (by decide))
    o4 := fun h => let ⟨h1, h2⟩ := H.o4 (h.set_ne (by decide)); ⟨h1.more, h2.more⟩
    o8 := fun h => (H.o8 (h.set_ne (by decide))).more
    o9 := fun h => let ⟨h1, h2, h3⟩ := H.o9 (h.set_ne (by decide)); ⟨h1.more, h2.more, h3.more⟩
    o11 := fun h => (H.o11 (h.set_ne (by decide))).more
    o13 := fun h => (H.o13 (h.set_ne (by decide))).more }

theorem Reg8.s2 {V : World} {g t S j : Nat} {kv vv : Value} {k : ByteArray} {ksT vcs : List Value} {c0 c1 c2 c3 c4 c5 : Value} {listed : Array Bool} {w : World} {s28 s29 s30 s31 s32 s33 s34 s35 s36 s37 s38 s39 : Value} (H : Reg8 V g t S j kv vv k ksT vcs c0 c1 c2 c3 c4 c5 listed w s28 s29 s30 s31 s32 s33 s34 s35 s36 s37 s38 s39) : Reg8 V g t S j kv vv k ksT vcs c0 c1 c2 c3 c4 c5 (listed.setIfInBounds 2 true) w s28 s29 (.string k) s31 s32 s33 s34 s35 s36 s37 s38 s39 :=
  { size := by rw [Array.size_setIfInBounds]; exact H.size
    a := fun h => H.a (fun u => h u.more)
    e := fun h => H.e (fun u => h u.more)
    b := fun h h2 => H.b (h.set_ne (by decide)) (fun u => h2 u.more)
    c := fun h => let ⟨Yd, h1, h2, h3⟩ := H.c (h.set_ne (by decide)); ⟨Yd, h1, h2, h3.keep (by decide) (by decide)⟩
    f0 := fun h => H.f0 (h.set_ne (by decide))
    f1 := fun h => H.f1 (h.set_ne (by decide))
    f2 := fun _ => rfl
    f3 := fun h => let ⟨b, h1, h2, h3⟩ := H.f3 (h.set_ne (by decide)); ⟨b, h1, h2, fun h4 => h3 (fun u => h4 u.more)⟩
    f5 := fun h => H.f5 (h.set_ne (by decide))
    f6 := fun h => H.f6 (h.set_ne (by decide))
    f7 := fun h => H.f7 (h.set_ne (by decide))
    f8 := fun h => let ⟨b, h1, h2, h3⟩ := H.f8 (h.set_ne (by decide)); ⟨b, h1, h2, fun h4 => h3 (fun u => h4 u.more)⟩
    f10 := fun h => H.f10 (h.set_ne (by decide))
    f12 := fun h => H.f12 (h.set_ne (by decide))
    o4 := fun h => let ⟨h1, h2⟩ := H.o4 (h.set_ne (by decide)); ⟨h1.more, h2.more⟩
    o8 := fun h => (H.o8 (h.set_ne (by decide))).more
    o9 := fun h => let ⟨h1, h2, h3⟩ := H.o9 (h.set_ne (by decide)); ⟨h1.more, h2.more, h3.more⟩
    o11 := fun h => (H.o11 (h.set_ne (by decide))).more
    o13 := fun h => (H.o13 (h.set_ne (by decide))).more }

theorem Reg8.s5 {V : World} {g t S j : Nat} {kv vv : Value} {k : ByteArray} {ksT vcs : List Value} {c0 c1 c2 c3 c4 c5 : Value} {listed : Array Bool} {w : World} {s28 s29 s30 s31 s32 s33 s34 s35 s36 s37 s38 s39 : Value} (H : Reg8 V g t S j kv vv k ksT vcs c0 c1 c2 c3 c4 c5 listed w s28 s29 s30 s31 s32 s33 s34 s35 s36 s37 s38 s39) : Reg8 V g t S j kv vv k ksT vcs c0 c1 c2 c3 c4 c5 (listed.setIfInBounds 5 true) w s28 s29 s30 s31 s32 (.pointer (some ⟨g, 5, none⟩)) s34 s35 s36 s37 s38 s39 :=
  { size := by rw [Array.size_setIfInBounds]; exact H.size
    a := fun h => H.a (fun u => h u.more)
    e := fun h => H.e (fun u => h u.more)
    b := fun h h2 => H.b (h.set_ne (by decide)) (fun u => h2 u.more)
    c := fun h => let ⟨Yd, h1, h2, h3⟩ := H.c (h.set_ne (by decide)); ⟨Yd, h1, h2, h3.keep (by decide) (by decide)⟩
    f0 := fun h => H.f0 (h.set_ne (by decide))
    f1 := fun h => H.f1 (h.set_ne (by decide))
    f2 := fun h => H.f2 (h.set_ne (by decide))
    f3 := fun h => let ⟨b, h1, h2, h3⟩ := H.f3 (h.set_ne (by decide)); ⟨b, h1, h2, fun h4 => h3 (fun u => h4 u.more)⟩
    f5 := fun _ => rfl
    f6 := fun h => H.f6 (h.set_ne (by decide))
    f7 := fun h => H.f7 (h.set_ne (by decide))
    f8 := fun h => let ⟨b, h1, h2, h3⟩ := H.f8 (h.set_ne (by decide)); ⟨b, h1, h2, fun h4 => h3 (fun u => h4 u.more)⟩
    f10 := fun h => H.f10 (h.set_ne (by decide))
    f12 := fun h => H.f12 (h.set_ne (by decide))
    o4 := fun h => let ⟨h1, h2⟩ := H.o4 (h.set_ne (by decide)); ⟨h1.more, h2.more⟩
    o8 := fun h => (H.o8 (h.set_ne (by decide))).more
    o9 := fun h => let ⟨h1, h2, h3⟩ := H.o9 (h.set_ne (by decide)); ⟨h1.more, h2.more, h3.more⟩
    o11 := fun h => (H.o11 (h.set_ne (by decide))).more
    o13 := fun h => (H.o13 (h.set_ne (by decide))).more }

theorem Reg8.s6 {V : World} {g t S j : Nat} {kv vv : Value} {k : ByteArray} {ksT vcs : List Value} {c0 c1 c2 c3 c4 c5 : Value} {listed : Array Bool} {w : World} {s28 s29 s30 s31 s32 s33 s34 s35 s36 s37 s38 s39 : Value} (H : Reg8 V g t S j kv vv k ksT vcs c0 c1 c2 c3 c4 c5 listed w s28 s29 s30 s31 s32 s33 s34 s35 s36 s37 s38 s39) : Reg8 V g t S j kv vv k ksT vcs c0 c1 c2 c3 c4 c5 (listed.setIfInBounds 6 true) w s28 s29 s30 s31 s32 s33 (vv) s35 s36 s37 s38 s39 :=
  { size := by rw [Array.size_setIfInBounds]; exact H.size
    a := fun h => H.a (fun u => h u.more)
    e := fun h => H.e (fun u => h u.more)
    b := fun h h2 => H.b (h.set_ne (by decide)) (fun u => h2 u.more)
    c := fun h => let ⟨Yd, h1, h2, h3⟩ := H.c (h.set_ne (by decide)); ⟨Yd, h1, h2, h3.keep (by decide) (by decide)⟩
    f0 := fun h => H.f0 (h.set_ne (by decide))
    f1 := fun h => H.f1 (h.set_ne (by decide))
    f2 := fun h => H.f2 (h.set_ne (by decide))
    f3 := fun h => let ⟨b, h1, h2, h3⟩ := H.f3 (h.set_ne (by decide)); ⟨b, h1, h2, fun h4 => h3 (fun u => h4 u.more)⟩
    f5 := fun h => H.f5 (h.set_ne (by decide))
    f6 := fun _ => rfl
    f7 := fun h => H.f7 (h.set_ne (by decide))
    f8 := fun h => let ⟨b, h1, h2, h3⟩ := H.f8 (h.set_ne (by decide)); ⟨b, h1, h2, fun h4 => h3 (fun u => h4 u.more)⟩
    f10 := fun h => H.f10 (h.set_ne (by decide))
    f12 := fun h => H.f12 (h.set_ne (by decide))
    o4 := fun h => let ⟨h1, h2⟩ := H.o4 (h.set_ne (by decide)); ⟨h1.more, h2.more⟩
    o8 := fun h => (H.o8 (h.set_ne (by decide))).more
    o9 := fun h => let ⟨h1, h2, h3⟩ := H.o9 (h.set_ne (by decide)); ⟨h1.more, h2.more, h3.more⟩
    o11 := fun h => (H.o11 (h.set_ne (by decide))).more
    o13 := fun h => (H.o13 (h.set_ne (by decide))).more }

theorem Reg8.s7 {V : World} {g t S j : Nat} {kv vv : Value} {k : ByteArray} {ksT vcs : List Value} {c0 c1 c2 c3 c4 c5 : Value} {listed : Array Bool} {w : World} {s28 s29 s30 s31 s32 s33 s34 s35 s36 s37 s38 s39 : Value} (H : Reg8 V g t S j kv vv k ksT vcs c0 c1 c2 c3 c4 c5 listed w s28 s29 s30 s31 s32 s33 s34 s35 s36 s37 s38 s39) : Reg8 V g t S j kv vv k ksT vcs c0 c1 c2 c3 c4 c5 (listed.setIfInBounds 7 true) w s28 s29 s30 s31 s32 s33 s34 (.agg #[c0, c1, c2, c3, c4, c5]) s36 s37 s38 s39 :=
  { size := by rw [Array.size_setIfInBounds]; exact H.size
    a := fun h => H.a (fun u => h u.more)
    e := fun h => H.e (fun u => h u.more)
    b := fun h h2 => H.b (h.set_ne (by decide)) (fun u => h2 u.more)
    c := fun h => let ⟨Yd, h1, h2, h3⟩ := H.c (h.set_ne (by decide)); ⟨Yd, h1, h2, h3.keep (by decide) (by decide)⟩
    f0 := fun h => H.f0 (h.set_ne (by decide))
    f1 := fun h => H.f1 (h.set_ne (by decide))
    f2 := fun h => H.f2 (h.set_ne (by decide))
    f3 := fun h => let ⟨b, h1, h2, h3⟩ := H.f3 (h.set_ne (by decide)); ⟨b, h1, h2, fun h4 => h3 (fun u => h4 u.more)⟩
    f5 := fun h => H.f5 (h.set_ne (by decide))
    f6 := fun h => H.f6 (h.set_ne (by decide))
    f7 := fun _ => rfl
    f8 := fun h => let ⟨b, h1, h2, h3⟩ := H.f8 (h.set_ne (by decide)); ⟨b, h1, h2, fun h4 => h3 (fun u => h4 u.more)⟩
    f10 := fun h => H.f10 (h.set_ne (by decide))
    f12 := fun h => H.f12 (h.set_ne (by decide))
    o4 := fun h => let ⟨h1, h2⟩ := H.o4 (h.set_ne (by decide)); ⟨h1.more, h2.more⟩
    o8 := fun h => (H.o8 (h.set_ne (by decide))).more
    o9 := fun h => let ⟨h1, h2, h3⟩ := H.o9 (h.set_ne (by decide)); ⟨h1.more, h2.more, h3.more⟩
    o11 := fun h => (H.o11 (h.set_ne (by decide))).more
    o13 := fun h => (H.o13 (h.set_ne (by decide))).more }

theorem Reg8.s10 {V : World} {g t S j : Nat} {kv vv : Value} {k : ByteArray} {ksT vcs : List Value} {c0 c1 c2 c3 c4 c5 : Value} {listed : Array Bool} {w : World} {s28 s29 s30 s31 s32 s33 s34 s35 s36 s37 s38 s39 : Value} (H : Reg8 V g t S j kv vv k ksT vcs c0 c1 c2 c3 c4 c5 listed w s28 s29 s30 s31 s32 s33 s34 s35 s36 s37 s38 s39) : Reg8 V g t S j kv vv k ksT vcs c0 c1 c2 c3 c4 c5 (listed.setIfInBounds 10 true) w s28 s29 s30 s31 s32 s33 s34 s35 s36 s37 (.pointer (some ⟨g, 4, none⟩)) s39 :=
  { size := by rw [Array.size_setIfInBounds]; exact H.size
    a := fun h => H.a (fun u => h u.more)
    e := fun h => H.e (fun u => h u.more)
    b := fun h h2 => H.b (h.set_ne (by decide)) (fun u => h2 u.more)
    c := fun h => let ⟨Yd, h1, h2, h3⟩ := H.c (h.set_ne (by decide)); ⟨Yd, h1, h2, h3.keep (by decide) (by decide)⟩
    f0 := fun h => H.f0 (h.set_ne (by decide))
    f1 := fun h => H.f1 (h.set_ne (by decide))
    f2 := fun h => H.f2 (h.set_ne (by decide))
    f3 := fun h => let ⟨b, h1, h2, h3⟩ := H.f3 (h.set_ne (by decide)); ⟨b, h1, h2, fun h4 => h3 (fun u => h4 u.more)⟩
    f5 := fun h => H.f5 (h.set_ne (by decide))
    f6 := fun h => H.f6 (h.set_ne (by decide))
    f7 := fun h => H.f7 (h.set_ne (by decide))
    f8 := fun h => let ⟨b, h1, h2, h3⟩ := H.f8 (h.set_ne (by decide)); ⟨b, h1, h2, fun h4 => h3 (fun u => h4 u.more)⟩
    f10 := fun _ => rfl
    f12 := fun h => H.f12 (h.set_ne (by decide))
    o4 := fun h => let ⟨h1, h2⟩ := H.o4 (h.set_ne (by decide)); ⟨h1.more, h2.more⟩
    o8 := fun h => (H.o8 (h.set_ne (by decide))).more
    o9 := fun h => let ⟨h1, h2, h3⟩ := H.o9 (h.set_ne (by decide)); ⟨h1.more, h2.more, h3.more⟩
    o11 := fun h => (H.o11 (h.set_ne (by decide))).more
    o13 := fun h => (H.o13 (h.set_ne (by decide))).more }

theorem Reg8.s12 {V : World} {g t S j : Nat} {kv vv : Value} {k : ByteArray} {ksT vcs : List Value} {c0 c1 c2 c3 c4 c5 : Value} {listed : Array Bool} {w : World} {s28 s29 s30 s31 s32 s33 s34 s35 s36 s37 s38 s39 : Value} (H : Reg8 V g t S j kv vv k ksT vcs c0 c1 c2 c3 c4 c5 listed w s28 s29 s30 s31 s32 s33 s34 s35 s36 s37 s38 s39) : Reg8 V g t S j kv vv k ksT vcs c0 c1 c2 c3 c4 c5 (listed.setIfInBounds 12 true) w s28 s29 s30 s31 s32 s33 s34 s35 s36 s37 s38 (.pointer (some ⟨g, 5, none⟩)) :=
  { size := by rw [Array.size_setIfInBounds]; exact H.size
    a := fun h => H.a (fun u => h u.more)
    e := fun h => H.e (fun u => h u.more)
    b := fun h h2 => H.b (h.set_ne (by decide)) (fun u => h2 u.more)
    c := fun h => let ⟨Yd, h1, h2, h3⟩ := H.c (h.set_ne (by decide)); ⟨Yd, h1, h2, h3.keep (by decide) (by decide)⟩
    f0 := fun h => H.f0 (h.set_ne (by decide))
    f1 := fun h => H.f1 (h.set_ne (by decide))
    f2 := fun h => H.f2 (h.set_ne (by decide))
    f3 := fun h => let ⟨b, h1, h2, h3⟩ := H.f3 (h.set_ne (by decide)); ⟨b, h1, h2, fun h4 => h3 (fun u => h4 u.more)⟩
    f5 := fun h => H.f5 (h.set_ne (by decide))
    f6 := fun h => H.f6 (h.set_ne (by decide))
    f7 := fun h => H.f7 (h.set_ne (by decide))
    f8 := fun h => let ⟨b, h1, h2, h3⟩ := H.f8 (h.set_ne (by decide)); ⟨b, h1, h2, fun h4 => h3 (fun u => h4 u.more)⟩
    f10 := fun h => H.f10 (h.set_ne (by decide))
    f12 := fun _ => rfl
    o4 := fun h => let ⟨h1, h2⟩ := H.o4 (h.set_ne (by decide)); ⟨h1.more, h2.more⟩
    o8 := fun h => (H.o8 (h.set_ne (by decide))).more
    o9 := fun h => let ⟨h1, h2, h3⟩ := H.o9 (h.set_ne (by decide)); ⟨h1.more, h2.more, h3.more⟩
    o11 := fun h => (H.o11 (h.set_ne (by decide))).more
    o13 := fun h => (H.o13 (h.set_ne (by decide))).more }

theorem Reg8.s3 {V : World} {g t S j : Nat} {kv vv : Value} {k : ByteArray} {ksT vcs : List Value} {c0 c1 c2 c3 c4 c5 : Value} {listed : Array Bool} {w : World} {s28 s29 s30 s31 s32 s33 s34 s35 s36 s37 s38 s39 : Value} (H : Reg8 V g t S j kv vv k ksT vcs c0 c1 c2 c3 c4 c5 listed w s28 s29 s30 s31 s32 s33 s34 s35 s36 s37 s38 s39) (hno9 : ¬ Up listed 9) : Reg8 V g t S j kv vv k ksT vcs c0 c1 c2 c3 c4 c5 (listed.setIfInBounds 3 true) (w.alloc (.cells #[.string k] 9)) s28 s29 s30 (.slice (some ⟨w.heap.size, 0, none⟩) 1 1) s32 s33 s34 s35 s36 s37 s38 s39 :=
  have bA : Below w.heap.size w (w.alloc (.cells #[.string k] 9)) := Below.alloc (Below.refl _ _) (Nat.le_refl _) _
  { size := by rw [Array.size_setIfInBounds]; exact H.size
    a := fun h => let ⟨h1, h2⟩ := H.a (fun u => h u.more); ⟨h1.trans (bA.mono h1.size), h2.alloc _⟩
    e := fun h => let ⟨h1, h2, h3, h4⟩ := H.e (fun u => h u.more); ⟨h1.alloc _, h2.alloc _, h3.alloc _, Nat.le_trans h4 bA.size⟩
    b := fun h h2 => let ⟨Ya, Yb, h1, h3, h4, h5, h6⟩ := H.b (h.set_ne (by decide)) (fun u => h2 u.more); ⟨Ya, Yb, h1, h3, h4, h5, h6.trans (bA.mono h6.size)⟩
    c := fun h => absurd (h.set_ne (by decide)) hno9
    f0 := fun h => H.f0 (h.set_ne (by decide))
    f1 := fun h => H.f1 (h.set_ne (by decide))
    f2 := fun h => H.f2 (h.set_ne (by decide))
    f3 := fun _ => ⟨w.heap.size, rfl, (H.e hno9).2.2.2, fun _ => Blk.new w _ _⟩
    f5 := fun h => H.f5 (h.set_ne (by decide))
    f6 := fun h => H.f6 (h.set_ne (by decide))
    f7 := fun h => H.f7 (h.set_ne (by decide))
    f8 := fun h => let ⟨b, h1, h2, h3⟩ := H.f8 (h.set_ne (by decide)); ⟨b, h1, h2, fun h4 => (h3 (fun u => h4 u.more)).alloc _⟩
    f10 := fun h => H.f10 (h.set_ne (by decide))
    f12 := fun h => H.f12 (h.set_ne (by decide))
    o4 := fun h => let ⟨h1, h2⟩ := H.o4 (h.set_ne (by decide)); ⟨h1.more, h2.more⟩
    o8 := fun h => (H.o8 (h.set_ne (by decide))).more
    o9 := fun h => let ⟨h1, h2, h3⟩ := H.o9 (h.set_ne (by decide)); ⟨h1.more, h2.more, h3.more⟩
    o11 := fun h => (H.o11 (h.set_ne (by decide))).more
    o13 := fun h => (H.o13 (h.set_ne (by decide))).more }

theorem Reg8.s8 {V : World} {g t S j : Nat} {kv vv : Value} {k : ByteArray} {ksT vcs : List Value} {c0 c1 c2 c3 c4 c5 : Value} {listed : Array Bool} {w : World} {s28 s29 s30 s31 s32 s33 s34 s35 s36 s37 s38 s39 : Value} (H : Reg8 V g t S j kv vv k ksT vcs c0 c1 c2 c3 c4 c5 listed w s28 s29 s30 s31 s32 s33 s34 s35 s36 s37 s38 s39) (hno9 : ¬ Up listed 9) (hw : Up listed 7) : Reg8 V g t S j kv vv k ksT vcs c0 c1 c2 c3 c4 c5 (listed.setIfInBounds 8 true) (w.alloc (.cells #[c0, c1, c2, c3, c4, c5] 26)) s28 s29 s30 s31 s32 s33 s34 s35 (.slice (some ⟨w.heap.size, 0, none⟩) 1 1) s37 s38 s39 :=
  have bA : Below w.heap.size w (w.alloc (.cells #[c0, c1, c2, c3, c4, c5] 26)) := Below.alloc (Below.refl _ _) (Nat.le_refl _) _
  { size := by rw [Array.size_setIfInBounds]; exact H.size
    a := fun h => let ⟨h1, h2⟩ := H.a (fun u => h u.more); ⟨h1.trans (bA.mono h1.size), h2.alloc _⟩
    e := fun h => let ⟨h1, h2, h3, h4⟩ := H.e (fun u => h u.more); ⟨h1.alloc _, h2.alloc _, h3.alloc _, Nat.le_trans h4 bA.size⟩
    b := fun h h2 => let ⟨Ya, Yb, h1, h3, h4, h5, h6⟩ := H.b (h.set_ne (by decide)) (fun u => h2 u.more); ⟨Ya, Yb, h1, h3, h4, h5, h6.trans (bA.mono h6.size)⟩
    c := fun h => absurd (h.set_ne (by decide)) hno9
    f0 := fun h => H.f0 (h.set_ne (by decide))
    f1 := fun h => H.f1 (h.set_ne (by decide))
    f2 := fun h => H.f2 (h.set_ne (by decide))
    f3 := fun h => let ⟨b, h1, h2, h3⟩ := H.f3 (h.set_ne (by decide)); ⟨b, h1, h2, fun h4 => (h3 (fun u => h4 u.more)).alloc _⟩
    f5 := fun h => H.f5 (h.set_ne (by decide))
    f6 := fun h => H.f6 (h.set_ne (by decide))
    f7 := fun h => H.f7 (h.set_ne (by decide))
    f8 := fun _ => ⟨w.heap.size, rfl, (H.e hno9).2.2.2, fun _ => Blk.new w _ _⟩
    f10 := fun h => H.f10 (h.set_ne (by decide))
    f12 := fun h => H.f12 (h.set_ne (by decide))
    o4 := fun h => let ⟨h1, h2⟩ := H.o4 (h.set_ne (by decide)); ⟨h1.more, h2.more⟩
    o8 := fun _ => hw.more
    o9 := fun h => let ⟨h1, h2, h3⟩ := H.o9 (h.set_ne (by decide)); ⟨h1.more, h2.more, h3.more⟩
    o11 := fun h => (H.o11 (h.set_ne (by decide))).more
    o13 := fun h => (H.o13 (h.set_ne (by decide))).more }

theorem Reg8.s4 {V : World} {g t S j : Nat} {kv vv : Value} {k : ByteArray} {ksT vcs : List Value} {c0 c1 c2 c3 c4 c5 : Value} {listed : Array Bool} {w : World} {s28 s29 s30 s31 s32 s33 s34 s35 s36 s37 s38 s39 : Value} {w2 : World} {kv2 : Value} (X : Ctx8 V g t S kv vv) (H : Reg8 V g t S j kv vv k ksT vcs c0 c1 c2 c3 c4 c5 listed w s28 s29 s30 s31 s32 s33 s34 s35 s36 s37 s38 s39) (hno4 : ¬ Up listed 4) (hw1 : Up listed 1) (hw3 : Up listed 3) (hg : w.grownBy w2 kv.ownBlock) (hl : kv2.ownBlock = kv.ownBlock ∨ kv2.ownBlock = some w.heap.size) (ho : w2.ownsRow S 9 1 kv2 (j + 1) (ksT ++ [.string k])) : Reg8 V g t S j kv vv k ksT vcs c0 c1 c2 c3 c4 c5 (listed.setIfInBounds 4 true) w2 s28 s29 s30 s31 kv2 s33 s34 s35 s36 s37 s38 s39 :=
  { size := by rw [Array.size_setIfInBounds]; exact H.size
    a := fun h => absurd (Up.self (by rw [H.size]; decide)) h
    e := fun h => let ⟨h1, h2, h3, h4⟩ := H.e (fun u => h u.more); ⟨h1.grown hg X.gk, h2.grown hg X.tk, h3.kept hg X.hvk, Nat.le_trans h4 hg.size⟩
    b := fun _ _ => ⟨w, w2, (H.a hno4).1, hg, hl, ho, Below.refl _ _⟩
    c := fun h => absurd (H.o9 (h.set_ne (by decide))).1 hno4
    f0 := fun h => H.f0 (h.set_ne (by decide))
    f1 := fun h => H.f1 (h.set_ne (by decide))
    f2 := fun h => H.f2 (h.set_ne (by decide))
    f3 := fun h => let ⟨b, h1, h2, h3⟩ := H.f3 (h.set_ne (by decide)); ⟨b, h1, h2, fun h4 => absurd (Up.self (by rw [H.size]; decide)) h4⟩
    f5 := fun h => H.f5 (h.set_ne (by decide))
    f6 := fun h => H.f6 (h.set_ne (by decide))
    f7 := fun h => H.f7 (h.set_ne (by decide))
    f8 := fun h => let ⟨b, h1, h2, h3⟩ := H.f8 (h.set_ne (by decide)); ⟨b, h1, h2, fun h4 => (h3 (fun u => h4 u.more)).grown hg (fun e => by have := X.kl b e.symm; omega)⟩
    f10 := fun h => H.f10 (h.set_ne (by decide))
    f12 := fun h => H.f12 (h.set_ne (by decide))
    o4 := fun _ => ⟨hw1.more, hw3.more⟩
    o8 := fun h => (H.o8 (h.set_ne (by decide))).more
    o9 := fun h => let ⟨h1, h2, h3⟩ := H.o9 (h.set_ne (by decide)); ⟨h1.more, h2.more, h3.more⟩
    o11 := fun h => (H.o11 (h.set_ne (by decide))).more
    o13 := fun h => (H.o13 (h.set_ne (by decide))).more }

theorem Reg8.s9 {V : World} {g t S j : Nat} {kv vv : Value} {k : ByteArray} {ksT vcs : List Value} {c0 c1 c2 c3 c4 c5 : Value} {listed : Array Bool} {w : World} {s28 s29 s30 s31 s32 s33 s34 s35 s36 s37 s38 s39 : Value} {w2 : World} {vv2 : Value} (X : Ctx8 V g t S kv vv) (H : Reg8 V g t S j kv vv k ksT vcs c0 c1 c2 c3 c4 c5 listed w s28 s29 s30 s31 s32 s33 s34 s35 s36 s37 s38 s39) (hno9 : ¬ Up listed 9) (hw4 : Up listed 4) (hw6 : Up listed 6) (hw8 : Up listed 8) (hg : w.grownBy w2 vv.ownBlock) (hl : vv2.ownBlock = vv.ownBlock ∨ vv2.ownBlock = some w.heap.size) (ho : w2.ownsRow S 26 6 vv2 (j + 1) (vcs ++ [c0, c1, c2, c3, c4, c5])) : Reg8 V g t S j kv vv k ksT vcs c0 c1 c2 c3 c4 c5 (listed.setIfInBounds 9 true) w2 s28 s29 s30 s31 s32 s33 s34 s35 s36 vv2 s38 s39 :=
  { size := by rw [Array.size_setIfInBounds]; exact H.size
    a := fun h => absurd hw4.more h
    e := fun h => absurd (Up.self (by rw [H.size]; decide)) h
    b := fun _ h => absurd (Up.self (by rw [H.size]; decide)) h
    c := fun _ => ⟨w2, ⟨w, H.b hw4 hno9, hg, hl, ho⟩, (H.e hno9).1.grown hg X.gv, ⟨fun _ => rfl, fun h => absurd (H.o11 (h.set_ne (by decide))) hno9, fun h => absurd (H.o11 (H.o13 (h.set_ne (by decide)))) hno9⟩⟩
    f0 := fun h => H.f0 (h.set_ne (by decide))
    f1 := fun h => H.f1 (h.set_ne (by decide))
    f2 := fun h => H.f2 (h.set_ne (by decide))
    f3 := fun h => let ⟨b, h1, h2, h3⟩ := H.f3 (h.set_ne (by decide)); ⟨b, h1, h2, fun h4 => absurd hw4.more h4⟩
    f5 := fun h => H.f5 (h.set_ne (by decide))
    f6 := fun h => H.f6 (h.set_ne (by decide))
    f7 := fun h => H.f7 (h.set_ne (by decide))
    f8 := fun h => let ⟨b, h1, h2, h3⟩ := H.f8 (h.set_ne (by decide)); ⟨b, h1, h2, fun h4 => absurd (Up.self (by rw [H.size]; decide)) h4⟩
    f10 := fun h => H.f10 (h.set_ne (by decide))
    f12 := fun h => H.f12 (h.set_ne (by decide))
    o4 := fun h => let ⟨h1, h2⟩ := H.o4 (h.set_ne (by decide)); ⟨h1.more, h2.more⟩
    o8 := fun h => (H.o8 (h.set_ne (by decide))).more
    o9 := fun _ => ⟨hw4.more, hw6.more, hw8.more⟩
    o11 := fun h => (H.o11 (h.set_ne (by decide))).more
    o13 := fun h => (H.o13 (h.set_ne (by decide))).more }

theorem Reg8.s11 {V : World} {g t S j : Nat} {kv vv : Value} {k : ByteArray} {ksT vcs : List Value} {c0 c1 c2 c3 c4 c5 : Value} {listed : Array Bool} {w : World} {s28 s29 s30 s31 s32 s33 s34 s35 s36 s37 s38 s39 : Value} (H : Reg8 V g t S j kv vv k ksT vcs c0 c1 c2 c3 c4 c5 listed w s28 s29 s30 s31 s32 s33 s34 s35 s36 s37 s38 s39) (hno : ¬ Up listed 11) (hw9 : Up listed 9) : Reg8 V g t S j kv vv k ksT vcs c0 c1 c2 c3 c4 c5 (listed.setIfInBounds 11 true) (w.setCell ⟨g, 4, none⟩ s32) s28 s29 s30 s31 s32 s33 s34 s35 s36 s37 s38 s39 :=
  { size := by rw [Array.size_setIfInBounds]; exact H.size
    a := fun h => absurd (H.o9 hw9).1.more h
    e := fun h => absurd hw9.more h
    b := fun _ h => absurd hw9.more h
    c := fun _ => let ⟨Yd, h1, h2, h3⟩ := H.c hw9; ⟨Yd, h1, h2, ⟨fun h => absurd (Up.self (by rw [H.size]; decide)) h, fun _ _ => by rw [h3.1 hno], fun h => absurd (H.o13 (h.set_ne (by decide))) hno⟩⟩
    f0 := fun h => H.f0 (h.set_ne (by decide))
    f1 := fun h => H.f1 (h.set_ne (by decide))
    f2 := fun h => H.f2 (h.set_ne (by decide))
    f3 := fun h => let ⟨b, h1, h2, h3⟩ := H.f3 (h.set_ne (by decide)); ⟨b, h1, h2, fun h4 => absurd (H.o9 hw9).1.more h4⟩
    f5 := fun h => H.f5 (h.set_ne (by decide))
    f6 := fun h => H.f6 (h.set_ne (by decide))
    f7 := fun h => H.f7 (h.set_ne (by decide))
    f8 := fun h => let ⟨b, h1, h2, h3⟩ := H.f8 (h.set_ne (by decide)); ⟨b, h1, h2, fun h4 => absurd hw9.more h4⟩
    f10 := fun h => H.f10 (h.set_ne (by decide))
    f12 := fun h => H.f12 (h.set_ne (by decide))
    o4 := fun h => let ⟨h1, h2⟩ := H.o4 (h.set_ne (by decide)); ⟨h1.more, h2.more⟩
    o8 := fun h => (H.o8 (h.set_ne (by decide))).more
    o9 := fun h => let ⟨h1, h2, h3⟩ := H.o9 (h.set_ne (by decide)); ⟨h1.more, h2.more, h3.more⟩
    o11 := fun _ => hw9.more
    o13 := fun h => (H.o13 (h.set_ne (by decide))).more }

theorem Reg8.s13 {V : World} {g t S j : Nat} {kv vv : Value} {k : ByteArray} {ksT vcs : List Value} {c0 c1 c2 c3 c4 c5 : Value} {listed : Array Bool} {w : World} {s28 s29 s30 s31 s32 s33 s34 s35 s36 s37 s38 s39 : Value} (H : Reg8 V g t S j kv vv k ksT vcs c0 c1 c2 c3 c4 c5 listed w s28 s29 s30 s31 s32 s33 s34 s35 s36 s37 s38 s39) (hno : ¬ Up listed 13) (hw9 : Up listed 9) (hw11 : Up listed 11) : Reg8 V g t S j kv vv k ksT vcs c0 c1 c2 c3 c4 c5 (listed.setIfInBounds 13 true) (w.setCell ⟨g, 5, none⟩ s37) s28 s29 s30 s31 s32 s33 s34 s35 s36 s37 s38 s39 :=
  { size := by rw [Array.size_setIfInBounds]; exact H.size
    a := fun h => absurd (H.o9 hw9).1.more h
    e := fun h => absurd hw9.more h
    b := fun _ h => absurd hw9.more h
    c := fun _ => let ⟨Yd, h1, h2, h3⟩ := H.c hw9; ⟨Yd, h1, h2, ⟨fun h => absurd hw11.more h, fun _ h => absurd (Up.self (by rw [H.size]; decide)) h, fun _ => by rw [h3.2.1 hw11 hno]⟩⟩
    f0 := fun h => H.f0 (h.set_ne (by decide))
    f1 := fun h => H.f1 (h.set_ne (by decide))
    f2 := fun h => H.f2 (h.set_ne (by decide))
    f3 := fun h => let ⟨b, h1, h2, h3⟩ := H.f3 (h.set_ne (by decide)); ⟨b, h1, h2, fun h4 => absurd (H.o9 hw9).1.more h4⟩
    f5 := fun h => H.f5 (h.set_ne (by decide))
    f6 := fun h => H.f6 (h.set_ne (by decide))
    f7 := fun h => H.f7 (h.set_ne (by decide))
    f8 := fun h => let ⟨b, h1, h2, h3⟩ := H.f8 (h.set_ne (by decide)); ⟨b, h1, h2, fun h4 => absurd hw9.more h4⟩
    f10 := fun h => H.f10 (h.set_ne (by decide))
    f12 := fun h => H.f12 (h.set_ne (by decide))
    o4 := fun h => let ⟨h1, h2⟩ := H.o4 (h.set_ne (by decide)); ⟨h1.more, h2.more⟩
    o8 := fun h => (H.o8 (h.set_ne (by decide))).more
    o9 := fun h => let ⟨h1, h2, h3⟩ := H.o9 (h.set_ne (by decide)); ⟨h1.more, h2.more, h3.more⟩
    o11 := fun h => (H.o11 (h.set_ne (by decide))).more
    o13 := fun _ => hw11.more }
end Go.Proofs.YtmkdkcbkgngfdaaDoor
