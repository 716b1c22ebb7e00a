/- Fit's looker: what a wish, a part and a text do to its three numbers. -/
import Derived.Test.YtmkdkcbkgngfdaaDoorJBase
import Derived.Shelf.Unicode.DecodeSlow
namespace Go.Proofs.YtmkdkcbkgngfdaaDoor
open Go.RowKit
set_option linter.unusedVariables false

/-- The two tables of unicode/utf8 lie as their initialisers laid them, below a block. -/
def Tabs (w : World) (B : Nat) : Prop := Lib.Utf8Tabs 1 2 w ∧ 1 < B ∧ 2 < B
theorem Tabs.keep {w w' : World} {B : Nat} (h : Tabs w B) (hk : ∀ p : Addr, p.block < B → w'.cell? p = w.cell? p) : Tabs w' B := by
  obtain ⟨⟨h1, h2⟩, h3, h4⟩ := h
  exact ⟨⟨fun c hc => (hk _ h3).trans (h1 c hc), fun i hi => ⟨(hk _ h4).trans (h2 i hi).1, (hk _ h4).trans (h2 i hi).2⟩⟩, h3, h4⟩
theorem Tabs.only {w w' : World} {B : Nat} {P : Nat → Prop} (h : Tabs w B) (ho : Only P w w') (hP : ∀ k, P k → B ≤ k) (hs : B ≤ w.heap.size) : Tabs w' B := h.keep (ho.cells hP hs)

/-- The looker's block. -/
def Lk (w : World) (g : Nat) (p q : Int) (b : Bool) : Prop := Blk w g 64 #[.int .i64 p, .int .i64 q, .bool b]

theorem Lk.only {w w' : World} {g : Nat} {p q : Int} {b : Bool} {P : Nat → Prop} (h : Lk w g p q b) (ho : Only P w w') (hn : ¬ P g) : Lk w' g p q b := ho.blk h hn

set_option maxHeartbeats 400000 in
theorem want_any (w : World) (g : Nat) (p q : Int) (b c : Bool) (h : Lk w g p q b) :
    Calls Tryd.prog 77 #[.pointer (some ⟨g, 0, none⟩), .bool c] w fun e w' => e = .returned (.tuple #[]) ∧ Lk w' g p q (b || !c) ∧ Only (· = g) w w' := by
  have c2 := h.cell 2
  have f2 := h.frozen 2
  simp at c2
  have ho : ∀ u, Only (· = g) w (w.setCell ⟨g, 2, none⟩ u) := fun u => (Only.refl (· = g) w).setCell (p := ⟨g, 2, none⟩) (Or.inl rfl) u
  have hw : ∀ u : Bool, Lk (w.setCell ⟨g, 2, none⟩ (.bool u)) g p q u := fun u => by
    have := h.set_ 2 (.bool u)
    simpa [Lk] using this
  have ho' := hide ho
  have hw' := hide hw
  clear ho hw
  cases b <;> cases c
  all_goals
    go_enter Tryd.func77, Tryd.ntmps77
    go_wp2
    go_end0
    exact ⟨rfl, hw'.out _, ho'.out _⟩

set_option maxHeartbeats 400000 in
theorem part_any (w : World) (g : Nat) (p q d : Int) (b : Bool) (h : Lk w g p q b) (hp : 0 ≤ p ∧ p ≤ 400) :
    Calls Tryd.prog 76 #[.pointer (some ⟨g, 0, none⟩), .int .i64 d] w fun e w' => ∃ b', e = .returned (.bool (!b')) ∧ Lk w' g (p + 1) q b' ∧ Only (· = g) w w' ∧ (b' = false → b = false ∧ p + 1 ≤ 400 ∧ d ≤ 60) := by
  have c0 := h.cell 0
  have c1 := h.cell 1
  have f0 := h.frozen 0
  simp at c0 c1
  have hx : IntKind.i64.wrap (p + 1) = p + 1 := by rw [IntKind.wrap_i64]; omega
  have h1 : Lk (w.setCell ⟨g, 0, none⟩ (.int .i64 (p + 1))) g (p + 1) q b := by
    have := h.set_ 0 (.int .i64 (p + 1))
    simpa [Lk] using this
  have o1 : Only (· = g) w (w.setCell ⟨g, 0, none⟩ (.int .i64 (p + 1))) := (Only.refl (· = g) w).setCell (p := ⟨g, 0, none⟩) (Or.inl rfl) _
  go_enter Tryd.func76, Tryd.ntmps76
  have h1 := hide h1
  have o1 := hide o1
  have hp := hide hp
  go_wp2_with (go_at_call 77; refine (want_any _ g (p + 1) q b _ h1.out).mono ?_; rintro e w' ⟨rfl, hl, ho⟩; have c2' := hl.cell 2; simp at c2'; have hl := hide hl; have ho := hide ho)
  all_goals go_ret
  all_goals
    refine ⟨_, ?_, hl.out, o1.out.trans ho.out, ?_⟩
    · simp
    · intro hb
      cases b <;> simp at hb <;> (refine ⟨rfl, ?_, ?_⟩ <;> omega)
end Go.Proofs.YtmkdkcbkgngfdaaDoor
