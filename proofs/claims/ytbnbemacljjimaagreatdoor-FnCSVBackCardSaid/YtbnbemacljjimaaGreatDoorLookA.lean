/- Fit's looker: what a wish, a part and a text do to its three numbers. -/
import Derived.Test.YtbnbemacljjimaaGreatDoorJBase
import Derived.Shelf.Unicode.DecodeSlow
namespace Go.Proofs.YtbnbemacljjimaaGreatDoor
open Go.RowKit
set_option linter.unusedVariables false

/-- The two tables of unicode/utf8 lie as their initialisers laid them, below a block. -/
def Tabs (w : World) (B : Nat) : Prop := Lib.Utf8Tabs 0 1 w ∧ 0 < B ∧ 1 < B
theorem Tabs.keep {w w' : World} {B : Nat} (h : Tabs w B) (hk : ∀ p : Addr, p.block < B → w'.cell? p = w.cell? p) : Tabs w' B := by
  obtain ⟨⟨h1, h2⟩, h3, h4⟩ := h
  exact ⟨⟨fun c hc => (hk _ h3).trans (h1 c hc), fun i hi => ⟨(hk _ h4).trans (h2 i hi).1, (hk _ h4).trans (h2 i hi).2⟩⟩, h3, h4⟩
theorem Tabs.only {w w' : World} {B : Nat} {P : Nat → Prop} (h : Tabs w B) (ho : Only P w w') (hP : ∀ k, P k → B ≤ k) (hs : B ≤ w.heap.size) : Tabs w' B := h.keep (ho.cells hP hs)

/-- How many bytes the texts of a value have, and how many parts it has, down to a depth. -/
def JV.bytes : Nat → JV → Nat
  | 0, _ => 0
  | n + 1, v => v.text.size + (v.list.map (JV.bytes n)).sum + (v.keys.map (·.size)).sum + (v.vals.map (JV.bytes n)).sum
def JV.parts : Nat → JV → Nat
  | 0, _ => 0
  | n + 1, v => 1 + (v.list.map (JV.parts n)).sum + (v.vals.map (JV.parts n)).sum

/-- No text of a value is longer than memory can hold. -/
def Light : Nat → JV → Prop
  | 0, _ => True
  | n + 1, v => v.text.size ≤ 140737488351232 ∧ (∀ x ∈ v.list, Light n x) ∧ (∀ k ∈ v.keys, k.size ≤ 140737488351232) ∧ ∀ x ∈ v.vals, Light n x

theorem sum_take {α : Type} (f : α → Nat) (xs : List α) (j : Nat) (x : α) (h : xs[j]? = some x) : ((xs.take (j + 1)).map f).sum = ((xs.take j).map f).sum + f x := by
  rw [List.take_add_one, h]
  simp
theorem sum_all {α : Type} (f : α → Nat) (xs : List α) : ((xs.take xs.length).map f).sum = (xs.map f).sum := by rw [List.take_length]

/-- The looker's block. -/
def Lk (w : World) (g : Nat) (p q : Int) (b : Bool) : Prop := Blk w g 79 #[.int .i64 p, .int .i64 q, .bool b]

theorem Lk.only {w w' : World} {g : Nat} {p q : Int} {b : Bool} {P : Nat → Prop} (h : Lk w g p q b) (ho : Only P w w') (hn : ¬ P g) : Lk w' g p q b := ho.blk h hn

set_option maxHeartbeats 400000 in
theorem want_any (w : World) (g : Nat) (p q : Int) (b c : Bool) (h : Lk w g p q b) :
    Calls Tryz.prog 65 #[.pointer (some ⟨g, 0, none⟩), .bool c] w fun e w' => e = .returned (.tuple #[]) ∧ Lk w' g p q (b || !c) ∧ Only (· = g) w w' := by
  have c2 := h.cell 2
  have f2 := h.frozen 2
  simp at c2
  have ho : ∀ u, Only (· = g) w (w.setCell ⟨g, 2, none⟩ u) := fun u => (Only.refl (· = g) w).setCell (p := ⟨g, 2, none⟩) (Or.inl rfl) u
  have hw : ∀ u : Bool, Lk (w.setCell ⟨g, 2, none⟩ (.bool u)) g p q u := fun u => by
    have := h.set_ 2 (.bool u)
    simpa [Lk] using this
  have ho' := hide ho
  have hw' := hide hw
  clear ho hw
  cases b <;> cases c
  all_goals
    go_enter Tryz.func65, Tryz.ntmps65
    go_wp2
    go_end0
    exact ⟨rfl, hw'.out _, ho'.out _⟩

set_option maxHeartbeats 400000 in
theorem part_any (w : World) (g : Nat) (p q d : Int) (b : Bool) (h : Lk w g p q b) (hp : 0 ≤ p ∧ p ≤ 400) :
    Calls Tryz.prog 64 #[.pointer (some ⟨g, 0, none⟩), .int .i64 d] w fun e w' => ∃ b', e = .returned (.bool (!b')) ∧ Lk w' g (p + 1) q b' ∧ Only (· = g) w w' ∧ (b' = false → b = false ∧ p + 1 ≤ 400 ∧ d ≤ 60 ∧ q ≤ 2000) := by
  have c0 := h.cell 0
  have c1 := h.cell 1
  have f0 := h.frozen 0
  simp at c0 c1
  have hx : IntKind.i64.wrap (p + 1) = p + 1 := by rw [IntKind.wrap_i64]; omega
  have h1 : Lk (w.setCell ⟨g, 0, none⟩ (.int .i64 (p + 1))) g (p + 1) q b := by
    have := h.set_ 0 (.int .i64 (p + 1))
    simpa [Lk] using this
  have o1 : Only (· = g) w (w.setCell ⟨g, 0, none⟩ (.int .i64 (p + 1))) := (Only.refl (· = g) w).setCell (p := ⟨g, 0, none⟩) (Or.inl rfl) _
  go_enter Tryz.func64, Tryz.ntmps64
  have h1 := hide h1
  have o1 := hide o1
  have hp := hide hp
  go_wp2_with (go_at_call 65; refine (want_any _ g (p + 1) q b _ h1.out).mono ?_; rintro e w' ⟨rfl, hl, ho⟩; have c2' := hl.cell 2; simp at c2'; have hl := hide hl; have ho := hide ho)
  all_goals go_ret
  all_goals
    refine ⟨_, ?_, hl.out, o1.out.trans ho.out, ?_⟩
    · simp
    · intro hb
      cases b <;> simp at hb <;> (refine ⟨rfl, ?_, ?_, ?_⟩ <;> omega)
end Go.Proofs.YtbnbemacljjimaaGreatDoor
