/- The tables of unicode/utf8 and utf8.ValidString. -/
import Derived.Test.YtbnbemacljjimaaGreatDoorLookA
import Derived.Test.YtbnbemacljjimaaGreatDoorSh
import Derived.Shelf.Unicode.ValidAny
namespace Go.Proofs.YtbnbemacljjimaaGreatDoor
open Go.RowKit

theorem valid_any (w : World) (B : Nat) (s : ByteArray) (hs : s.size ≤ 9223372036854775807) (hT : Tabs w B) :
    Calls Tryz.prog 88 #[.string s] w fun e w' => e = .returned (.bool (Lib.validD s.data.toList)) ∧ Below w.heap.size w w' :=
  Any.utf8_ValidString Tryz.lays196 s w hs hT.1


set_option maxHeartbeats 400000 in
theorem str_any (w : World) (B g : Nat) (p q : Int) (b : Bool) (s : ByteArray) (h : Lk w g p q b) (hT : Tabs w B) (hB : B ≤ g) (hBw : B ≤ w.heap.size) (hs : s.size ≤ 140737488351232) (hq : 0 ≤ q ∧ q ≤ 2000) :
    Calls Tryz.prog 66 #[.pointer (some ⟨g, 0, none⟩), .string s] w fun e w' => ∃ b', e = .returned (.tuple #[]) ∧ Lk w' g p (q + (s.size : Int)) b' ∧ Only (· = g) w w' ∧ (b' = false → b = false ∧ Lib.validD s.data.toList = true ∧ q + (s.size : Int) ≤ 2000) := by
  have c1 := h.cell 1
  have f1 := h.frozen 1
  simp at c1
  obtain ⟨q', hx⟩ : ∃ q', q + (s.size : Int) = q' := ⟨_, rfl⟩
  have hx' : IntKind.i64.wrap (q + (s.size : Int)) = q' := by rw [IntKind.wrap_i64]; omega
  have h1 : Lk (w.setCell ⟨g, 1, none⟩ (.int .i64 q')) g p q' b := by
    have := h.set_ 1 (.int .i64 q')
    simpa [Lk] using this
  have o1 : Only (· = g) w (w.setCell ⟨g, 1, none⟩ (.int .i64 q')) := (Only.refl (· = g) w).setCell (p := ⟨g, 1, none⟩) (Or.inl rfl) _
  have hT1 : Tabs (w.setCell ⟨g, 1, none⟩ (.int .i64 q')) B := hT.only o1 (by intro k hk; omega) hBw
  have hlt := h1.lt
  have h1 := hide h1
  have o1 := hide o1
  have hT1 := hide hT1
  clear hT
  rw [hx]
  replace hx := hide hx
  go_enter Tryz.func66, Tryz.ntmps66
  go_wp2_with (first
    | (go_at_call 88; refine (valid_any _ B s (by omega) hT1.out).mono ?_; rintro e w1 ⟨rfl, hb1⟩; have o2 := hide (o1.out.trans (Only.of_below (P := (· = g)) hb1 (fun k hk _ => hk))); have h1 := hide (h1.out.below hb1 hlt); clear hb1)
    | (go_at_call 65; refine (want_any _ g p q' b _ h1.out).mono ?_; rintro e w' ⟨rfl, hl, ho⟩; have hl := hide hl; have ho := hide ho))
  all_goals go_end0
  all_goals refine ⟨_, rfl, hl.out, ?_, ?_⟩
  all_goals first
  | exact o2.out.trans ho.out
  | exact o1.out.trans ho.out
  | skip
  all_goals
    intro hb
    cases b <;> simp at hb <;> exact ⟨rfl, hb, by omega⟩
end Go.Proofs.YtbnbemacljjimaaGreatDoor
