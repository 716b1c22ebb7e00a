/- The drawn region of down and of up: 'decimal{append([]byte{}, a.digits[:m]...), a.dp}' (printed by mkdecg.py). -/
import Derived.Test.YtbnbemacljjimaaGreatDoorJc08
import Derived.Test.YtbnbemacljjimaaGreatDoorJc09
namespace Go.Proofs.YtbnbemacljjimaaGreatDoor
open Go.RowKit Go.Lib
set_option linter.unusedVariables false

theorem own_below {w w' : World} {base : Nat} {e : TypeId} {size n : Nat} {v : Value} {xs : List Value} (h : w.ownsRow base e size v n xs) (hb : Below w.heap.size w w') : w'.ownsRow base e size v n xs := by
  refine h.kept (only_of_below hb none) ?_
  cases v.ownBlock
  · exact .inl rfl
  · exact .inr (by intro e; cases e)

/-- Where the region stands, whichever of its operations have come up. -/
structure Rg (W0 : World) (p g o L c m : Nat) (dp : Int) (ds : List Nat) (iv : Value) (listed : Array Bool) (w : World) (s0 s1 s2 s3 s4 s5 s6 s7 s8 s9 s10 s11 s12 s13 s14 : Value) : Prop where
  size : listed.size = 16
  bel : Below W0.heap.size W0 w
  f0 : Up listed 0 → ¬ Up listed 8 → w.ownsRow W0.heap.size 5 1 s0 0 []
  f1 : Up listed 1 → s1 = .pointer (some ⟨p, 0, none⟩)
  f2 : Up listed 2 → s2 = .pointer (some ⟨p, 0, none⟩)
  f3 : Up listed 3 → s3 = .pointer (some ⟨p, 0, none⟩)
  f4 : Up listed 4 → s4 = .slice (some ⟨g, o, none⟩) L c
  f5 : Up listed 5 → s5 = iv
  f6 : Up listed 6 → s6 = .int .i64 (m : Nat)
  f7 : Up listed 7 → s7 = .slice (some ⟨g, o, none⟩) m c
  f8 : Up listed 8 → w.ownsRow W0.heap.size 5 1 s8 m ((ds.take m).map dv)
  f9 : Up listed 9 → s9 = .pointer (some ⟨p, 0, none⟩)
  f10 : Up listed 10 → s10 = .pointer (some ⟨p, 0, none⟩)
  f11 : Up listed 11 → s11 = .pointer (some ⟨p, 1, none⟩)
  f12 : Up listed 12 → s12 = .int .i64 dp
  f13 : Up listed 13 → Up listed 8 ∧ s13 = .agg #[s8, .int .i64 dp]
  f14 : Up listed 14 → ∃ b cs, s14 = .pointer (some ⟨b, 0, none⟩) ∧ W0.heap.size ≤ b ∧ Blk w b 232 cs ∧ cs.size = 2 ∧ (Up listed 15 → Up listed 13 ∧ s13 = .agg cs)
  f15 : Up listed 15 → Up listed 14

theorem Rg.start (W0 : World) (p g o L c m : Nat) (dp : Int) (ds : List Nat) (iv : Value) (s0 s1 s2 s3 s4 s5 s6 s7 s8 s9 s10 s11 s12 s13 s14 : Value) : Rg W0 p g o L c m dp ds iv (Array.replicate 16 false) W0.drew s0 s1 s2 s3 s4 s5 s6 s7 s8 s9 s10 s11 s12 s13 s14 :=
  ⟨by simp, ⟨rfl, rfl, rfl, Nat.le_refl _, fun _ _ => rfl⟩, fun h => h.start.elim, fun h => h.start.elim, fun h => h.start.elim, fun h => h.start.elim, fun h => h.start.elim, fun h => h.start.elim, fun h => h.start.elim, fun h => h.start.elim, fun h => h.start.elim, fun h => h.start.elim, fun h => h.start.elim, fun h => h.start.elim, fun h => h.start.elim, fun h => h.start.elim, fun h => h.start.elim, fun h => h.start.elim⟩

theorem Rg.world {W0 : World} {p g o L c m : Nat} {dp : Int} {ds : List Nat} {iv : Value} {listed : Array Bool} {w : World} {s0 s1 s2 s3 s4 s5 s6 s7 s8 s9 s10 s11 s12 s13 s14 : Value} {w2 : World} (H : Rg W0 p g o L c m dp ds iv listed w s0 s1 s2 s3 s4 s5 s6 s7 s8 s9 s10 s11 s12 s13 s14) (hb : Below w.heap.size w w2) : Rg W0 p g o L c m dp ds iv listed w2 s0 s1 s2 s3 s4 s5 s6 s7 s8 s9 s10 s11 s12 s13 s14 :=
  ⟨H.size, H.bel.trans (hb.mono H.bel.size), fun h1 h2 => own_below (H.f0 h1 h2) hb, H.f1, H.f2, H.f3, H.f4, H.f5, H.f6, H.f7, fun h => own_below (H.f8 h) hb, H.f9, H.f10, H.f11, H.f12, H.f13, fun h => let ⟨b, cs, h1, h2, h3, h4, h5⟩ := H.f14 h; ⟨b, cs, h1, h2, h3.below hb h3.lt, h4, h5⟩, H.f15⟩

theorem Rg.c1 {W0 : World} {p g o L c m : Nat} {dp : Int} {ds : List Nat} {iv : Value} {listed : Array Bool} {w : World} {s0 s1 s2 s3 s4 s5 s6 s7 s8 s9 s10 s11 s12 s13 s14 : Value} {t : Value} (H : Rg W0 p g o L c m dp ds iv listed w s0 s1 s2 s3 s4 s5 s6 s7 s8 s9 s10 s11 s12 s13 s14) (hx : t = .pointer (some ⟨p, 0, none⟩)) : Rg W0 p g o L c m dp ds iv (listed.setIfInBounds 1 true) w s0 t s2 s3 s4 s5 s6 s7 s8 s9 s10 s11 s12 s13 s14 :=
  ⟨by rw [Array.size_setIfInBounds]; exact H.size, H.bel, fun h h8 => H.f0 (h.set_ne (by decide)) (fun h => h8 h.more), fun _ => hx, fun h => H.f2 (h.set_ne (by decide)), fun h => H.f3 (h.set_ne (by decide)), fun h => H.f4 (h.set_ne (by decide)), fun h => H.f5 (h.set_ne (by decide)), fun h => H.f6 (h.set_ne (by decide)), fun h => H.f7 (h.set_ne (by decide)), fun h => H.f8 (h.set_ne (by decide)), fun h => H.f9 (h.set_ne (by decide)), fun h => H.f10 (h.set_ne (by decide)), fun h => H.f11 (h.set_ne (by decide)), fun h => H.f12 (h.set_ne (by decide)), fun h => let ⟨h1, h2⟩ := H.f13 (h.set_ne (by decide)); ⟨h1.more, h2⟩, fun h => let ⟨b, cs, h1, h2, h3, h4, h5⟩ := H.f14 (h.set_ne (by decide)); ⟨b, cs, h1, h2, h3, h4, fun h => let ⟨h6, h7⟩ := h5 (h.set_ne (by decide)); ⟨h6.more, h7⟩⟩, fun h => (H.f15 (h.set_ne (by decide))).more⟩

theorem Rg.c2 {W0 : World} {p g o L c m : Nat} {dp : Int} {ds : List Nat} {iv : Value} {listed : Array Bool} {w : World} {s0 s1 s2 s3 s4 s5 s6 s7 s8 s9 s10 s11 s12 s13 s14 : Value} {t : Value} (H : Rg W0 p g o L c m dp ds iv listed w s0 s1 s2 s3 s4 s5 s6 s7 s8 s9 s10 s11 s12 s13 s14) (hx : t = .pointer (some ⟨p, 0, none⟩)) : Rg W0 p g o L c m dp ds iv (listed.setIfInBounds 2 true) w s0 s1 t s3 s4 s5 s6 s7 s8 s9 s10 s11 s12 s13 s14 :=
  ⟨by rw [Array.size_setIfInBounds]; exact H.size, H.bel, fun h h8 => H.f0 (h.set_ne (by decide)) (fun h => h8 h.more), fun h => H.f1 (h.set_ne (by decide)), fun _ => hx, fun h => H.f3 (h.set_ne (by decide)), fun h => H.f4 (h.set_ne (by decide)), fun h => H.f5 (h.set_ne (by decide)), fun h => H.f6 (h.set_ne (by decide)), fun h => H.f7 (h.set_ne (by decide)), fun h => H.f8 (h.set_ne (by decide)), fun h => H.f9 (h.set_ne (by decide)), fun h => H.f10 (h.set_ne (by decide)), fun h => H.f11 (h.set_ne (by decide)), fun h => H.f12 (h.set_ne (by decide)), fun h => let ⟨h1, h2⟩ := H.f13 (h.set_ne (by decide)); ⟨h1.more, h2⟩, fun h => let ⟨b, cs, h1, h2, h3, h4, h5⟩ := H.f14 (h.set_ne (by decide)); ⟨b, cs, h1, h2, h3, h4, fun h => let ⟨h6, h7⟩ := h5 (h.set_ne (by decide)); ⟨h6.more, h7⟩⟩, fun h => (H.f15 (h.set_ne (by decide))).more⟩

theorem Rg.c3 {W0 : World} {p g o L c m : Nat} {dp : Int} {ds : List Nat} {iv : Value} {listed : Array Bool} {w : World} {s0 s1 s2 s3 s4 s5 s6 s7 s8 s9 s10 s11 s12 s13 s14 : Value} {t : Value} (H : Rg W0 p g o L c m dp ds iv listed w s0 s1 s2 s3 s4 s5 s6 s7 s8 s9 s10 s11 s12 s13 s14) (hx : t = .pointer (some ⟨p, 0, none⟩)) : Rg W0 p g o L c m dp ds iv (listed.setIfInBounds 3 true) w s0 s1 s2 t s4 s5 s6 s7 s8 s9 s10 s11 s12 s13 s14 :=
  ⟨by rw [Array.size_setIfInBounds]; exact H.size, H.bel, fun h h8 => H.f0 (h.set_ne (by decide)) (fun h => h8 h.more), fun h => H.f1 (h.set_ne (by decide)), fun h => H.f2 (h.set_ne (by decide)), fun _ => hx, fun h => H.f4 (h.set_ne (by decide)), fun h => H.f5 (h.set_ne (by decide)), fun h => H.f6 (h.set_ne (by decide)), fun h => H.f7 (h.set_ne (by decide)), fun h => H.f8 (h.set_ne (by decide)), fun h => H.f9 (h.set_ne (by decide)), fun h => H.f10 (h.set_ne (by decide)), fun h => H.f11 (h.set_ne (by decide)), fun h => H.f12 (h.set_ne (by decide)), fun h => let ⟨h1, h2⟩ := H.f13 (h.set_ne (by decide)); ⟨h1.more, h2⟩, fun h => let ⟨b, cs, h1, h2, h3, h4, h5⟩ := H.f14 (h.set_ne (by decide)); ⟨b, cs, h1, h2, h3, h4, fun h => let ⟨h6, h7⟩ := h5 (h.set_ne (by decide)); ⟨h6.more, h7⟩⟩, fun h => (H.f15 (h.set_ne (by decide))).more⟩

theorem Rg.c4 {W0 : World} {p g o L c m : Nat} {dp : Int} {ds : List Nat} {iv : Value} {listed : Array Bool} {w : World} {s0 s1 s2 s3 s4 s5 s6 s7 s8 s9 s10 s11 s12 s13 s14 : Value} {t : Value} (H : Rg W0 p g o L c m dp ds iv listed w s0 s1 s2 s3 s4 s5 s6 s7 s8 s9 s10 s11 s12 s13 s14) (hx : t = .slice (some ⟨g, o, none⟩) L c) : Rg W0 p g o L c m dp ds iv (listed.setIfInBounds 4 true) w s0 s1 s2 s3 t s5 s6 s7 s8 s9 s10 s11 s12 s13 s14 :=
  ⟨by rw [Array.size_setIfInBounds]; exact H.size, H.bel, fun h h8 => H.f0 (h.set_ne (by decide)) (fun h => h8 h.more), fun h => H.f1 (h.set_ne (by decide)), fun h => H.f2 (h.set_ne (by decide)), fun h => H.f3 (h.set_ne (by decide)), fun _ => hx, fun h => H.f5 (h.set_ne (by decide)), fun h => H.f6 (h.set_ne (by decide)), fun h => H.f7 (h.set_ne (by decide)), fun h => H.f8 (h.set_ne (by decide)), fun h => H.f9 (h.set_ne (by decide)), fun h => H.f10 (h.set_ne (by decide)), fun h => H.f11 (h.set_ne (by decide)), fun h => H.f12 (h.set_ne (by decide)), fun h => let ⟨h1, h2⟩ := H.f13 (h.set_ne (by decide)); ⟨h1.more, h2⟩, fun h => let ⟨b, cs, h1, h2, h3, h4, h5⟩ := H.f14 (h.set_ne (by decide)); ⟨b, cs, h1, h2, h3, h4, fun h => let ⟨h6, h7⟩ := h5 (h.set_ne (by decide)); ⟨h6.more, h7⟩⟩, fun h => (H.f15 (h.set_ne (by decide))).more⟩

theorem Rg.c5 {W0 : World} {p g o L c m : Nat} {dp : Int} {ds : List Nat} {iv : Value} {listed : Array Bool} {w : World} {s0 s1 s2 s3 s4 s5 s6 s7 s8 s9 s10 s11 s12 s13 s14 : Value} {t : Value} (H : Rg W0 p g o L c m dp ds iv listed w s0 s1 s2 s3 s4 s5 s6 s7 s8 s9 s10 s11 s12 s13 s14) (hx : t = iv) : Rg W0 p g o L c m dp ds iv (listed.setIfInBounds 5 true) w s0 s1 s2 s3 s4 t s6 s7 s8 s9 s10 s11 s12 s13 s14 :=
  ⟨by rw [Array.size_setIfInBounds]; exact H.size, H.bel, fun h h8 => H.f0 (h.set_ne (by decide)) (fun h => h8 h.more), fun h => H.f1 (h.set_ne (by decide)), fun h => H.f2 (h.set_ne (by decide)), fun h => H.f3 (h.set_ne (by decide)), fun h => H.f4 (h.set_ne (by decide)), fun _ => hx, fun h => H.f6 (h.set_ne (by decide)), fun h => H.f7 (h.set_ne (by decide)), fun h => H.f8 (h.set_ne (by decide)), fun h => H.f9 (h.set_ne (by decide)), fun h => H.f10 (h.set_ne (by decide)), fun h => H.f11 (h.set_ne (by decide)), fun h => H.f12 (h.set_ne (by decide)), fun h => let ⟨h1, h2⟩ := H.f13 (h.set_ne (by decide)); ⟨h1.more, h2⟩, fun h => let ⟨b, cs, h1, h2, h3, h4, h5⟩ := H.f14 (h.set_ne (by decide)); ⟨b, cs, h1, h2, h3, h4, fun h => let ⟨h6, h7⟩ := h5 (h.set_ne (by decide)); ⟨h6.more, h7⟩⟩, fun h => (H.f15 (h.set_ne (by decide))).more⟩

theorem Rg.c6 {W0 : World} {p g o L c m : Nat} {dp : Int} {ds : List Nat} {iv : Value} {listed : Array Bool} {w : World} {s0 s1 s2 s3 s4 s5 s6 s7 s8 s9 s10 s11 s12 s13 s14 : Value} {t : Value} (H : Rg W0 p g o L c m dp ds iv listed w s0 s1 s2 s3 s4 s5 s6 s7 s8 s9 s10 s11 s12 s13 s14) (hx : t = .int .i64 (m : Nat)) : Rg W0 p g o L c m dp ds iv (listed.setIfInBounds 6 true) w s0 s1 s2 s3 s4 s5 t s7 s8 s9 s10 s11 s12 s13 s14 :=
  ⟨by rw [Array.size_setIfInBounds]; exact H.size, H.bel, fun h h8 => H.f0 (h.set_ne (by decide)) (fun h => h8 h.more), fun h => H.f1 (h.set_ne (by decide)), fun h => H.f2 (h.set_ne (by decide)), fun h => H.f3 (h.set_ne (by decide)), fun h => H.f4 (h.set_ne (by decide)), fun h => H.f5 (h.set_ne (by decide)), fun _ => hx, fun h => H.f7 (h.set_ne (by decide)), fun h => H.f8 (h.set_ne (by decide)), fun h => H.f9 (h.set_ne (by decide)), fun h => H.f10 (h.set_ne (by decide)), fun h => H.f11 (h.set_ne (by decide)), fun h => H.f12 (h.set_ne (by decide)), fun h => let ⟨h1, h2⟩ := H.f13 (h.set_ne (by decide)); ⟨h1.more, h2⟩, fun h => let ⟨b, cs, h1, h2, h3, h4, h5⟩ := H.f14 (h.set_ne (by decide)); ⟨b, cs, h1, h2, h3, h4, fun h => let ⟨h6, h7⟩ := h5 (h.set_ne (by decide)); ⟨h6.more, h7⟩⟩, fun h => (H.f15 (h.set_ne (by decide))).more⟩

theorem Rg.c7 {W0 : World} {p g o L c m : Nat} {dp : Int} {ds : List Nat} {iv : Value} {listed : Array Bool} {w : World} {s0 s1 s2 s3 s4 s5 s6 s7 s8 s9 s10 s11 s12 s13 s14 : Value} {t : Value} (H : Rg W0 p g o L c m dp ds iv listed w s0 s1 s2 s3 s4 s5 s6 s7 s8 s9 s10 s11 s12 s13 s14) (hx : t = .slice (some ⟨g, o, none⟩) m c) : Rg W0 p g o L c m dp ds iv (listed.setIfInBounds 7 true) w s0 s1 s2 s3 s4 s5 s6 t s8 s9 s10 s11 s12 s13 s14 :=
  ⟨by rw [Array.size_setIfInBounds]; exact H.size, H.bel, fun h h8 => H.f0 (h.set_ne (by decide)) (fun h => h8 h.more), fun h => H.f1 (h.set_ne (by decide)), fun h => H.f2 (h.set_ne (by decide)), fun h => H.f3 (h.set_ne (by decide)), fun h => H.f4 (h.set_ne (by decide)), fun h => H.f5 (h.set_ne (by decide)), fun h => H.f6 (h.set_ne (by decide)), fun _ => hx, fun h => H.f8 (h.set_ne (by decide)), fun h => H.f9 (h.set_ne (by decide)), fun h => H.f10 (h.set_ne (by decide)), fun h => H.f11 (h.set_ne (by decide)), fun h => H.f12 (h.set_ne (by decide)), fun h => let ⟨h1, h2⟩ := H.f13 (h.set_ne (by decide)); ⟨h1.more, h2⟩, fun h => let ⟨b, cs, h1, h2, h3, h4, h5⟩ := H.f14 (h.set_ne (by decide)); ⟨b, cs, h1, h2, h3, h4, fun h => let ⟨h6, h7⟩ := h5 (h.set_ne (by decide)); ⟨h6.more, h7⟩⟩, fun h => (H.f15 (h.set_ne (by decide))).more⟩

theorem Rg.c9 {W0 : World} {p g o L c m : Nat} {dp : Int} {ds : List Nat} {iv : Value} {listed : Array Bool} {w : World} {s0 s1 s2 s3 s4 s5 s6 s7 s8 s9 s10 s11 s12 s13 s14 : Value} {t : Value} (H : Rg W0 p g o L c m dp ds iv listed w s0 s1 s2 s3 s4 s5 s6 s7 s8 s9 s10 s11 s12 s13 s14) (hx : t = .pointer (some ⟨p, 0, none⟩)) : Rg W0 p g o L c m dp ds iv (listed.setIfInBounds 9 true) w s0 s1 s2 s3 s4 s5 s6 s7 s8 t s10 s11 s12 s13 s14 :=
  ⟨by rw [Array.size_setIfInBounds]; exact H.size, H.bel, fun h h8 => H.f0 (h.set_ne (by decide)) (fun h => h8 h.more), fun h => H.f1 (h.set_ne (by decide)), fun h => H.f2 (h.set_ne (by decide)), fun h => H.f3 (h.set_ne (by decide)), fun h => H.f4 (h.set_ne (by decide)), fun h => H.f5 (h.set_ne (by decide)), fun h => H.f6 (h.set_ne (by decide)), fun h => H.f7 (h.set_ne (by decide)), fun h => H.f8 (h.set_ne (by decide)), fun _ => hx, fun h => H.f10 (h.set_ne (by decide)), fun h => H.f11 (h.set_ne (by decide)), fun h => H.f12 (h.set_ne (by decide)), fun h => let ⟨h1, h2⟩ := H.f13 (h.set_ne (by decide)); ⟨h1.more, h2⟩, fun h => let ⟨b, cs, h1, h2, h3, h4, h5⟩ := H.f14 (h.set_ne (by decide)); ⟨b, cs, h1, h2, h3, h4, fun h => let ⟨h6, h7⟩ := h5 (h.set_ne (by decide)); ⟨h6.more, h7⟩⟩, fun h => (H.f15 (h.set_ne (by decide))).more⟩

theorem Rg.c10 {W0 : World} {p g o L c m : Nat} {dp : Int} {ds : List Nat} {iv : Value} {listed : Array Bool} {w : World} {s0 s1 s2 s3 s4 s5 s6 s7 s8 s9 s10 s11 s12 s13 s14 : Value} {t : Value} (H : Rg W0 p g o L c m dp ds iv listed w s0 s1 s2 s3 s4 s5 s6 s7 s8 s9 s10 s11 s12 s13 s14) (hx : t = .pointer (some ⟨p, 0, none⟩)) : Rg W0 p g o L c m dp ds iv (listed.setIfInBounds 10 true) w s0 s1 s2 s3 s4 s5 s6 s7 s8 s9 t s11 s12 s13 s14 :=
  ⟨by rw [Array.size_setIfInBounds]; exact H.size, H.bel, fun h h8 => H.f0 (h.set_ne (by decide)) (fun h => h8 h.more), fun h => H.f1 (h.set_ne (by decide)), fun h => H.f2 (h.set_ne (by decide)), fun h => H.f3 (h.set_ne (by decide)), fun h => H.f4 (h.set_ne (by decide)), fun h => H.f5 (h.set_ne (by decide)), fun h => H.f6 (h.set_ne (by decide)), fun h => H.f7 (h.set_ne (by decide)), fun h => H.f8 (h.set_ne (by decide)), fun h => H.f9 (h.set_ne (by decide)), fun _ => hx, fun h => H.f11 (h.set_ne (by decide)), fun h => H.f12 (h.set_ne (by decide)), fun h => let ⟨h1, h2⟩ := H.f13 (h.set_ne (by decide)); ⟨h1.more, h2⟩, fun h => let ⟨b, cs, h1, h2, h3, h4, h5⟩ := H.f14 (h.set_ne (by decide)); ⟨b, cs, h1, h2, h3, h4, fun h => let ⟨h6, h7⟩ := h5 (h.set_ne (by decide)); ⟨h6.more, h7⟩⟩, fun h => (H.f15 (h.set_ne (by decide))).more⟩

theorem Rg.c11 {W0 : World} {p g o L c m : Nat} {dp : Int} {ds : List Nat} {iv : Value} {listed : Array Bool} {w : World} {s0 s1 s2 s3 s4 s5 s6 s7 s8 s9 s10 s11 s12 s13 s14 : Value} {t : Value} (H : Rg W0 p g o L c m dp ds iv listed w s0 s1 s2 s3 s4 s5 s6 s7 s8 s9 s10 s11 s12 s13 s14) (hx : t = .pointer (some ⟨p, 1, none⟩)) : Rg W0 p g o L c m dp ds iv (listed.setIfInBounds 11 true) w s0 s1 s2 s3 s4 s5 s6 s7 s8 s9 s10 t s12 s13 s14 :=
  ⟨by rw [Array.size_setIfInBounds]; exact H.size, H.bel, fun h h8 => H.f0 (h.set_ne (by decide)) (fun h => h8 h.more), fun h => H.f1 (h.set_ne (by decide)), fun h => H.f2 (h.set_ne (by decide)), fun h => H.f3 (h.set_ne (by decide)), fun h => H.f4 (h.set_ne (by decide)), fun h => H.f5 (h.set_ne (by decide)), fun h => H.f6 (h.set_ne (by decide)), fun h => H.f7 (h.set_ne (by decide)), fun h => H.f8 (h.set_ne (by decide)), fun h => H.f9 (h.set_ne (by decide)), fun h => H.f10 (h.set_ne (by decide)), fun _ => hx, fun h => H.f12 (h.set_ne (by decide)), fun h => let ⟨h1, h2⟩ := H.f13 (h.set_ne (by decide)); ⟨h1.more, h2⟩, fun h => let ⟨b, cs, h1, h2, h3, h4, h5⟩ := H.f14 (h.set_ne (by decide)); ⟨b, cs, h1, h2, h3, h4, fun h => let ⟨h6, h7⟩ := h5 (h.set_ne (by decide)); ⟨h6.more, h7⟩⟩, fun h => (H.f15 (h.set_ne (by decide))).more⟩

theorem Rg.c12 {W0 : World} {p g o L c m : Nat} {dp : Int} {ds : List Nat} {iv : Value} {listed : Array Bool} {w : World} {s0 s1 s2 s3 s4 s5 s6 s7 s8 s9 s10 s11 s12 s13 s14 : Value} {t : Value} (H : Rg W0 p g o L c m dp ds iv listed w s0 s1 s2 s3 s4 s5 s6 s7 s8 s9 s10 s11 s12 s13 s14) (hx : t = .int .i64 dp) : Rg W0 p g o L c m dp ds iv (listed.setIfInBounds 12 true) w s0 s1 s2 s3 s4 s5 s6 s7 s8 s9 s10 s11 t s13 s14 :=
  ⟨by rw [Array.size_setIfInBounds]; exact H.size, H.bel, fun h h8 => H.f0 (h.set_ne (by decide)) (fun h => h8 h.more), fun h => H.f1 (h.set_ne (by decide)), fun h => H.f2 (h.set_ne (by decide)), fun h => H.f3 (h.set_ne (by decide)), fun h => H.f4 (h.set_ne (by decide)), fun h => H.f5 (h.set_ne (by decide)), fun h => H.f6 (h.set_ne (by decide)), fun h => H.f7 (h.set_ne (by decide)), fun h => H.f8 (h.set_ne (by decide)), fun h => H.f9 (h.set_ne (by decide)), fun h => H.f10 (h.set_ne (by decide)), fun h => H.f11 (h.set_ne (by decide)), fun _ => hx, fun h => let ⟨h1, h2⟩ := H.f13 (h.set_ne (by decide)); ⟨h1.more, h2⟩, fun h => let ⟨b, cs, h1, h2, h3, h4, h5⟩ := H.f14 (h.set_ne (by decide)); ⟨b, cs, h1, h2, h3, h4, fun h => let ⟨h6, h7⟩ := h5 (h.set_ne (by decide)); ⟨h6.more, h7⟩⟩, fun h => (H.f15 (h.set_ne (by decide))).more⟩

theorem Rg.c0 {W0 : World} {p g o L c m : Nat} {dp : Int} {ds : List Nat} {iv : Value} {listed : Array Bool} {w : World} {s0 s1 s2 s3 s4 s5 s6 s7 s8 s9 s10 s11 s12 s13 s14 : Value} {t : Value} {w2 : World} (H0 : Rg W0 p g o L c m dp ds iv listed w s0 s1 s2 s3 s4 s5 s6 s7 s8 s9 s10 s11 s12 s13 s14) (hb : Below w.heap.size w w2) (hx : w2.ownsRow W0.heap.size 5 1 t 0 []) : Rg W0 p g o L c m dp ds iv (listed.setIfInBounds 0 true) w2 t s1 s2 s3 s4 s5 s6 s7 s8 s9 s10 s11 s12 s13 s14 :=
  have H := H0.world hb
  ⟨by rw [Array.size_setIfInBounds]; exact H.size, H.bel, fun _ h8 => hx, fun h => H.f1 (h.set_ne (by decide)), fun h => H.f2 (h.set_ne (by decide)), fun h => H.f3 (h.set_ne (by decide)), fun h => H.f4 (h.set_ne (by decide)), fun h => H.f5 (h.set_ne (by decide)), fun h => H.f6 (h.set_ne (by decide)), fun h => H.f7 (h.set_ne (by decide)), fun h => H.f8 (h.set_ne (by decide)), fun h => H.f9 (h.set_ne (by decide)), fun h => H.f10 (h.set_ne (by decide)), fun h => H.f11 (h.set_ne (by decide)), fun h => H.f12 (h.set_ne (by decide)), fun h => let ⟨h1, h2⟩ := H.f13 (h.set_ne (by decide)); ⟨h1.more, h2⟩, fun h => let ⟨b, cs, h1, h2, h3, h4, h5⟩ := H.f14 (h.set_ne (by decide)); ⟨b, cs, h1, h2, h3, h4, fun h => let ⟨h6, h7⟩ := h5 (h.set_ne (by decide)); ⟨h6.more, h7⟩⟩, fun h => (H.f15 (h.set_ne (by decide))).more⟩

theorem up_self {listed : Array Bool} {i : Nat} (h : i < listed.size) : Up (listed.setIfInBounds i true) i := by
  unfold Up
  rw [Array.getD_eq_getD_getElem?]
  simp [h]

theorem Rg.c8 {W0 : World} {p g o L c m : Nat} {dp : Int} {ds : List Nat} {iv : Value} {listed : Array Bool} {w : World} {s0 s1 s2 s3 s4 s5 s6 s7 s8 s9 s10 s11 s12 s13 s14 : Value} {t : Value} {w2 : World} (H : Rg W0 p g o L c m dp ds iv listed w s0 s1 s2 s3 s4 s5 s6 s7 s8 s9 s10 s11 s12 s13 s14) (hun : ¬ Up listed 8) (hown : w.ownsRow W0.heap.size 5 1 s0 0 []) (hg : w.grownBy w2 s0.ownBlock) (hx : w2.ownsRow W0.heap.size 5 1 t m ((ds.take m).map dv)) : Rg W0 p g o L c m dp ds iv (listed.setIfInBounds 8 true) w2 s0 s1 s2 s3 s4 s5 s6 s7 t s9 s10 s11 s12 s13 s14 :=
  ⟨by rw [Array.size_setIfInBounds]; exact H.size, H.bel.trans ⟨hg.os, hg.tape, hg.output, hg.size, fun k hk => hg.block k (Nat.lt_of_lt_of_le hk H.bel.size) (fun e => by have := (hown.lt k e.symm).1; omega)⟩, fun _ h8 => absurd (up_self (by rw [H.size]; decide)) h8, fun h => H.f1 (h.set_ne (by decide)), fun h => H.f2 (h.set_ne (by decide)), fun h => H.f3 (h.set_ne (by decide)), fun h => H.f4 (h.set_ne (by decide)), fun h => H.f5 (h.set_ne (by decide)), fun h => H.f6 (h.set_ne (by decide)), fun h => H.f7 (h.set_ne (by decide)), fun _ => hx, fun h => H.f9 (h.set_ne (by decide)), fun h => H.f10 (h.set_ne (by decide)), fun h => H.f11 (h.set_ne (by decide)), fun h => H.f12 (h.set_ne (by decide)), fun h => absurd (H.f13 (h.set_ne (by decide))).1 hun, fun h => let ⟨b, cs, h1, h2, h3, h4, h5⟩ := H.f14 (h.set_ne (by decide)); ⟨b, cs, h1, h2, h3.grown hg (Ne.symm (own_blk_ne hown h3 (by decide))), h4, fun h => absurd (H.f13 (h5 (h.set_ne (by decide))).1).1 hun⟩, fun h => (H.f15 (h.set_ne (by decide))).more⟩

theorem Rg.c13 {W0 : World} {p g o L c m : Nat} {dp : Int} {ds : List Nat} {iv : Value} {listed : Array Bool} {w : World} {s0 s1 s2 s3 s4 s5 s6 s7 s8 s9 s10 s11 s12 s13 s14 : Value} {t : Value} (H : Rg W0 p g o L c m dp ds iv listed w s0 s1 s2 s3 s4 s5 s6 s7 s8 s9 s10 s11 s12 s13 s14) (hun : ¬ Up listed 13) (h8 : Up listed 8) (hx : t = .agg #[s8, .int .i64 dp]) : Rg W0 p g o L c m dp ds iv (listed.setIfInBounds 13 true) w s0 s1 s2 s3 s4 s5 s6 s7 s8 s9 s10 s11 s12 t s14 :=
  ⟨by rw [Array.size_setIfInBounds]; exact H.size, H.bel, fun h h8 => H.f0 (h.set_ne (by decide)) (fun h => h8 h.more), fun h => H.f1 (h.set_ne (by decide)), fun h => H.f2 (h.set_ne (by decide)), fun h => H.f3 (h.set_ne (by decide)), fun h => H.f4 (h.set_ne (by decide)), fun h => H.f5 (h.set_ne (by decide)), fun h => H.f6 (h.set_ne (by decide)), fun h => H.f7 (h.set_ne (by decide)), fun h => H.f8 (h.set_ne (by decide)), fun h => H.f9 (h.set_ne (by decide)), fun h => H.f10 (h.set_ne (by decide)), fun h => H.f11 (h.set_ne (by decide)), fun h => H.f12 (h.set_ne (by decide)), fun _ => ⟨h8.more, hx⟩, fun h => let ⟨b, cs, h1, h2, h3, h4, h5⟩ := H.f14 (h.set_ne (by decide)); ⟨b, cs, h1, h2, h3, h4, fun h => absurd (h5 (h.set_ne (by decide))).1 hun⟩, fun h => (H.f15 (h.set_ne (by decide))).more⟩

theorem Rg.c14 {W0 : World} {p g o L c m : Nat} {dp : Int} {ds : List Nat} {iv : Value} {listed : Array Bool} {w : World} {s0 s1 s2 s3 s4 s5 s6 s7 s8 s9 s10 s11 s12 s13 s14 : Value} (H0 : Rg W0 p g o L c m dp ds iv listed w s0 s1 s2 s3 s4 s5 s6 s7 s8 s9 s10 s11 s12 s13 s14) (hun : ¬ Up listed 15) : Rg W0 p g o L c m dp ds iv (listed.setIfInBounds 14 true) (w.alloc (.cells #[.slice none 0 0, .int .i64 0] 232)) s0 s1 s2 s3 s4 s5 s6 s7 s8 s9 s10 s11 s12 s13 (.pointer (some ⟨w.heap.size, 0, none⟩)) :=
  have H := H0.world (Below.alloc (Below.refl _ _) (Nat.le_refl _) (.cells #[.slice none 0 0, .int .i64 0] 232))
  ⟨by rw [Array.size_setIfInBounds]; exact H.size, H.bel, fun h h8 => H.f0 (h.set_ne (by decide)) (fun h => h8 h.more), fun h => H.f1 (h.set_ne (by decide)), fun h => H.f2 (h.set_ne (by decide)), fun h => H.f3 (h.set_ne (by decide)), fun h => H.f4 (h.set_ne (by decide)), fun h => H.f5 (h.set_ne (by decide)), fun h => H.f6 (h.set_ne (by decide)), fun h => H.f7 (h.set_ne (by decide)), fun h => H.f8 (h.set_ne (by decide)), fun h => H.f9 (h.set_ne (by decide)), fun h => H.f10 (h.set_ne (by decide)), fun h => H.f11 (h.set_ne (by decide)), fun h => H.f12 (h.set_ne (by decide)), fun h => let ⟨h1, h2⟩ := H.f13 (h.set_ne (by decide)); ⟨h1.more, h2⟩, fun _ => ⟨w.heap.size, _, rfl, H0.bel.size, Blk.new w _ _, rfl, fun h => absurd (h.set_ne (by decide)) hun⟩, fun h => (H.f15 (h.set_ne (by decide))).more⟩

theorem Rg.c15 {W0 : World} {p g o L c m : Nat} {dp : Int} {ds : List Nat} {iv : Value} {listed : Array Bool} {w : World} {s0 s1 s2 s3 s4 s5 s6 s7 s8 s9 s10 s11 s12 s13 s14 : Value} {w2 : World} {b : Nat} {cs : Array Value} (H : Rg W0 p g o L c m dp ds iv listed w s0 s1 s2 s3 s4 s5 s6 s7 s8 s9 s10 s11 s12 s13 s14) (h13 : Up listed 13) (h14 : Up listed 14) (hp : s14 = .pointer (some ⟨b, 0, none⟩)) (hlo : W0.heap.size ≤ b) (hr : s13 = .agg cs) (hsz : cs.size = 2) (hk : Blk w2 b 232 cs) (hb : Below W0.heap.size W0 w2) (hown : w2.ownsRow W0.heap.size 5 1 s8 m ((ds.take m).map dv)) : Rg W0 p g o L c m dp ds iv (listed.setIfInBounds 15 true) w2 s0 s1 s2 s3 s4 s5 s6 s7 s8 s9 s10 s11 s12 s13 s14 :=
  ⟨by rw [Array.size_setIfInBounds]; exact H.size, hb, fun _ h => absurd (H.f13 h13).1.more h, fun h => H.f1 (h.set_ne (by decide)), fun h => H.f2 (h.set_ne (by decide)), fun h => H.f3 (h.set_ne (by decide)), fun h => H.f4 (h.set_ne (by decide)), fun h => H.f5 (h.set_ne (by decide)), fun h => H.f6 (h.set_ne (by decide)), fun h => H.f7 (h.set_ne (by decide)), fun h => hown, fun h => H.f9 (h.set_ne (by decide)), fun h => H.f10 (h.set_ne (by decide)), fun h => H.f11 (h.set_ne (by decide)), fun h => H.f12 (h.set_ne (by decide)), fun h => let ⟨h1, h2⟩ := H.f13 (h.set_ne (by decide)); ⟨h1.more, h2⟩, fun _ => ⟨b, cs, hp, hlo, hk, hsz, fun _ => ⟨h13.more, hr⟩⟩, fun _ => h14.more⟩
end Go.Proofs.YtbnbemacljjimaaGreatDoor

namespace Go.Proofs.YtbnbemacljjimaaGreatDoor
open Go.RowKit Go.Lib
set_option linter.unusedVariables false

theorem dv_one (xs : List Nat) : ∀ u ∈ xs.map dv, u.oneCell' = true := by
  intro u hu
  obtain ⟨d, _, rfl⟩ := List.mem_map.1 hu
  rfl

theorem own_one {w : World} {base : Nat} {e : TypeId} {size n : Nat} {v : Value} {xs : List Value} (h : w.ownsRow base e size v n xs) : v.oneCell' = true := by
  rcases h.2 with ⟨rfl, _⟩ | ⟨_, _, _, rfl, _⟩ <;> rfl

theorem dec_size (a b : Value) : (Tryz.prog.info? 232).map (·.size) = some (#[a, b] : Array Value).size := by
  have h : (Tryz.prog.info? 232).map (·.size) = some 2 := by kernel_rfl
  exact h
theorem two_one {s : Value} {d : Int} (h : s.oneCell' = true) : (#[s, .int .i64 d] : Array Value).all (·.oneCell') = true := by
  simp [h]
  rfl

theorem only_grown {w w' : World} {b : Nat} (h : Only (· = b) w w') : w.grownBy w' (some b) :=
  ⟨h.os, h.tape, h.output, h.size, fun i hi hn => h.block i hi (fun e => hn (by rw [e]))⟩

theorem dc_of_own {w : World} {base b m : Nat} {ds : List Nat} {s : Value} {dp : Int} (hb : Blk w b 232 #[s, .int .i64 dp]) (hown : w.ownsRow base 5 1 s m ((ds.take m).map dv)) (hm : m ≤ ds.length) : Dc w b (ds.take m) dp := by
  refine ⟨s, hb, ?_⟩
  have hl : (ds.take m).length = m := by simp; omega
  rcases Go.Joins.ownsRow_forms hown with ⟨rfl, rfl⟩ | ⟨g, cap, rfl⟩
  · exact ⟨none, 0, rfl, by simp, by omega, fun h => absurd h (by simp)⟩
  · have h2 := own_ds (w := w) (base := base) (g := g) (cap := cap) (ds := ds.take m) (by rw [hl]; exact hown)
    rw [hl] at h2
    exact h2

theorem reads_of_dg {w w' : World} {p g o c : Nat} {ds : List Nat} {dp : Int} (h : Dg w p g o c ds dp) (m : Nat) (hm : m ≤ ds.length) (hb : Below w.heap.size w w') : Reads w' w.heap.size 1 (some ⟨g, o, none⟩) m ((ds.take m).map dv) := by
  refine ⟨by simp; omega, fun h0 => ⟨_, rfl, h.2.2.2.2.1, fun j u hu => ?_⟩⟩
  have hj : j < m := by
    have := (List.getElem?_eq_some_iff.1 hu).1
    simp at this; omega
  have e : (⟨g, o, none⟩ : Addr).add j = ⟨g, o + j, none⟩ := by unfold Addr.add; split <;> simp_all
  rw [e, hb.cell h.2.2.2.2.1, h.2.2.2.2.2 j (by omega)]
  rw [List.getElem?_map, List.getElem?_take_of_lt hj, List.getElem?_eq_getElem (by omega)] at hu
  simp [dv] at hu
  subst hu
  simp [dAt, List.getElem?_eq_getElem (show j < ds.length by omega)]

set_option maxHeartbeats 2000000 in
set_option maxRecDepth 100000 in
theorem down_any (w : World) (p n : Nat) (ds : List Nat) (dp : Int) (h : Dc w p ds dp) (hn : n < ds.length) (hl : ds.length ≤ 2000) :
    Calls Tryz.prog 201 #[.pointer (some ⟨p, 0, none⟩), .int .i64 (n : Nat)] w fun e w' => ∃ b, e = .returned (.pointer (some ⟨b, 0, none⟩)) ∧ w.heap.size ≤ b ∧ Below w.heap.size w w' ∧ Dc w' b (trimD (ds.take n)) (dpOf (trimD (ds.take n)) dp) := by
  have hne : ds ≠ [] := by intro e; subst e; simp at hn
  obtain ⟨g, o, c, hg⟩ := h.dg hne
  have hc0 : w.cell? ⟨p, 0, none⟩ = some (.slice (some ⟨g, o, none⟩) ds.length c) := hg.1.cell 0
  have hc1 : w.cell? ⟨p, 1, none⟩ = some (.int .i64 dp) := hg.1.cell 1
  have hp := hg.1.lt
  have hlc := hg.2.1
  obtain ⟨i5, hi5, hz0, hz1, hz2⟩ := info_parts Tryz.infoByte
  replace hi5 := hide hi5
  replace hz0 := hide hz0
  replace hz1 := hide hz1
  replace hz2 := hide hz2
  replace hg := hide hg
  clear h
  go_enter Tryz.func201, Tryz.ntmps201
  go_upto_region 3 with fail
  have hdec : decide (ds.length ≤ n) = false := by simp; omega
  rw [hdec]
  clear hdec
  refine wp_region_inv (by kernel_rfl) (fun listed a w' => ∃ s0 s1 s2 s3 s4 s5 s6 s7 s8 s9 s10 s11 s12 s13 s14, a = (⟨#[.pointer (some ⟨p, 0, none⟩), .int .i64 (n : Nat), undef, undef, .pointer none, s14, .int .i64 (n : Nat), .pointer (some ⟨p, 0, none⟩), .pointer (some ⟨p, 0, none⟩), .pointer (some ⟨p, 0, none⟩), .slice (some ⟨g, o, none⟩) ds.length c, .int .i64 (ds.length : Nat), .bool false, undef, s0, s1, s2, s3, s4, s5, s6, s7, s8, s9, s10, s11, s12, s13, undef], []⟩ : Act) ∧ Rg w p g o ds.length c n dp ds (.int .i64 (n : Nat)) listed w' s0 s1 s2 s3 s4 s5 s6 s7 s8 s9 s10 s11 s12 s13 s14) ?_ ?_ ?_
  · exact ⟨_, _, _, _, _, _, _, _, _, _, _, _, _, _, _, rfl, Rg.start ..⟩
  · rintro listed a w' i ⟨s0, s1, s2, s3, s4, s5, s6, s7, s8, s9, s10, s11, s12, s13, s14, rfl, H⟩ hi
    have hun := Up.un hi
    have hlt16 : i < 16 := by
      obtain ⟨-, o, ho, -⟩ := mem_ready.1 hi
      rcases Nat.lt_or_ge i 16 with h | h
      · exact h
      · rw [Array.getElem?_eq_none (by exact h)] at ho
        cases ho
    have hc0' : w'.cell? ⟨p, 0, none⟩ = some (.slice (some ⟨g, o, none⟩) ds.length c) := (H.bel.cell hp).trans hc0
    have hc1' : w'.cell? ⟨p, 1, none⟩ = some (.int .i64 dp) := (H.bel.cell hp).trans hc1
    have hi16 : i = 0 ∨ i = 1 ∨ i = 2 ∨ i = 3 ∨ i = 4 ∨ i = 5 ∨ i = 6 ∨ i = 7 ∨ i = 8 ∨ i = 9 ∨ i = 10 ∨ i = 11 ∨ i = 12 ∨ i = 13 ∨ i = 14 ∨ i = 15 := by omega
    rcases hi16 with rfl | rfl | rfl | rfl | rfl | rfl | rfl | rfl | rfl | rfl | rfl | rfl | rfl | rfl | rfl | rfl
    · replace H := hide H
      replace hi := hide hi
      refine wpOp_of_list rfl ?_
      go_wp2_with fail
      refine Then.normal ⟨_, _, _, _, _, _, _, _, _, _, _, _, _, _, _, rfl, H.out.c0 (Below.alloc (Below.refl _ _) (Nat.le_refl _) _) ?_⟩
      exact ⟨rfl, .inr ⟨_, _, _, rfl, H.out.bel.size, Blk.new _ _ _, Nat.le_refl _, Nat.zero_le _, rfl, rfl⟩⟩
    · replace H := hide H
      replace hi := hide hi
      refine wpOp_of_list rfl ?_
      go_wp2_with fail
      refine Then.normal ⟨_, _, _, _, _, _, _, _, _, _, _, _, _, _, _, rfl, H.out.c1 rfl⟩
    · obtain rfl := H.f1 (Up.waits hi 1 (by kernel_rfl))
      replace H := hide H
      replace hi := hide hi
      refine wpOp_of_list rfl ?_
      go_wp2_with fail
      refine Then.normal ⟨_, _, _, _, _, _, _, _, _, _, _, _, _, _, _, rfl, H.out.c2 rfl⟩
    · obtain rfl := H.f2 (Up.waits hi 2 (by kernel_rfl))
      replace H := hide H
      replace hi := hide hi
      refine wpOp_of_list rfl ?_
      go_wp2_with fail
      refine Then.normal ⟨_, _, _, _, _, _, _, _, _, _, _, _, _, _, _, rfl, H.out.c3 rfl⟩
    · obtain rfl := H.f3 (Up.waits hi 3 (by kernel_rfl))
      replace H := hide H
      replace hi := hide hi
      refine wpOp_of_list rfl ?_
      go_wp2_with fail
      refine Then.normal ⟨_, _, _, _, _, _, _, _, _, _, _, _, _, _, _, rfl, H.out.c4 rfl⟩
    · replace H := hide H
      replace hi := hide hi
      refine wpOp_of_list rfl ?_
      go_wp2_with fail
      refine Then.normal ⟨_, _, _, _, _, _, _, _, _, _, _, _, _, _, _, rfl, H.out.c5 rfl⟩
    · obtain rfl := H.f5 (Up.waits hi 5 (by kernel_rfl))
      replace H := hide H
      replace hi := hide hi
      refine wpOp_of_list rfl ?_
      go_wp2_with fail
      refine Then.normal ⟨_, _, _, _, _, _, _, _, _, _, _, _, _, _, _, rfl, H.out.c6 rfl⟩
    · obtain rfl := H.f4 (Up.waits hi 4 (by kernel_rfl))
      obtain rfl := H.f6 (Up.waits hi 6 (by kernel_rfl))
      replace H := hide H
      replace hi := hide hi
      refine wpOp_of_list rfl ?_
      go_wp2_with fail
      refine Then.normal ⟨_, _, _, _, _, _, _, _, _, _, _, _, _, _, _, rfl, H.out.c7 rfl⟩
    · obtain rfl := H.f7 (Up.waits hi 7 (by kernel_rfl))
      have hun8 : ¬ Up listed 8 := Up.no hun
      have hown := H.f0 (Up.waits hi 0 (by kernel_rfl)) hun8
      have hrd := hide (reads_of_dg hg.out n (by omega) H.bel)
      have hbs : w.heap.size ≤ w'.heap.size := H.bel.size
      replace H := hide H
      replace hi := hide hi
      replace hown := hide hown
      refine wpOp_of_list rfl ?_
      refine wpList_append_any _ rfl (.tmp 14) (.tmp 21) 119 rfl w.heap.size 5 i5 _ 1 1 Tryz.underlying119 hi5.out hz0.out hz1.out hz2.out rfl (Nat.zero_lt_succ 0) s0 0 [] rfl hown.out w.heap.size (some ⟨g, o, none⟩) (n) c ((ds.take (n)).map dv) rfl hrd.out (dv_one _) (by unfold maxLen; omega) (by omega) hbs ?_
      intro v' w4 own4 g4 loc4
      rw [List.nil_append, Nat.zero_add] at own4
      go_wp2_with fail
      refine Then.normal ⟨_, _, _, _, _, _, _, _, _, _, _, _, _, _, _, rfl, H.out.c8 hun8 hown.out g4 own4⟩
    · replace H := hide H
      replace hi := hide hi
      refine wpOp_of_list rfl ?_
      go_wp2_with fail
      refine Then.normal ⟨_, _, _, _, _, _, _, _, _, _, _, _, _, _, _, rfl, H.out.c9 rfl⟩
    · obtain rfl := H.f9 (Up.waits hi 9 (by kernel_rfl))
      replace H := hide H
      replace hi := hide hi
      refine wpOp_of_list rfl ?_
      go_wp2_with fail
      refine Then.normal ⟨_, _, _, _, _, _, _, _, _, _, _, _, _, _, _, rfl, H.out.c10 rfl⟩
    · obtain rfl := H.f10 (Up.waits hi 10 (by kernel_rfl))
      replace H := hide H
      replace hi := hide hi
      refine wpOp_of_list rfl ?_
      go_wp2_with fail
      refine Then.normal ⟨_, _, _, _, _, _, _, _, _, _, _, _, _, _, _, rfl, H.out.c11 rfl⟩
    · obtain rfl := H.f11 (Up.waits hi 11 (by kernel_rfl))
      replace H := hide H
      replace hi := hide hi
      refine wpOp_of_list rfl ?_
      go_wp2_with fail
      refine Then.normal ⟨_, _, _, _, _, _, _, _, _, _, _, _, _, _, _, rfl, H.out.c12 rfl⟩
    · obtain rfl := H.f12 (Up.waits hi 12 (by kernel_rfl))
      have h8 := Up.waits hi 8 (by kernel_rfl)
      have hown := H.f8 h8
      have hun13 : ¬ Up listed 13 := Up.no hun
      obtain ⟨AA, nn, cc, hs8⟩ : ∃ A n c, s8 = .slice A n c := by
        rcases Go.Joins.ownsRow_forms hown with ⟨e, _⟩ | ⟨_, _, e⟩
        · exact ⟨_, _, _, e⟩
        · exact ⟨_, _, _, e⟩
      subst hs8
      replace H := hide H
      replace hi := hide hi
      replace hown := hide hown
      refine wpOp_of_list rfl ?_
      go_wp2_with fail
      refine Then.normal ⟨_, _, _, _, _, _, _, _, _, _, _, _, _, _, _, rfl, H.out.c13 hun13 h8 rfl⟩
    · have hun15 : ¬ Up listed 15 := fun h => Up.no hun (H.f15 h)
      replace H := hide H
      replace hi := hide hi
      refine wpOp_of_list rfl ?_
      go_wp2_with fail
      refine Then.normal ⟨_, _, _, _, _, _, _, _, _, _, _, _, _, _, _, rfl, H.out.c14 hun15⟩
    · have h13 := Up.waits hi 13 (by kernel_rfl)
      have h14 := Up.waits hi 14 (by kernel_rfl)
      obtain ⟨b, cs, hpb, hlo, hbk, hsz, _⟩ := H.f14 h14
      obtain ⟨h8, hs13⟩ := H.f13 h13
      have hown := H.f8 h8
      have hb8 : s8.ownBlock ≠ some b := own_blk_ne hown hbk (by decide)
      have hos := own_one hown
      subst hpb
      subst hs13
      have hbel := H.bel
      replace H := hide H
      replace hi := hide hi
      replace hown := hide hown
      refine wpOp_of_list rfl ?_
      refine wpList_store_blk rfl 232 (.tmp 5) (.tmp 27) rfl b _ rfl rfl 232 _ hbk (dec_size _ _) hsz (two_one hos) ?_
      intro w4 hk4 ho4 _
      go_wp2_with fail
      refine Then.normal ⟨_, _, _, _, _, _, _, _, _, _, _, _, _, _, _, rfl, H.out.c15 h13 h14 rfl hlo rfl rfl hk4 (hbel.trans (ho4.below (fun k hk => by omega) hbel.size)) (hown.out.kept (only_grown ho4) (.inr hb8))⟩
  · rintro listed a w' ⟨s0, s1, s2, s3, s4, s5, s6, s7, s8, s9, s10, s11, s12, s13, s14, rfl, H⟩ hr
    have hall := Up.all (md := .any) H.size (by kernel_rfl) hr
    obtain ⟨b, cs, rfl, hlo, hbk, hsz, hcs⟩ := H.f14 (hall 14 (by decide))
    have h13 := (hcs (hall 15 (by decide))).2
    have hs13 := (H.f13 (hall 13 (by decide))).2
    rw [h13] at hs13
    injection hs13 with hs13
    subst hs13
    have hown := H.f8 (hall 8 (by decide))
    have hbel := hide H.bel
    have hDc := hide (dc_of_own hbk hown (by omega : n ≤ ds.length))
    clear H hall hown hbk hcs h13 hr
    go_wp2_with (go_at_call 198; refine (trim_any _ _ _ _ hDc.out).mono ?_; rintro e w3 ⟨rfl, hg3, hd3⟩)
    go_ret
    exact ⟨b, rfl, hlo, hbel.out.trans ⟨hg3.os, hg3.tape, hg3.output, hg3.size, fun k hk => hg3.block k (Nat.lt_of_lt_of_le hk hbel.out.size) (by intro e; injection e with e; omega)⟩, hd3⟩
end Go.Proofs.YtbnbemacljjimaaGreatDoor

namespace Go.Proofs.YtbnbemacljjimaaGreatDoor
open Go.RowKit Go.Lib
set_option linter.unusedVariables false

theorem up_end {w : World} {base b i g cap d : Nat} {ds : List Nat} {dp : Int} (hb : Blk w b 232 #[.slice (some ⟨g, 0, none⟩) (i + 1) cap, .int .i64 dp]) (hown : w.ownsRow base 5 1 (.slice (some ⟨g, 0, none⟩) (i + 1) cap) (i + 1) ((ds.take (i + 1)).map dv)) (hi : i < ds.length) (hd : dAt ds i = d) :
    w.cell? ⟨g, i, none⟩ = some (.int .u8 (d : Nat)) ∧ w.frozen? ⟨g, i, none⟩ = false ∧ Dc (w.setCell ⟨g, i, none⟩ (.int .u8 (d + 1 : Nat))) b (ds.take i ++ [d + 1]) dp := by
  have hc := hown.cellAt i (by omega)
  have e1 : ((ds.take (i + 1)).map dv)[i]? = some (dv d) := by
    rw [List.getElem?_map, List.getElem?_take_of_lt (by omega), List.getElem?_eq_getElem hi]
    simp [dAt, List.getElem?_eq_getElem hi] at hd
    simp [hd]
  rw [e1] at hc
  have hgb : b ≠ g := by
    intro e
    exact own_blk_ne hown hb (by decide) (by rw [e]; rfl)
  have hst := hown.stored i (.int .u8 (d + 1 : Nat))
  refine ⟨hc, hown.frozenAt i, _, hb.far hgb _, ?_⟩
  have hset : ((ds.take (i + 1)).map dv).set i (.int .u8 (d + 1 : Nat)) = (ds.take i ++ [d + 1]).map dv := by
    have e2 : ds.take (i + 1) = ds.take i ++ [d] := by
      rw [List.take_add_one, List.getElem?_eq_getElem hi]
      simp [dAt, List.getElem?_eq_getElem hi] at hd
      simp [hd]
    have e3 : ((ds.take i).map dv).length = i := by simp; omega
    rw [e2, List.map_append, List.map_append, List.set_append_right _ _ (by omega), e3, Nat.sub_self]
    rfl
  have hlen : (ds.take i ++ [d + 1]).length = i + 1 := by simp; omega
  have := own_ds (w := w.setCell ⟨g, i, none⟩ (.int .u8 (d + 1 : Nat))) (base := base) (g := g) (cap := cap) (ds := ds.take i ++ [d + 1]) (by rw [hlen, ← hset]; exact hst.1)
  rw [hlen] at this
  exact this

set_option maxHeartbeats 2000000 in
set_option maxRecDepth 100000 in
theorem up_any (w : World) (p n : Nat) (ds : List Nat) (dp : Int) (h : Dc w p ds dp) (hn : n < ds.length) (hl : ds.length ≤ 2000) (hdp : -100000 ≤ dp ∧ dp ≤ 100000) :
    Calls Tryz.prog 202 #[.pointer (some ⟨p, 0, none⟩), .int .i64 (n : Nat)] w fun e w' => ∃ b, e = .returned (.pointer (some ⟨b, 0, none⟩)) ∧ w.heap.size ≤ b ∧ Below w.heap.size w w' ∧
      (∀ us, upD ds n = some us → Dc w' b us dp) ∧ (upD ds n = none → Dc w' b [1] (dp + 1)) := by
  have hne : ds ≠ [] := by intro e; subst e; simp at hn
  obtain ⟨g, o, c, hg⟩ := h.dg hne
  have hc0 : w.cell? ⟨p, 0, none⟩ = some (.slice (some ⟨g, o, none⟩) ds.length c) := hg.1.cell 0
  have hc1 : w.cell? ⟨p, 1, none⟩ = some (.int .i64 dp) := hg.1.cell 1
  have hp := hg.1.lt
  have hlc := hg.2.1
  obtain ⟨i5, hi5, hz0, hz1, hz2⟩ := info_parts Tryz.infoByte
  replace hi5 := hide hi5
  replace hz0 := hide hz0
  replace hz1 := hide hz1
  replace hz2 := hide hz2
  replace hg := hide hg
  clear h
  go_enter Tryz.func202, Tryz.ntmps202
  go_wp2
  go_loopw [5] (fun s5 wr => ∃ i : Nat, s5 = .int .i64 ((i : Int) - 1) ∧ i ≤ n ∧ upD ds n = upD ds i ∧ w = wr) (fun i _ => (RowKit.intOf i + 1).toNat)
  case atStart => exact ⟨n, rfl, Nat.le_refl _, rfl, rfl⟩
  case round =>
    obtain ⟨i, rfl, hi, hup, rfl⟩ := hrel
    cases i with
    | zero =>
      have hno : upD ds n = none := by rw [hup]; rfl
      replace hup := hide hup
      replace hno := hide hno
      go_wp2
      go_ret
      have hb0 := (Blk.new w 5 #[.int .u8 1]).alloc (.cells #[.slice (some ⟨w.heap.size, 0, none⟩) 1 1, .int .i64 (dp + 1)] 232)
      have hb1 := Blk.new (w.alloc (.cells #[.int .u8 1] 5)) 232 #[.slice (some ⟨w.heap.size, 0, none⟩) 1 1, .int .i64 (dp + 1)]
      have hsz : (w.alloc (.cells #[.int .u8 1] 5)).heap.size = w.heap.size + 1 := by simp
      rw [hsz] at hb1
      refine ⟨w.heap.size + 1, rfl, by omega, ((Below.refl _ w).alloc (Nat.le_refl _) _).alloc (by simp) _, fun us hus => ?_, fun _ => ⟨_, hb1, some ⟨w.heap.size, 0, none⟩, 1, rfl, Nat.le_refl _, by decide, fun _ => ⟨w.heap.size, 0, _, _, rfl, hb0, fun j hj => ?_⟩⟩⟩
      · rw [hno.out] at hus; cases hus
      · obtain rfl : j = 0 := by simpa using hj
        rfl
    | succ i =>
      have hds : w.cell? ⟨g, o + i, none⟩ = some (.int .u8 (dAt ds i : Nat)) := hg.out.2.2.2.2.2 i (by omega)
      have hs5 : ((i + 1 : Nat) : Int) - 1 = i := by omega
      rw [hs5]
      obtain ⟨d, hd⟩ : ∃ d, dAt ds i = d := ⟨_, rfl⟩
      by_cases h9 : d < 9
      · rw [hd] at hds
        replace hd := hide hd
        replace hup := hide hup
        go_upto_region 7 with fail
        have hdec : decide (ds.length ≤ n) = false := by simp; omega
        have hdec2 : decide (((d : Nat) : Int) < 9) = true := by simp; omega
        rw [hdec, hdec2]
        clear hdec hdec2
        refine wp_region_inv (by kernel_rfl) (fun listed a w' => ∃ s0 s1 s2 s3 s4 s5 s6 s7 s8 s9 s10 s11 s12 s13 s14, a = (⟨#[.pointer (some ⟨p, 0, none⟩), .int .i64 (n : Nat), undef, undef, u4, .int .i64 (i : Nat), s14, .int .i64 (n : Nat), .pointer (some ⟨p, 0, none⟩), .pointer (some ⟨p, 0, none⟩), .pointer (some ⟨p, 0, none⟩), .slice (some ⟨g, o, none⟩) ds.length c, .int .i64 (ds.length : Nat), .bool false, undef, .int .i64 (n : Nat), .int .i64 ((n : Int) - 1), .int .i64 (i : Nat), .bool true, u19, u20, .pointer (some ⟨p, 0, none⟩), .pointer (some ⟨p, 0, none⟩), .pointer (some ⟨p, 0, none⟩), .slice (some ⟨g, o, none⟩) ds.length c, .int .i64 (i : Nat), .pointer (some ⟨g, o + i, none⟩), .int .u8 (d : Nat), .bool true, s0, s1, s2, s3, s4, s5, s6, s7, s8, s9, s10, s11, s12, s13, u43, u44, u45, u46, u47, u48, u49, undef, undef, undef, undef, undef, undef, undef, undef], []⟩ : Act) ∧ Rg w p g o ds.length c (i + 1) dp ds (.int .i64 (i : Nat)) listed w' s0 s1 s2 s3 s4 s5 s6 s7 s8 s9 s10 s11 s12 s13 s14) ?_ ?_ ?_
        · exact ⟨_, _, _, _, _, _, _, _, _, _, _, _, _, _, _, rfl, Rg.start ..⟩
        · rintro listed a w' k ⟨s0, s1, s2, s3, s4, s5, s6, s7, s8, s9, s10, s11, s12, s13, s14, rfl, H⟩ hk
          have hun := Up.un hk
          have hlt16 : k < 16 := by
            obtain ⟨-, o, ho, -⟩ := mem_ready.1 hk
            rcases Nat.lt_or_ge k 16 with h | h
            · exact h
            · rw [Array.getElem?_eq_none (by exact h)] at ho
              cases ho
          have hc0' : w'.cell? ⟨p, 0, none⟩ = some (.slice (some ⟨g, o, none⟩) ds.length c) := (H.bel.cell hp).trans hc0
          have hc1' : w'.cell? ⟨p, 1, none⟩ = some (.int .i64 dp) := (H.bel.cell hp).trans hc1
          have hi16 : k = 0 ∨ k = 1 ∨ k = 2 ∨ k = 3 ∨ k = 4 ∨ k = 5 ∨ k = 6 ∨ k = 7 ∨ k = 8 ∨ k = 9 ∨ k = 10 ∨ k = 11 ∨ k = 12 ∨ k = 13 ∨ k = 14 ∨ k = 15 := by omega
          rcases hi16 with rfl | rfl | rfl | rfl | rfl | rfl | rfl | rfl | rfl | rfl | rfl | rfl | rfl | rfl | rfl | rfl
          · replace H := hide H
            replace hk := hide hk
            refine wpOp_of_list rfl ?_
            go_wp2_with fail
            refine Then.normal ⟨_, _, _, _, _, _, _, _, _, _, _, _, _, _, _, rfl, H.out.c0 (Below.alloc (Below.refl _ _) (Nat.le_refl _) _) ?_⟩
            exact ⟨rfl, .inr ⟨_, _, _, rfl, H.out.bel.size, Blk.new _ _ _, Nat.le_refl _, Nat.zero_le _, rfl, rfl⟩⟩
          · replace H := hide H
            replace hk := hide hk
            refine wpOp_of_list rfl ?_
            go_wp2_with fail
            refine Then.normal ⟨_, _, _, _, _, _, _, _, _, _, _, _, _, _, _, rfl, H.out.c1 rfl⟩
          · obtain rfl := H.f1 (Up.waits hk 1 (by kernel_rfl))
            replace H := hide H
            replace hk := hide hk
            refine wpOp_of_list rfl ?_
            go_wp2_with fail
            refine Then.normal ⟨_, _, _, _, _, _, _, _, _, _, _, _, _, _, _, rfl, H.out.c2 rfl⟩
          · obtain rfl := H.f2 (Up.waits hk 2 (by kernel_rfl))
            replace H := hide H
            replace hk := hide hk
            refine wpOp_of_list rfl ?_
            go_wp2_with fail
            refine Then.normal ⟨_, _, _, _, _, _, _, _, _, _, _, _, _, _, _, rfl, H.out.c3 rfl⟩
          · obtain rfl := H.f3 (Up.waits hk 3 (by kernel_rfl))
            replace H := hide H
            replace hk := hide hk
            refine wpOp_of_list rfl ?_
            go_wp2_with fail
            refine Then.normal ⟨_, _, _, _, _, _, _, _, _, _, _, _, _, _, _, rfl, H.out.c4 rfl⟩
          · replace H := hide H
            replace hk := hide hk
            refine wpOp_of_list rfl ?_
            go_wp2_with fail
            refine Then.normal ⟨_, _, _, _, _, _, _, _, _, _, _, _, _, _, _, rfl, H.out.c5 rfl⟩
          · obtain rfl := H.f5 (Up.waits hk 5 (by kernel_rfl))
            replace H := hide H
            replace hk := hide hk
            refine wpOp_of_list rfl ?_
            go_wp2_with fail
            refine Then.normal ⟨_, _, _, _, _, _, _, _, _, _, _, _, _, _, _, rfl, H.out.c6 rfl⟩
          · obtain rfl := H.f4 (Up.waits hk 4 (by kernel_rfl))
            obtain rfl := H.f6 (Up.waits hk 6 (by kernel_rfl))
            replace H := hide H
            replace hk := hide hk
            refine wpOp_of_list rfl ?_
            go_wp2_with fail
            refine Then.normal ⟨_, _, _, _, _, _, _, _, _, _, _, _, _, _, _, rfl, H.out.c7 rfl⟩
          · obtain rfl := H.f7 (Up.waits hk 7 (by kernel_rfl))
            have hun8 : ¬ Up listed 8 := Up.no hun
            have hown := H.f0 (Up.waits hk 0 (by kernel_rfl)) hun8
            have hrd := hide (reads_of_dg hg.out (i + 1) (by omega) H.bel)
            have hbs : w.heap.size ≤ w'.heap.size := H.bel.size
            replace H := hide H
            replace hk := hide hk
            replace hown := hide hown
            refine wpOp_of_list rfl ?_
            refine wpList_append_any _ rfl (.tmp 29) (.tmp 36) 119 rfl w.heap.size 5 i5 _ 1 1 Tryz.underlying119 hi5.out hz0.out hz1.out hz2.out rfl (Nat.zero_lt_succ 0) s0 0 [] rfl hown.out w.heap.size (some ⟨g, o, none⟩) ((i + 1)) c ((ds.take ((i + 1))).map dv) rfl hrd.out (dv_one _) (by unfold maxLen; omega) (by omega) hbs ?_
            intro v' w4 own4 g4 loc4
            rw [List.nil_append, Nat.zero_add] at own4
            go_wp2_with fail
            refine Then.normal ⟨_, _, _, _, _, _, _, _, _, _, _, _, _, _, _, rfl, H.out.c8 hun8 hown.out g4 own4⟩
          · replace H := hide H
            replace hk := hide hk
            refine wpOp_of_list rfl ?_
            go_wp2_with fail
            refine Then.normal ⟨_, _, _, _, _, _, _, _, _, _, _, _, _, _, _, rfl, H.out.c9 rfl⟩
          · obtain rfl := H.f9 (Up.waits hk 9 (by kernel_rfl))
            replace H := hide H
            replace hk := hide hk
            refine wpOp_of_list rfl ?_
            go_wp2_with fail
            refine Then.normal ⟨_, _, _, _, _, _, _, _, _, _, _, _, _, _, _, rfl, H.out.c10 rfl⟩
          · obtain rfl := H.f10 (Up.waits hk 10 (by kernel_rfl))
            replace H := hide H
            replace hk := hide hk
            refine wpOp_of_list rfl ?_
            go_wp2_with fail
            refine Then.normal ⟨_, _, _, _, _, _, _, _, _, _, _, _, _, _, _, rfl, H.out.c11 rfl⟩
          · obtain rfl := H.f11 (Up.waits hk 11 (by kernel_rfl))
            replace H := hide H
            replace hk := hide hk
            refine wpOp_of_list rfl ?_
            go_wp2_with fail
            refine Then.normal ⟨_, _, _, _, _, _, _, _, _, _, _, _, _, _, _, rfl, H.out.c12 rfl⟩
          · obtain rfl := H.f12 (Up.waits hk 12 (by kernel_rfl))
            have h8 := Up.waits hk 8 (by kernel_rfl)
            have hown := H.f8 h8
            have hun13 : ¬ Up listed 13 := Up.no hun
            obtain ⟨AA, nn, cc, hs8⟩ : ∃ A n c, s8 = .slice A n c := by
              rcases Go.Joins.ownsRow_forms hown with ⟨e, _⟩ | ⟨_, _, e⟩
              · exact ⟨_, _, _, e⟩
              · exact ⟨_, _, _, e⟩
            subst hs8
            replace H := hide H
            replace hk := hide hk
            replace hown := hide hown
            refine wpOp_of_list rfl ?_
            go_wp2_with fail
            refine Then.normal ⟨_, _, _, _, _, _, _, _, _, _, _, _, _, _, _, rfl, H.out.c13 hun13 h8 rfl⟩
          · have hun15 : ¬ Up listed 15 := fun h => Up.no hun (H.f15 h)
            replace H := hide H
            replace hk := hide hk
            refine wpOp_of_list rfl ?_
            go_wp2_with fail
            refine Then.normal ⟨_, _, _, _, _, _, _, _, _, _, _, _, _, _, _, rfl, H.out.c14 hun15⟩
          · have h13 := Up.waits hk 13 (by kernel_rfl)
            have h14 := Up.waits hk 14 (by kernel_rfl)
            obtain ⟨b, cs, hpb, hlo, hbk, hsz, _⟩ := H.f14 h14
            obtain ⟨h8, hs13⟩ := H.f13 h13
            have hown := H.f8 h8
            have hb8 : s8.ownBlock ≠ some b := own_blk_ne hown hbk (by decide)
            have hos := own_one hown
            subst hpb
            subst hs13
            have hbel := H.bel
            replace H := hide H
            replace hk := hide hk
            replace hown := hide hown
            refine wpOp_of_list rfl ?_
            refine wpList_store_blk rfl 232 (.tmp 6) (.tmp 42) rfl b _ rfl rfl 232 _ hbk (dec_size _ _) hsz (two_one hos) ?_
            intro w4 hk4 ho4 _
            go_wp2_with fail
            refine Then.normal ⟨_, _, _, _, _, _, _, _, _, _, _, _, _, _, _, rfl, H.out.c15 h13 h14 rfl hlo rfl rfl hk4 (hbel.trans (ho4.below (fun k hk => by omega) hbel.size)) (hown.out.kept (only_grown ho4) (.inr hb8))⟩
        · rintro listed a w' ⟨s0, s1, s2, s3, s4, s5, s6, s7, s8, s9, s10, s11, s12, s13, s14, rfl, H⟩ hr
          have hall := Up.all (md := .any) H.size (by kernel_rfl) hr
          obtain ⟨b, cs, rfl, hlo, hbk, hsz, hcs⟩ := H.f14 (hall 14 (by decide))
          have h13 := (hcs (hall 15 (by decide))).2
          have hs13 := (H.f13 (hall 13 (by decide))).2
          rw [h13] at hs13
          injection hs13 with hs13
          subst hs13
          have hown := H.f8 (hall 8 (by decide))
          have hbel := hide H.bel
          obtain ⟨g2, cap, rfl⟩ := Go.Joins.ownsRow_form hown (Nat.succ_pos i)
          have hfin := hide (up_end hbk hown (by omega : i < ds.length) (hd.out.symm ▸ rfl : dAt ds i = d))
          have c0 : w'.cell? ⟨b, 0, none⟩ = some (.slice (some ⟨g2, 0, none⟩) (i + 1) cap) := hbk.cell 0
          have c1 : w'.cell? ⟨g2, i, none⟩ = some (.int .u8 (d : Nat)) := hfin.out.1
          have f1 : w'.frozen? ⟨g2, i, none⟩ = false := hfin.out.2.1
          have hg2 : w.heap.size ≤ g2 := (hown.lt g2 rfl).1
          have hcap : i + 1 ≤ cap := by
            rcases hown.2 with ⟨h1, _⟩ | ⟨_, _, _, h1, _, _, h3, _⟩
            · cases h1
            · injection h1 with _ _ h1
              subst h1
              exact h3
          clear H hall hown hbk hcs h13 hr
          go_wp2
          go_ret
          refine ⟨b, rfl, hlo, hbel.out.setCell hg2 _, fun us hus => ?_, fun hno => ?_⟩
          · have e : upD ds (i + 1) = some (ds.take i ++ [d + 1]) := by
              unfold upD
              rw [hd.out, if_pos h9]
            rw [hup.out, e] at hus
            injection hus with hus
            rw [← hus]
            exact hfin.out.2.2
          · have e : upD ds (i + 1) = some (ds.take i ++ [d + 1]) := by
              unfold upD
              rw [hd.out, if_pos h9]
            rw [hup.out, e] at hno
            cases hno
      · have hup2 : upD ds n = upD ds i := by
          have e : upD ds (i + 1) = upD ds i := by
            rw [upD, hd, if_neg h9]
          rw [hup, e]
        rw [hd] at hds
        replace hd := hide hd
        replace hup := hide hup
        replace hup2 := hide hup2
        go_wp2
        go_roundw
        case rel => exact ⟨i, rfl, by omega, hup2.out, trivial⟩
        case measure => simp [RowKit.intOf]
end Go.Proofs.YtbnbemacljjimaaGreatDoor
