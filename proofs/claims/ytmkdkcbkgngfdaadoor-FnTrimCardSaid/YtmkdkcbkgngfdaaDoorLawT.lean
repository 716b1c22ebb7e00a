/- The law of Trim, walked. -/
import Derived.Test.YtmkdkcbkgngfdaaDoorTrimL
import Derived.Test.YtmkdkcbkgngfdaaDoorLawB
import Derived.Test.YtmkdkcbkgngfdaaDoorInv
namespace Go.Proofs.YtmkdkcbkgngfdaaDoor
open Go.RowKit Go.Lib
set_option linter.unusedVariables false

theorem JAt.leafy {w w' : World} {B B' n : Nat} {x : Value} {v : JV} (h : JAt w B (n + 1) x v) (e1 : v.list = []) (e2 : v.keys = []) (e3 : v.vals = []) : JAt w' B' (n + 1) x v := by
  obtain ⟨la, lc, ka, kc, va, vc, e, h1, h2, h3, h4, h5, h6, h7, h8, h9, hl, hs, hv⟩ := h
  refine ⟨la, lc, ka, kc, va, vc, e, h1, h2, h3, h4, h5, h6, h7, h8, h9, ?_, ?_, ?_⟩
  · rw [e1]; exact fun h => absurd h (Nat.lt_irrefl 0)
  · rw [e2]; exact ⟨fun s hs => absurd hs List.not_mem_nil, fun h => absurd h (Nat.lt_irrefl 0)⟩
  · rw [e3]; exact fun h => absurd h (Nat.lt_irrefl 0)

theorem ResAt.leafy {w w' : World} {B B' n : Nat} {x : Value} {v : JV} {z : Int} (h : ResAt w B n x v z) (e1 : v.list = []) (e2 : v.keys = []) (e3 : v.vals = []) : ResAt w' B' n x v z := by
  obtain ⟨c0, c1, c2, c3, c4, c5, rfl, h⟩ := h
  exact ⟨_, _, _, _, _, _, rfl, h.leafy e1 e2 e3⟩

/-- What a door answers: a string, or an error. -/
def trimU (v : JV) (s : ByteArray) : JV := if v.kind = 4 then strJ s else zeroJ
def trimZ (v : JV) : Int := if v.kind = 4 then 0 else 1

/-- An answer's seven cells. -/
def seven (u : JV) (Z : Int) (la : Option Addr) (lc : Nat) (ka : Option Addr) (kc : Nat) (va : Option Addr) (vc : Nat) : Array Value := #[.int .i64 u.kind, .int .i64 u.half, .string u.text, .slice la u.list.length lc, .slice ka u.keys.length kc, .slice va u.vals.length vc, .int .i64 Z]

/-- A door's answer, in whatever world. -/
def Told (r : Value) (u : JV) (Z : Int) : Prop := (∃ la lc ka kc va vc, r = .agg (seven u Z la lc ka kc va vc)) ∧ ∀ w B, ResAt w B 61 r u Z

theorem told_of {v : JV} {s : ByteArray} {w : World} {B : Nat} {r : Value} (h1 : v.kind = 4 → ResAt w B 61 r (strJ s) 0) (h2 : ¬ v.kind = 4 → ResAt w B 61 r zeroJ 1) : Told r (trimU v s) (trimZ v) := by
  unfold Told trimU trimZ
  by_cases hk : v.kind = 4
  · rw [if_pos hk, if_pos hk]
    exact ⟨(h1 hk).shape, fun w B => (h1 hk).leafy rfl rfl rfl⟩
  · rw [if_neg hk, if_neg hk]
    exact ⟨(h2 hk).shape, fun w B => (h2 hk).leafy rfl rfl rfl⟩


/-- Where region 5 stands, whichever of its operations have come up. -/
structure Reg5 (W3 : World) (x : Value) (u1 u2 u3 : JV) (Z : Int) (listed : Array Bool) (w : World) (s3 s4 s5 s17 s18 s19 s20 s21 s22 : Value) : Prop where
  size : listed.size = 12
  bel : Below W3.heap.size W3 w
  f0 : Up listed 0 → s17 = x
  f1 : Up listed 1 → Told s18 u1 Z
  f2 : Up listed 2 → s19 = x
  f3 : Up listed 3 → Told s20 u2 Z
  f4 : Up listed 4 → s21 = x
  f5 : Up listed 5 → Told s22 u3 Z
  f6 : Up listed 6 → ∃ b cs, s3 = .pointer (some ⟨b, 0, none⟩) ∧ W3.heap.size ≤ b ∧ Blk w b 30 cs ∧ cs.size = 7 ∧ (Up listed 9 → s18 = .agg cs)
  f7 : Up listed 7 → ∃ b cs, s4 = .pointer (some ⟨b, 0, none⟩) ∧ W3.heap.size ≤ b ∧ Blk w b 30 cs ∧ cs.size = 7 ∧ (Up listed 10 → s20 = .agg cs)
  f8 : Up listed 8 → ∃ b cs, s5 = .pointer (some ⟨b, 0, none⟩) ∧ W3.heap.size ≤ b ∧ Blk w b 30 cs ∧ cs.size = 7 ∧ (Up listed 11 → s22 = .agg cs)
  d67 : Up listed 6 → Up listed 7 → ¬ s3 = s4
  d68 : Up listed 6 → Up listed 8 → ¬ s3 = s5
  d78 : Up listed 7 → Up listed 8 → ¬ s4 = s5
  o9 : Up listed 9 → Up listed 1 ∧ Up listed 6
  o10 : Up listed 10 → Up listed 3 ∧ Up listed 7
  o11 : Up listed 11 → Up listed 5 ∧ Up listed 8

theorem Reg5.start (W3 : World) (x : Value) (u1 u2 u3 : JV) (Z : Int) (s3 s4 s5 s17 s18 s19 s20 s21 s22 : Value) : Reg5 W3 x u1 u2 u3 Z (Array.replicate 12 false) W3.drew s3 s4 s5 s17 s18 s19 s20 s21 s22 :=
  ⟨by simp, ⟨rfl, rfl, rfl, Nat.le_refl _, fun _ _ => rfl⟩, fun h => h.start.elim, fun h => h.start.elim, fun h => h.start.elim, fun h => h.start.elim, fun h => h.start.elim, fun h => h.start.elim, fun h => h.start.elim, fun h => h.start.elim, fun h => h.start.elim, fun h => h.start.elim, fun h => h.start.elim, fun h => h.start.elim, fun h => h.start.elim, fun h => h.start.elim, fun h => h.start.elim⟩

theorem Reg5.world {W3 : World} {x : Value} {u1 u2 u3 : JV} {Z : Int} {listed : Array Bool} {w : World} {s3 s4 s5 s17 s18 s19 s20 s21 s22 : Value} {w2 : World} (H : Reg5 W3 x u1 u2 u3 Z listed w s3 s4 s5 s17 s18 s19 s20 s21 s22) (hb : Below w.heap.size w w2) : Reg5 W3 x u1 u2 u3 Z listed w2 s3 s4 s5 s17 s18 s19 s20 s21 s22 :=
  ⟨H.size, H.bel.trans (hb.mono H.bel.size), H.f0, H.f1, H.f2, H.f3, H.f4, H.f5, fun h => let ⟨b, cs, h1, h2, h3, h4, h5⟩ := H.f6 h; ⟨b, cs, h1, h2, h3.below hb h3.lt, h4, h5⟩, fun h => let ⟨b, cs, h1, h2, h3, h4, h5⟩ := H.f7 h; ⟨b, cs, h1, h2, h3.below hb h3.lt, h4, h5⟩, fun h => let ⟨b, cs, h1, h2, h3, h4, h5⟩ := H.f8 h; ⟨b, cs, h1, h2, h3.below hb h3.lt, h4, h5⟩, H.d67, H.d68, H.d78, H.o9, H.o10, H.o11⟩

theorem Reg5.s0 {W3 : World} {x : Value} {u1 u2 u3 : JV} {Z : Int} {listed : Array Bool} {w : World} {s3 s4 s5 s17 s18 s19 s20 s21 s22 : Value} {t : Value} (H : Reg5 W3 x u1 u2 u3 Z listed w s3 s4 s5 s17 s18 s19 s20 s21 s22) (hx : t = x) : Reg5 W3 x u1 u2 u3 Z (listed.setIfInBounds 0 true) w s3 s4 s5 t s18 s19 s20 s21 s22 :=
  ⟨by rw [Array.size_setIfInBounds]; exact H.size, H.bel, fun _ => hx, fun h => H.f1 (h.set_ne (by decide)), fun h => H.f2 (h.set_ne (by decide)), fun h => H.f3 (h.set_ne (by decide)), fun h => H.f4 (h.set_ne (by decide)), fun h => H.f5 (h.set_ne (by decide)), fun h => let ⟨b, cs, h1, h2, h3, h4, h5⟩ := H.f6 (h.set_ne (by decide)); ⟨b, cs, h1, h2, h3, h4, fun h => h5 (h.set_ne (by decide))⟩, fun h => let ⟨b, cs, h1, h2, h3, h4, h5⟩ := H.f7 (h.set_ne (by decide)); ⟨b, cs, h1, h2, h3, h4, fun h => h5 (h.set_ne (by decide))⟩, fun h => let ⟨b, cs, h1, h2, h3, h4, h5⟩ := H.f8 (h.set_ne (by decide)); ⟨b, cs, h1, h2, h3, h4, fun h => h5 (h.set_ne (by decide))⟩, fun h h2 => H.d67 (h.set_ne (by decide)) (h2.set_ne (by decide)), fun h h2 => H.d68 (h.set_ne (by decide)) (h2.set_ne (by decide)), fun h h2 => H.d78 (h.set_ne (by decide)) (h2.set_ne (by decide)), fun h => let ⟨h1, h2⟩ := H.o9 (h.set_ne (by decide)); ⟨h1.more, h2.more⟩, fun h => let ⟨h1, h2⟩ := H.o10 (h.set_ne (by decide)); ⟨h1.more, h2.more⟩, fun h => let ⟨h1, h2⟩ := H.o11 (h.set_ne (by decide)); ⟨h1.more, h2.more⟩⟩

theorem Reg5.s2 {W3 : World} {x : Value} {u1 u2 u3 : JV} {Z : Int} {listed : Array Bool} {w : World} {s3 s4 s5 s17 s18 s19 s20 s21 s22 : Value} {t : Value} (H : Reg5 W3 x u1 u2 u3 Z listed w s3 s4 s5 s17 s18 s19 s20 s21 s22) (hx : t = x) : Reg5 W3 x u1 u2 u3 Z (listed.setIfInBounds 2 true) w s3 s4 s5 s17 s18 t s20 s21 s22 :=
  ⟨by rw [Array.size_setIfInBounds]; exact H.size, H.bel, fun h => H.f0 (h.set_ne (by decide)), fun h => H.f1 (h.set_ne (by decide)), fun _ => hx, fun h => H.f3 (h.set_ne (by decide)), fun h => H.f4 (h.set_ne (by decide)), fun h => H.f5 (h.set_ne (by decide)), fun h => let ⟨b, cs, h1, h2, h3, h4, h5⟩ := H.f6 (h.set_ne (by decide)); ⟨b, cs, h1, h2, h3, h4, fun h => h5 (h.set_ne (by decide))⟩, fun h => let ⟨b, cs, h1, h2, h3, h4, h5⟩ := H.f7 (h.set_ne (by decide)); ⟨b, cs, h1, h2, h3, h4, fun h => h5 (h.set_ne (by decide))⟩, fun h => let ⟨b, cs, h1, h2, h3, h4, h5⟩ := H.f8 (h.set_ne (by decide)); ⟨b, cs, h1, h2, h3, h4, fun h => h5 (h.set_ne (by decide))⟩, fun h h2 => H.d67 (h.set_ne (by decide)) (h2.set_ne (by decide)), fun h h2 => H.d68 (h.set_ne (by decide)) (h2.set_ne (by decide)), fun h h2 => H.d78 (h.set_ne (by decide)) (h2.set_ne (by decide)), fun h => let ⟨h1, h2⟩ := H.o9 (h.set_ne (by decide)); ⟨h1.more, h2.more⟩, fun h => let ⟨h1, h2⟩ := H.o10 (h.set_ne (by decide)); ⟨h1.more, h2.more⟩, fun h => let ⟨h1, h2⟩ := H.o11 (h.set_ne (by decide)); ⟨h1.more, h2.more⟩⟩

theorem Reg5.s4 {W3 : World} {x : Value} {u1 u2 u3 : JV} {Z : Int} {listed : Array Bool} {w : World} {s3 s4 s5 s17 s18 s19 s20 s21 s22 : Value} {t : Value} (H : Reg5 W3 x u1 u2 u3 Z listed w s3 s4 s5 s17 s18 s19 s20 s21 s22) (hx : t = x) : Reg5 W3 x u1 u2 u3 Z (listed.setIfInBounds 4 true) w s3 s4 s5 s17 s18 s19 s20 t s22 :=
  ⟨by rw [Array.size_setIfInBounds]; exact H.size, H.bel, fun h => H.f0 (h.set_ne (by decide)), fun h => H.f1 (h.set_ne (by decide)), fun h => H.f2 (h.set_ne (by decide)), fun h => H.f3 (h.set_ne (by decide)), fun _ => hx, fun h => H.f5 (h.set_ne (by decide)), fun h => let ⟨b, cs, h1, h2, h3, h4, h5⟩ := H.f6 (h.set_ne (by decide)); ⟨b, cs, h1, h2, h3, h4, fun h => h5 (h.set_ne (by decide))⟩, fun h => let ⟨b, cs, h1, h2, h3, h4, h5⟩ := H.f7 (h.set_ne (by decide)); ⟨b, cs, h1, h2, h3, h4, fun h => h5 (h.set_ne (by decide))⟩, fun h => let ⟨b, cs, h1, h2, h3, h4, h5⟩ := H.f8 (h.set_ne (by decide)); ⟨b, cs, h1, h2, h3, h4, fun h => h5 (h.set_ne (by decide))⟩, fun h h2 => H.d67 (h.set_ne (by decide)) (h2.set_ne (by decide)), fun h h2 => H.d68 (h.set_ne (by decide)) (h2.set_ne (by decide)), fun h h2 => H.d78 (h.set_ne (by decide)) (h2.set_ne (by decide)), fun h => let ⟨h1, h2⟩ := H.o9 (h.set_ne (by decide)); ⟨h1.more, h2.more⟩, fun h => let ⟨h1, h2⟩ := H.o10 (h.set_ne (by decide)); ⟨h1.more, h2.more⟩, fun h => let ⟨h1, h2⟩ := H.o11 (h.set_ne (by decide)); ⟨h1.more, h2.more⟩⟩

theorem Reg5.s1 {W3 : World} {x : Value} {u1 u2 u3 : JV} {Z : Int} {listed : Array Bool} {w : World} {s3 s4 s5 s17 s18 s19 s20 s21 s22 : Value} {t : Value} (H : Reg5 W3 x u1 u2 u3 Z listed w s3 s4 s5 s17 s18 s19 s20 s21 s22) (hx : Told t u1 Z) (hun : ¬ Up listed 9) : Reg5 W3 x u1 u2 u3 Z (listed.setIfInBounds 1 true) w s3 s4 s5 s17 t s19 s20 s21 s22 :=
  ⟨by rw [Array.size_setIfInBounds]; exact H.size, H.bel, fun h => H.f0 (h.set_ne (by decide)), fun _ => hx, fun h => H.f2 (h.set_ne (by decide)), fun h => H.f3 (h.set_ne (by decide)), fun h => H.f4 (h.set_ne (by decide)), fun h => H.f5 (h.set_ne (by decide)), fun h => let ⟨b, cs, h1, h2, h3, h4, h5⟩ := H.f6 (h.set_ne (by decide)); ⟨b, cs, h1, h2, h3, h4, fun h => absurd (h.set_ne (by decide)) hun⟩, fun h => let ⟨b, cs, h1, h2, h3, h4, h5⟩ := H.f7 (h.set_ne (by decide)); ⟨b, cs, h1, h2, h3, h4, fun h => h5 (h.set_ne (by decide))⟩, fun h => let ⟨b, cs, h1, h2, h3, h4, h5⟩ := H.f8 (h.set_ne (by decide)); ⟨b, cs, h1, h2, h3, h4, fun h => h5 (h.set_ne (by decide))⟩, fun h h2 => H.d67 (h.set_ne (by decide)) (h2.set_ne (by decide)), fun h h2 => H.d68 (h.set_ne (by decide)) (h2.set_ne (by decide)), fun h h2 => H.d78 (h.set_ne (by decide)) (h2.set_ne (by decide)), fun h => let ⟨h1, h2⟩ := H.o9 (h.set_ne (by decide)); ⟨h1.more, h2.more⟩, fun h => let ⟨h1, h2⟩ := H.o10 (h.set_ne (by decide)); ⟨h1.more, h2.more⟩, fun h => let ⟨h1, h2⟩ := H.o11 (h.set_ne (by decide)); ⟨h1.more, h2.more⟩⟩

theorem Reg5.s3 {W3 : World} {x : Value} {u1 u2 u3 : JV} {Z : Int} {listed : Array Bool} {w : World} {s3 s4 s5 s17 s18 s19 s20 s21 s22 : Value} {t : Value} (H : Reg5 W3 x u1 u2 u3 Z listed w s3 s4 s5 s17 s18 s19 s20 s21 s22) (hx : Told t u2 Z) (hun : ¬ Up listed 10) : Reg5 W3 x u1 u2 u3 Z (listed.setIfInBounds 3 true) w s3 s4 s5 s17 s18 s19 t s21 s22 :=
  ⟨by rw [Array.size_setIfInBounds]; exact H.size, H.bel, fun h => H.f0 (h.set_ne (by decide)), fun h => H.f1 (h.set_ne (by decide)), fun h => H.f2 (h.set_ne (by decide)), fun _ => hx, fun h => H.f4 (h.set_ne (by decide)), fun h => H.f5 (h.set_ne (by decide)), fun h => let ⟨b, cs, h1, h2, h3, h4, h5⟩ := H.f6 (h.set_ne (by decide)); ⟨b, cs, h1, h2, h3, h4, fun h => h5 (h.set_ne (by decide))⟩, fun h => let ⟨b, cs, h1, h2, h3, h4, h5⟩ := H.f7 (h.set_ne (by decide)); ⟨b, cs, h1, h2, h3, h4, fun h => absurd (h.set_ne (by decide)) hun⟩, fun h => let ⟨b, cs, h1, h2, h3, h4, h5⟩ := H.f8 (h.set_ne (by decide)); ⟨b, cs, h1, h2, h3, h4, fun h => h5 (h.set_ne (by decide))⟩, fun h h2 => H.d67 (h.set_ne (by decide)) (h2.set_ne (by decide)), fun h h2 => H.d68 (h.set_ne (by decide)) (h2.set_ne (by decide)), fun h h2 => H.d78 (h.set_ne (by decide)) (h2.set_ne (by decide)), fun h => let ⟨h1, h2⟩ := H.o9 (h.set_ne (by decide)); ⟨h1.more, h2.more⟩, fun h => let ⟨h1, h2⟩ := H.o10 (h.set_ne (by decide)); ⟨h1.more, h2.more⟩, fun h => let ⟨h1, h2⟩ := H.o11 (h.set_ne (by decide)); ⟨h1.more, h2.more⟩⟩

theorem Reg5.s5 {W3 : World} {x : Value} {u1 u2 u3 : JV} {Z : Int} {listed : Array Bool} {w : World} {s3 s4 s5 s17 s18 s19 s20 s21 s22 : Value} {t : Value} (H : Reg5 W3 x u1 u2 u3 Z listed w s3 s4 s5 s17 s18 s19 s20 s21 s22) (hx : Told t u3 Z) (hun : ¬ Up listed 11) : Reg5 W3 x u1 u2 u3 Z (listed.setIfInBounds 5 true) w s3 s4 s5 s17 s18 s19 s20 s21 t :=
  ⟨by rw [Array.size_setIfInBounds]; exact H.size, H.bel, fun h => H.f0 (h.set_ne (by decide)), fun h => H.f1 (h.set_ne (by decide)), fun h => H.f2 (h.set_ne (by decide)), fun h => H.f3 (h.set_ne (by decide)), fun h => H.f4 (h.set_ne (by decide)), fun _ => hx, fun h => let ⟨b, cs, h1, h2, h3, h4, h5⟩ := H.f6 (h.set_ne (by decide)); ⟨b, cs, h1, h2, h3, h4, fun h => h5 (h.set_ne (by decide))⟩, fun h => let ⟨b, cs, h1, h2, h3, h4, h5⟩ := H.f7 (h.set_ne (by decide)); ⟨b, cs, h1, h2, h3, h4, fun h => h5 (h.set_ne (by decide))⟩, fun h => let ⟨b, cs, h1, h2, h3, h4, h5⟩ := H.f8 (h.set_ne (by decide)); ⟨b, cs, h1, h2, h3, h4, fun h => absurd (h.set_ne (by decide)) hun⟩, fun h h2 => H.d67 (h.set_ne (by decide)) (h2.set_ne (by decide)), fun h h2 => H.d68 (h.set_ne (by decide)) (h2.set_ne (by decide)), fun h h2 => H.d78 (h.set_ne (by decide)) (h2.set_ne (by decide)), fun h => let ⟨h1, h2⟩ := H.o9 (h.set_ne (by decide)); ⟨h1.more, h2.more⟩, fun h => let ⟨h1, h2⟩ := H.o10 (h.set_ne (by decide)); ⟨h1.more, h2.more⟩, fun h => let ⟨h1, h2⟩ := H.o11 (h.set_ne (by decide)); ⟨h1.more, h2.more⟩⟩

def zeros : Array Value := #[.int .i64 0, .int .i64 0, .string ⟨#[]⟩, .slice none 0 0, .slice none 0 0, .slice none 0 0, .int .i64 0]
theorem new_ne {b n : Nat} (h : b < n) (e : Value.pointer (some ⟨n, 0, none⟩) = Value.pointer (some ⟨b, 0, none⟩)) : False := by
  injection e with e
  injection e with e
  injection e with e
  omega

theorem Reg5.s6 {W3 : World} {x : Value} {u1 u2 u3 : JV} {Z : Int} {listed : Array Bool} {w : World} {s3 s4 s5 s17 s18 s19 s20 s21 s22 : Value} (H0 : Reg5 W3 x u1 u2 u3 Z listed w s3 s4 s5 s17 s18 s19 s20 s21 s22) (hun : ¬ Up listed 9) : Reg5 W3 x u1 u2 u3 Z (listed.setIfInBounds 6 true) (w.alloc (.cells zeros 30)) (.pointer (some ⟨w.heap.size, 0, none⟩)) s4 s5 s17 s18 s19 s20 s21 s22 :=
  have H := H0.world (Below.alloc (Below.refl _ _) (Nat.le_refl _) (.cells zeros 30))
  ⟨by rw [Array.size_setIfInBounds]; exact H.size, H.bel, fun h => H.f0 (h.set_ne (by decide)), fun h => H.f1 (h.set_ne (by decide)), fun h => H.f2 (h.set_ne (by decide)), fun h => H.f3 (h.set_ne (by decide)), fun h => H.f4 (h.set_ne (by decide)), fun h => H.f5 (h.set_ne (by decide)), fun _ => ⟨w.heap.size, zeros, rfl, H0.bel.size, Blk.new w _ _, rfl, fun h => absurd (h.set_ne (by decide)) hun⟩, fun h => let ⟨b, cs, h1, h2, h3, h4, h5⟩ := H.f7 (h.set_ne (by decide)); ⟨b, cs, h1, h2, h3, h4, fun h => h5 (h.set_ne (by decide))⟩, fun h => let ⟨b, cs, h1, h2, h3, h4, h5⟩ := H.f8 (h.set_ne (by decide)); ⟨b, cs, h1, h2, h3, h4, fun h => h5 (h.set_ne (by decide))⟩, fun _ h e => let ⟨b, cs, h1, h2, h3, h4, h5⟩ := H0.f7 (h.set_ne (by decide)); new_ne h3.lt (e.trans h1), fun _ h e => let ⟨b, cs, h1, h2, h3, h4, h5⟩ := H0.f8 (h.set_ne (by decide)); new_ne h3.lt (e.trans h1), fun h h2 => H.d78 (h.set_ne (by decide)) (h2.set_ne (by decide)), fun h => let ⟨h1, h2⟩ := H.o9 (h.set_ne (by decide)); ⟨h1.more, h2.more⟩, fun h => let ⟨h1, h2⟩ := H.o10 (h.set_ne (by decide)); ⟨h1.more, h2.more⟩, fun h => let ⟨h1, h2⟩ := H.o11 (h.set_ne (by decide)); ⟨h1.more, h2.more⟩⟩

theorem Reg5.s7 {W3 : World} {x : Value} {u1 u2 u3 : JV} {Z : Int} {listed : Array Bool} {w : World} {s3 s4 s5 s17 s18 s19 s20 s21 s22 : Value} (H0 : Reg5 W3 x u1 u2 u3 Z listed w s3 s4 s5 s17 s18 s19 s20 s21 s22) (hun : ¬ Up listed 10) : Reg5 W3 x u1 u2 u3 Z (listed.setIfInBounds 7 true) (w.alloc (.cells zeros 30)) s3 (.pointer (some ⟨w.heap.size, 0, none⟩)) s5 s17 s18 s19 s20 s21 s22 :=
  have H := H0.world (Below.alloc (Below.refl _ _) (Nat.le_refl _) (.cells zeros 30))
  ⟨by rw [Array.size_setIfInBounds]; exact H.size, H.bel, fun h => H.f0 (h.set_ne (by decide)), fun h => H.f1 (h.set_ne (by decide)), fun h => H.f2 (h.set_ne (by decide)), fun h => H.f3 (h.set_ne (by decide)), fun h => H.f4 (h.set_ne (by decide)), fun h => H.f5 (h.set_ne (by decide)), fun h => let ⟨b, cs, h1, h2, h3, h4, h5⟩ := H.f6 (h.set_ne (by decide)); ⟨b, cs, h1, h2, h3, h4, fun h => h5 (h.set_ne (by decide))⟩, fun _ => ⟨w.heap.size, zeros, rfl, H0.bel.size, Blk.new w _ _, rfl, fun h => absurd (h.set_ne (by decide)) hun⟩, fun h => let ⟨b, cs, h1, h2, h3, h4, h5⟩ := H.f8 (h.set_ne (by decide)); ⟨b, cs, h1, h2, h3, h4, fun h => h5 (h.set_ne (by decide))⟩, fun h _ e => let ⟨b, cs, h1, h2, h3, h4, h5⟩ := H0.f6 (h.set_ne (by decide)); new_ne h3.lt (e.symm.trans h1), fun h h2 => H.d68 (h.set_ne (by decide)) (h2.set_ne (by decide)), fun _ h e => let ⟨b, cs, h1, h2, h3, h4, h5⟩ := H0.f8 (h.set_ne (by decide)); new_ne h3.lt (e.trans h1), fun h => let ⟨h1, h2⟩ := H.o9 (h.set_ne (by decide)); ⟨h1.more, h2.more⟩, fun h => let ⟨h1, h2⟩ := H.o10 (h.set_ne (by decide)); ⟨h1.more, h2.more⟩, fun h => let ⟨h1, h2⟩ := H.o11 (h.set_ne (by decide)); ⟨h1.more, h2.more⟩⟩

theorem Reg5.s8 {W3 : World} {x : Value} {u1 u2 u3 : JV} {Z : Int} {listed : Array Bool} {w : World} {s3 s4 s5 s17 s18 s19 s20 s21 s22 : Value} (H0 : Reg5 W3 x u1 u2 u3 Z listed w s3 s4 s5 s17 s18 s19 s20 s21 s22) (hun : ¬ Up listed 11) : Reg5 W3 x u1 u2 u3 Z (listed.setIfInBounds 8 true) (w.alloc (.cells zeros 30)) s3 s4 (.pointer (some ⟨w.heap.size, 0, none⟩)) s17 s18 s19 s20 s21 s22 :=
  have H := H0.world (Below.alloc (Below.refl _ _) (Nat.le_refl _) (.cells zeros 30))
  ⟨by rw [Array.size_setIfInBounds]; exact H.size, H.bel, fun h => H.f0 (h.set_ne (by decide)), fun h => H.f1 (h.set_ne (by decide)), fun h => H.f2 (h.set_ne (by decide)), fun h => H.f3 (h.set_ne (by decide)), fun h => H.f4 (h.set_ne (by decide)), fun h => H.f5 (h.set_ne (by decide)), fun h => let ⟨b, cs, h1, h2, h3, h4, h5⟩ := H.f6 (h.set_ne (by decide)); ⟨b, cs, h1, h2, h3, h4, fun h => h5 (h.set_ne (by decide))⟩, fun h => let ⟨b, cs, h1, h2, h3, h4, h5⟩ := H.f7 (h.set_ne (by decide)); ⟨b, cs, h1, h2, h3, h4, fun h => h5 (h.set_ne (by decide))⟩, fun _ => ⟨w.heap.size, zeros, rfl, H0.bel.size, Blk.new w _ _, rfl, fun h => absurd (h.set_ne (by decide)) hun⟩, fun h h2 => H.d67 (h.set_ne (by decide)) (h2.set_ne (by decide)), fun h _ e => let ⟨b, cs, h1, h2, h3, h4, h5⟩ := H0.f6 (h.set_ne (by decide)); new_ne h3.lt (e.symm.trans h1), fun h _ e => let ⟨b, cs, h1, h2, h3, h4, h5⟩ := H0.f7 (h.set_ne (by decide)); new_ne h3.lt (e.symm.trans h1), fun h => let ⟨h1, h2⟩ := H.o9 (h.set_ne (by decide)); ⟨h1.more, h2.more⟩, fun h => let ⟨h1, h2⟩ := H.o10 (h.set_ne (by decide)); ⟨h1.more, h2.more⟩, fun h => let ⟨h1, h2⟩ := H.o11 (h.set_ne (by decide)); ⟨h1.more, h2.more⟩⟩

theorem Reg5.s9 {W3 : World} {x : Value} {u1 u2 u3 : JV} {Z : Int} {listed : Array Bool} {w : World} {s3 s4 s5 s17 s18 s19 s20 s21 s22 : Value} {w2 : World} {b : Nat} {cs : Array Value} (H : Reg5 W3 x u1 u2 u3 Z listed w s3 s4 s5 s17 s18 s19 s20 s21 s22) (hup : Up listed 6) (hcu : Up listed 1) (hp : s3 = .pointer (some ⟨b, 0, none⟩)) (hlo : W3.heap.size ≤ b) (hr : s18 = .agg cs) (hsz : cs.size = 7) (hk : Blk w2 b 30 cs) (ho : Only (· = b) w w2) : Reg5 W3 x u1 u2 u3 Z (listed.setIfInBounds 9 true) w2 s3 s4 s5 s17 s18 s19 s20 s21 s22 :=
  ⟨by rw [Array.size_setIfInBounds]; exact H.size, H.bel.trans (ho.below (fun k hk => by omega) H.bel.size), fun h => H.f0 (h.set_ne (by decide)), fun h => H.f1 (h.set_ne (by decide)), fun h => H.f2 (h.set_ne (by decide)), fun h => H.f3 (h.set_ne (by decide)), fun h => H.f4 (h.set_ne (by decide)), fun h => H.f5 (h.set_ne (by decide)), fun _ => ⟨b, cs, hp, hlo, hk, hsz, fun _ => hr⟩, fun h => let ⟨b2, cs2, h1, h2, h3, h4, h5⟩ := H.f7 (h.set_ne (by decide)); ⟨b2, cs2, h1, h2, ho.blk h3 (fun e => H.d67 hup (h.set_ne (by decide)) (by rw [hp, h1, e])), h4, fun h => h5 (h.set_ne (by decide))⟩, fun h => let ⟨b2, cs2, h1, h2, h3, h4, h5⟩ := H.f8 (h.set_ne (by decide)); ⟨b2, cs2, h1, h2, ho.blk h3 (fun e => H.d68 hup (h.set_ne (by decide)) (by rw [hp, h1, e])), h4, fun h => h5 (h.set_ne (by decide))⟩, fun h h2 => H.d67 (h.set_ne (by decide)) (h2.set_ne (by decide)), fun h h2 => H.d68 (h.set_ne (by decide)) (h2.set_ne (by decide)), fun h h2 => H.d78 (h.set_ne (by decide)) (h2.set_ne (by decide)), fun _ => ⟨hcu.more, hup.more⟩, fun h => let ⟨h1, h2⟩ := H.o10 (h.set_ne (by decide)); ⟨h1.more, h2.more⟩, fun h => let ⟨h1, h2⟩ := H.o11 (h.set_ne (by decide)); ⟨h1.more, h2.more⟩⟩

theorem Reg5.s10 {W3 : World} {x : Value} {u1 u2 u3 : JV} {Z : Int} {listed : Array Bool} {w : World} {s3 s4 s5 s17 s18 s19 s20 s21 s22 : Value} {w2 : World} {b : Nat} {cs : Array Value} (H : Reg5 W3 x u1 u2 u3 Z listed w s3 s4 s5 s17 s18 s19 s20 s21 s22) (hup : Up listed 7) (hcu : Up listed 3) (hp : s4 = .pointer (some ⟨b, 0, none⟩)) (hlo : W3.heap.size ≤ b) (hr : s20 = .agg cs) (hsz : cs.size = 7) (hk : Blk w2 b 30 cs) (ho : Only (· = b) w w2) : Reg5 W3 x u1 u2 u3 Z (listed.setIfInBounds 10 true) w2 s3 s4 s5 s17 s18 s19 s20 s21 s22 :=
  ⟨by rw [Array.size_setIfInBounds]; exact H.size, H.bel.trans (ho.below (fun k hk => by omega) H.bel.size), fun h => H.f0 (h.set_ne (by decide)), fun h => H.f1 (h.set_ne (by decide)), fun h => H.f2 (h.set_ne (by decide)), fun h => H.f3 (h.set_ne (by decide)), fun h => H.f4 (h.set_ne (by decide)), fun h => H.f5 (h.set_ne (by decide)), fun h => let ⟨b2, cs2, h1, h2, h3, h4, h5⟩ := H.f6 (h.set_ne (by decide)); ⟨b2, cs2, h1, h2, ho.blk h3 (fun e => H.d67 (h.set_ne (by decide)) hup (by rw [hp, h1, e])), h4, fun h => h5 (h.set_ne (by decide))⟩, fun _ => ⟨b, cs, hp, hlo, hk, hsz, fun _ => hr⟩, fun h => let ⟨b2, cs2, h1, h2, h3, h4, h5⟩ := H.f8 (h.set_ne (by decide)); ⟨b2, cs2, h1, h2, ho.blk h3 (fun e => H.d78 hup (h.set_ne (by decide)) (by rw [hp, h1, e])), h4, fun h => h5 (h.set_ne (by decide))⟩, fun h h2 => H.d67 (h.set_ne (by decide)) (h2.set_ne (by decide)), fun h h2 => H.d68 (h.set_ne (by decide)) (h2.set_ne (by decide)), fun h h2 => H.d78 (h.set_ne (by decide)) (h2.set_ne (by decide)), fun h => let ⟨h1, h2⟩ := H.o9 (h.set_ne (by decide)); ⟨h1.more, h2.more⟩, fun _ => ⟨hcu.more, hup.more⟩, fun h => let ⟨h1, h2⟩ := H.o11 (h.set_ne (by decide)); ⟨h1.more, h2.more⟩⟩

theorem Reg5.s11 {W3 : World} {x : Value} {u1 u2 u3 : JV} {Z : Int} {listed : Array Bool} {w : World} {s3 s4 s5 s17 s18 s19 s20 s21 s22 : Value} {w2 : World} {b : Nat} {cs : Array Value} (H : Reg5 W3 x u1 u2 u3 Z listed w s3 s4 s5 s17 s18 s19 s20 s21 s22) (hup : Up listed 8) (hcu : Up listed 5) (hp : s5 = .pointer (some ⟨b, 0, none⟩)) (hlo : W3.heap.size ≤ b) (hr : s22 = .agg cs) (hsz : cs.size = 7) (hk : Blk w2 b 30 cs) (ho : Only (· = b) w w2) : Reg5 W3 x u1 u2 u3 Z (listed.setIfInBounds 11 true) w2 s3 s4 s5 s17 s18 s19 s20 s21 s22 :=
  ⟨by rw [Array.size_setIfInBounds]; exact H.size, H.bel.trans (ho.below (fun k hk => by omega) H.bel.size), fun h => H.f0 (h.set_ne (by decide)), fun h => H.f1 (h.set_ne (by decide)), fun h => H.f2 (h.set_ne (by decide)), fun h => H.f3 (h.set_ne (by decide)), fun h => H.f4 (h.set_ne (by decide)), fun h => H.f5 (h.set_ne (by decide)), fun h => let ⟨b2, cs2, h1, h2, h3, h4, h5⟩ := H.f6 (h.set_ne (by decide)); ⟨b2, cs2, h1, h2, ho.blk h3 (fun e => H.d68 (h.set_ne (by decide)) hup (by rw [hp, h1, e])), h4, fun h => h5 (h.set_ne (by decide))⟩, fun h => let ⟨b2, cs2, h1, h2, h3, h4, h5⟩ := H.f7 (h.set_ne (by decide)); ⟨b2, cs2, h1, h2, ho.blk h3 (fun e => H.d78 (h.set_ne (by decide)) hup (by rw [hp, h1, e])), h4, fun h => h5 (h.set_ne (by decide))⟩, fun _ => ⟨b, cs, hp, hlo, hk, hsz, fun _ => hr⟩, fun h h2 => H.d67 (h.set_ne (by decide)) (h2.set_ne (by decide)), fun h h2 => H.d68 (h.set_ne (by decide)) (h2.set_ne (by decide)), fun h h2 => H.d78 (h.set_ne (by decide)) (h2.set_ne (by decide)), fun h => let ⟨h1, h2⟩ := H.o9 (h.set_ne (by decide)); ⟨h1.more, h2.more⟩, fun h => let ⟨h1, h2⟩ := H.o10 (h.set_ne (by decide)); ⟨h1.more, h2.more⟩, fun _ => ⟨hcu.more, hup.more⟩⟩

theorem wrong_ans (W' : World) {v u : JV} {s : ByteArray} {Z : Int} {r : Value} (h : ∀ w B, ResAt w B 61 r u Z) (hu : u = trimU v s) (hZ : Z = trimZ v) (hk : ¬ v.kind = 4) : Calls Tryd.prog 11 #[r] W' fun e w' => e = .returned (.bool true) ∧ Below W'.heap.size W' w' := by
  unfold trimU at hu
  unfold trimZ at hZ
  rw [if_neg hk] at hu hZ
  subst hu
  subst hZ
  exact wrong_any 61 W' W'.heap.size r (h W' W'.heap.size) (Nat.le_refl _)

theorem says_ans (W' : World) {v u : JV} {s : ByteArray} {Z : Int} {r : Value} (h : ∀ w B, ResAt w B 61 r u Z) (hu : u = trimU v s) (hZ : Z = trimZ v) (hk : v.kind = 4) (hs : s.size ≤ 9223372036854775807) : Calls Tryd.prog 12 #[r, .agg #[.int .i64 4, .int .i64 0, .string s, .slice none 0 0, .slice none 0 0, .slice none 0 0]] W' fun e w' => e = .returned (.bool true) ∧ Below W'.heap.size W' w' := by
  unfold trimU at hu
  unfold trimZ at hZ
  rw [if_pos hk] at hu hZ
  subst hu
  subst hZ
  exact says_any 61 W' W'.heap.size r _ _ (h W' W'.heap.size) (str_jat W' W'.heap.size 61 s hs) (str_say 61 s hs) (Nat.le_refl _)

set_option maxHeartbeats 4000000 in
set_option maxRecDepth 100000 in
theorem lawTrim_any (w : World) (B : Nat) (x : Value) (v : JV) (hx : JAt w B 62 x v) (hT : Tabs w B) (hB : B ≤ w.heap.size) :
    Calls Tryd.prog 7 #[x] w fun e w' => e = .returned (.bool true) ∧ Below w.heap.size w w' := by
  have hx' := hide hx
  obtain ⟨la, lc, ka, kc, va, vc, rfl, -, -, -, -, -, -, htx, -⟩ := hx
  obtain ⟨W, hW⟩ : ∃ W, W = w.alloc (.cells #[.int .i64 v.kind, .int .i64 v.half, .string v.text, .slice la v.list.length lc, .slice ka v.keys.length kc, .slice va v.vals.length vc] 26) := ⟨_, rfl⟩
  have bW : Below w.heap.size w W := by rw [hW]; exact Below.alloc (Below.refl _ _) (Nat.le_refl _) _
  have kW : Blk W w.heap.size 26 #[.int .i64 v.kind, .int .i64 v.half, .string v.text, .slice la v.list.length lc, .slice ka v.keys.length kc, .slice va v.vals.length vc] := by rw [hW]; exact Blk.new w _ _
  have hB1 : B ≤ w.heap.size + 1 := by omega
  have hxW : JAt W (w.heap.size + 1) 62 _ v := JAt.keep (fun p hp => bW.cell (by omega)) hB1 62 _ _ hx'.out
  have hTW : Tabs W (w.heap.size + 1) := (hT.keep (fun p hp => bW.cell (by omega))).more hB1
  have hlt := kW.lt
  have kx : ∀ W', Below W.heap.size W W' → JAt W' (w.heap.size + 1) 62 (.agg #[.int .i64 v.kind, .int .i64 v.half, .string v.text, .slice la v.list.length lc, .slice ka v.keys.length kc, .slice va v.vals.length vc]) v := fun W' h => JAt.keep (fun p hp => h.cell (by omega)) (Nat.le_refl _) 62 _ _ hxW
  have kT : ∀ W', Below W.heap.size W W' → Tabs W' (w.heap.size + 1) := fun W' h => hTW.keep (fun p hp => h.cell (by omega))
  have kk : ∀ W', Below W.heap.size W W' → Blk W' w.heap.size 26 #[.int .i64 v.kind, .int .i64 v.half, .string v.text, .slice la v.list.length lc, .slice ka v.keys.length kc, .slice va v.vals.length vc] := fun W' h => kW.below h hlt
  clear hx' hT hTW
  replace kx := hide kx
  replace kT := hide kT
  replace kk := hide kk
  replace bW := hide bW
  replace hxW := hide hxW
  obtain ⟨q0, q1, q2, q3, q4, q5⟩ := blk_six kW
  replace kW := hide kW
  go_enter Tryd.func7, Tryd.ntmps7
  go_upto_region 1 with fail
  rw [← hW]
  clear hW
  go_wp2_with fail
  refine (zzfits_any W (w.heap.size + 1) 61 _ v hlt hxW.out).mono ?_
  rintro e W1 ⟨b, rfl, b1⟩
  cases b
  · replace b1 := hide b1
    go_wp2_with fail
    go_ret
    exact ⟨rfl, bW.out.trans (b1.out.mono bW.out.size)⟩
  obtain ⟨q0, q1, q2, q3, q4, q5⟩ := blk_six (kk.out W1 b1)
  obtain ⟨W2, hW2⟩ : ∃ W2, W2 = W1.alloc (.cells #[.int .i64 v.kind, .int .i64 v.half, .string v.text, .slice la v.list.length lc, .slice ka v.keys.length kc, .slice va v.vals.length vc] 26) := ⟨_, rfl⟩
  have b2 : Below W.heap.size W W2 := by rw [hW2]; exact Below.alloc b1 b1.size _
  have k2 : Blk W2 W1.heap.size 26 #[.int .i64 v.kind, .int .i64 v.half, .string v.text, .slice la v.list.length lc, .slice ka v.keys.length kc, .slice va v.vals.length vc] := by rw [hW2]; exact Blk.new W1 _ _
  have hf := hide (fine_any W2 W2.heap.size (some ⟨W1.heap.size, 0, none⟩) 1 [v] ((kT.out W2 b2).more (by have := b2.size; omega)) (Nat.le_refl _) (by simp) (by omega) (one_row k2 k2.lt (JAt.keep (fun p hp => rfl) (by have := b2.size; omega) 62 _ _ (kx.out W2 b2))))
  have hs12 := hide b1.size
  replace b1 := hide b1
  replace b2 := hide b2
  replace k2 := hide k2
  go_wp2_with fail
  rw [← hW2]
  clear hW2
  refine hf.out.mono ?_
  rintro e W3 ⟨b', rfl, b3, hgood⟩
  have b13 := hide (b2.out.trans (b3.mono b2.out.size))
  have s23 := hide b3.size
  clear b3
  cases b'
  · clear hgood
    go_wp2_with fail
    go_ret
    exact ⟨rfl, bW.out.trans (b13.out.mono bW.out.size)⟩
  obtain ⟨hgd, hsz⟩ := hgood rfl v (by simp)
  obtain ⟨q0, q1, q2, q3, q4, q5⟩ := blk_six (kk.out W3 b13.out)
  have hvs : v.text.size ≤ 9223372036854775807 := by omega
  have hB3 : w.heap.size + 1 ≤ W3.heap.size := by have := b13.out.size; omega
  have hc1 : ∀ W', Below W3.heap.size W3 W' → Calls Tryd.prog 26 _ W' fun e w' => ∃ r, e = .returned r ∧ Below W'.heap.size W' w' ∧ Told r (trimU v (trimLeftF sp v.text)) (trimZ v) := fun W' h =>
    (doorLTrim_any 61 W' (w.heap.size + 1) _ v (kx.out W' (b13.out.trans (h.mono b13.out.size))) hgd (kT.out W' (b13.out.trans (h.mono b13.out.size))) hvs (Nat.le_trans hB3 h.size)).mono fun e w' ⟨r, h1, h2, h3, h4⟩ => ⟨r, h1, h2, told_of h3 h4⟩
  have hc2 : ∀ W', Below W3.heap.size W3 W' → Calls Tryd.prog 27 _ W' fun e w' => ∃ r, e = .returned r ∧ Below W'.heap.size W' w' ∧ Told r (trimU v (trimRightF sp v.text)) (trimZ v) := fun W' h =>
    (doorRTrim_any 61 W' (w.heap.size + 1) _ v (kx.out W' (b13.out.trans (h.mono b13.out.size))) hgd (kT.out W' (b13.out.trans (h.mono b13.out.size))) hvs (Nat.le_trans hB3 h.size)).mono fun e w' ⟨r, h1, h2, h3, h4⟩ => ⟨r, h1, h2, told_of h3 h4⟩
  have hc3 : ∀ W', Below W3.heap.size W3 W' → Calls Tryd.prog 28 _ W' fun e w' => ∃ r, e = .returned r ∧ Below W'.heap.size W' w' ∧ Told r (trimU v (trimF sp v.text)) (trimZ v) := fun W' h =>
    (doorTrim_any 61 W' (w.heap.size + 1) _ v (kx.out W' (b13.out.trans (h.mono b13.out.size))) hgd (kT.out W' (b13.out.trans (h.mono b13.out.size))) hvs (Nat.le_trans hB3 h.size)).mono fun e w' ⟨r, h1, h2, h3, h4⟩ => ⟨r, h1, h2, told_of h3 h4⟩
  replace hc1 := hide hc1
  replace hc2 := hide hc2
  replace hc3 := hide hc3
  replace hvs := hide hvs
  replace hB3 := hide hB3
  replace hgd := hide hgd
  clear hgood
  go_upto_region 5 with fail
  clear q0 q1 q2 q3 q4 q5
  refine wp_region_inv (by kernel_rfl) (fun listed a w' => ∃ s3 s4 s5 s17 s18 s19 s20 s21 s22, a = (⟨#[(.agg #[.int .i64 v.kind, .int .i64 v.half, .string v.text, .slice la v.list.length lc, .slice ka v.keys.length kc, .slice va v.vals.length vc]), .pointer (some ⟨w.heap.size, 0, none⟩), .bool false, s3, s4, s5, undef, undef, undef, undef, (.agg #[.int .i64 v.kind, .int .i64 v.half, .string v.text, .slice la v.list.length lc, .slice ka v.keys.length kc, .slice va v.vals.length vc]), .bool true, .bool false, (.agg #[.int .i64 v.kind, .int .i64 v.half, .string v.text, .slice la v.list.length lc, .slice ka v.keys.length kc, .slice va v.vals.length vc]), .slice (some ⟨W1.heap.size, 0, none⟩) 1 1, .bool true, .bool false, s17, s18, s19, s20, s21, s22, undef, undef, undef, undef, undef, undef, undef, undef, undef, undef, undef, undef, undef, undef, undef, undef, undef, undef, undef, undef, undef, undef, undef, undef, undef, undef, undef, undef, undef, undef, undef, undef, undef, undef, undef, undef, undef, undef, undef, undef, undef, undef, undef, undef, undef, undef, undef, undef, undef, undef, undef, undef, undef, undef, undef, undef, undef, undef, undef, undef, undef, undef, undef, undef, undef, undef, undef, undef, undef, undef, undef, undef, undef, undef, undef], []⟩ : Act) ∧ Reg5 W3 (.agg #[.int .i64 v.kind, .int .i64 v.half, .string v.text, .slice la v.list.length lc, .slice ka v.keys.length kc, .slice va v.vals.length vc]) (trimU v (trimLeftF sp v.text)) (trimU v (trimRightF sp v.text)) (trimU v (trimF sp v.text)) (trimZ v) listed w' s3 s4 s5 s17 s18 s19 s20 s21 s22) ?_ ?_ ?_
  · exact ⟨undef, undef, undef, undef, undef, undef, undef, undef, undef, rfl, Reg5.start ..⟩
  · rintro listed a w' i ⟨s3, s4, s5, s17, s18, s19, s20, s21, s22, rfl, H⟩ hi
    have hun := Up.un hi
    have hlt12 : i < 12 := by
      obtain ⟨-, o, ho, -⟩ := mem_ready.1 hi
      rcases Nat.lt_or_ge i 12 with h | h
      · exact h
      · rw [Array.getElem?_eq_none (by exact h)] at ho
        cases ho
    obtain ⟨q0, q1, q2, q3, q4, q5⟩ := blk_six (kk.out w' (b13.out.trans (H.bel.mono b13.out.size)))
    have hi12 : i = 0 ∨ i = 1 ∨ i = 2 ∨ i = 3 ∨ i = 4 ∨ i = 5 ∨ i = 6 ∨ i = 7 ∨ i = 8 ∨ i = 9 ∨ i = 10 ∨ i = 11 := by omega
    rcases hi12 with rfl | rfl | rfl | rfl | rfl | rfl | rfl | rfl | rfl | rfl | rfl | rfl
    · replace H := hide H
      replace hi := hide hi
      refine wpOp_of_list rfl ?_
      go_wp2_with fail
      refine Then.normal ⟨_, _, _, _, _, _, _, _, _, rfl, H.out.s0 rfl⟩
    · obtain rfl := H.f0 (Up.waits hi 0 (by kernel_rfl))
      have hno : ¬ Up listed 9 := fun h => Up.no hun (H.o9 h).1
      replace H := hide H
      replace hi := hide hi
      refine wpOp_of_list rfl ?_
      go_wp2_with (go_at_call 26; refine (hc1.out _ H.out.bel).mono ?_; rintro e w'' ⟨r, rfl, hb, ht⟩; replace hb := hide hb; replace ht := hide ht)
      refine Then.normal ⟨_, _, _, _, _, _, _, _, _, rfl, (H.out.world hb.out).s1 ht.out hno⟩
    · replace H := hide H
      replace hi := hide hi
      refine wpOp_of_list rfl ?_
      go_wp2_with fail
      refine Then.normal ⟨_, _, _, _, _, _, _, _, _, rfl, H.out.s2 rfl⟩
    · obtain rfl := H.f2 (Up.waits hi 2 (by kernel_rfl))
      have hno : ¬ Up listed 10 := fun h => Up.no hun (H.o10 h).1
      replace H := hide H
      replace hi := hide hi
      refine wpOp_of_list rfl ?_
      go_wp2_with (go_at_call 27; refine (hc2.out _ H.out.bel).mono ?_; rintro e w'' ⟨r, rfl, hb, ht⟩; replace hb := hide hb; replace ht := hide ht)
      refine Then.normal ⟨_, _, _, _, _, _, _, _, _, rfl, (H.out.world hb.out).s3 ht.out hno⟩
    · replace H := hide H
      replace hi := hide hi
      refine wpOp_of_list rfl ?_
      go_wp2_with fail
      refine Then.normal ⟨_, _, _, _, _, _, _, _, _, rfl, H.out.s4 rfl⟩
    · obtain rfl := H.f4 (Up.waits hi 4 (by kernel_rfl))
      have hno : ¬ Up listed 11 := fun h => Up.no hun (H.o11 h).1
      replace H := hide H
      replace hi := hide hi
      refine wpOp_of_list rfl ?_
      go_wp2_with (go_at_call 28; refine (hc3.out _ H.out.bel).mono ?_; rintro e w'' ⟨r, rfl, hb, ht⟩; replace hb := hide hb; replace ht := hide ht)
      refine Then.normal ⟨_, _, _, _, _, _, _, _, _, rfl, (H.out.world hb.out).s5 ht.out hno⟩
    · have hno : ¬ Up listed 9 := fun h => Up.no hun (H.o9 h).2
      replace H := hide H
      replace hi := hide hi
      refine wpOp_of_list rfl ?_
      go_wp2_with fail
      refine Then.normal ⟨_, _, _, _, _, _, _, _, _, rfl, H.out.s6 hno⟩
    · have hno : ¬ Up listed 10 := fun h => Up.no hun (H.o10 h).2
      replace H := hide H
      replace hi := hide hi
      refine wpOp_of_list rfl ?_
      go_wp2_with fail
      refine Then.normal ⟨_, _, _, _, _, _, _, _, _, rfl, H.out.s7 hno⟩
    · have hno : ¬ Up listed 11 := fun h => Up.no hun (H.o11 h).2
      replace H := hide H
      replace hi := hide hi
      refine wpOp_of_list rfl ?_
      go_wp2_with fail
      refine Then.normal ⟨_, _, _, _, _, _, _, _, _, rfl, H.out.s8 hno⟩
    · have hup := Up.waits hi 6 (by kernel_rfl)
      obtain ⟨b, old, hp, hlo, hkb, hsz, -⟩ := H.f6 hup
      have hcu := Up.waits hi 1 (by kernel_rfl)
      obtain ⟨⟨la', lc', ka', kc', va', vc', hr⟩, -⟩ := H.f1 hcu
      replace hcu := hide hcu
      subst hp
      subst hr
      replace hkb := hide hkb
      replace hsz := hide hsz
      replace hlo := hide hlo
      replace H := hide H
      replace hi := hide hi
      replace hup := hide hup
      refine wpOp_of_list rfl ?_
      refine wpList_store_blk rfl 30 (.tmp 3) (.tmp 18) rfl b _ rfl rfl 30 _ hkb.out res_size hsz.out (res_one _ _ _ _ _ _ _ _ _ _ _ _ _) ?_
      intro w2 k2 o2 s2
      refine Then.normal ⟨_, _, _, _, _, _, _, _, _, rfl, H.out.s9 hup.out hcu.out rfl hlo.out rfl rfl k2 o2⟩
    · have hup := Up.waits hi 7 (by kernel_rfl)
      obtain ⟨b, old, hp, hlo, hkb, hsz, -⟩ := H.f7 hup
      have hcu := Up.waits hi 3 (by kernel_rfl)
      obtain ⟨⟨la', lc', ka', kc', va', vc', hr⟩, -⟩ := H.f3 hcu
      replace hcu := hide hcu
      subst hp
      subst hr
      replace hkb := hide hkb
      replace hsz := hide hsz
      replace hlo := hide hlo
      replace H := hide H
      replace hi := hide hi
      replace hup := hide hup
      refine wpOp_of_list rfl ?_
      refine wpList_store_blk rfl 30 (.tmp 4) (.tmp 20) rfl b _ rfl rfl 30 _ hkb.out res_size hsz.out (res_one _ _ _ _ _ _ _ _ _ _ _ _ _) ?_
      intro w2 k2 o2 s2
      refine Then.normal ⟨_, _, _, _, _, _, _, _, _, rfl, H.out.s10 hup.out hcu.out rfl hlo.out rfl rfl k2 o2⟩
    · have hup := Up.waits hi 8 (by kernel_rfl)
      obtain ⟨b, old, hp, hlo, hkb, hsz, -⟩ := H.f8 hup
      have hcu := Up.waits hi 5 (by kernel_rfl)
      obtain ⟨⟨la', lc', ka', kc', va', vc', hr⟩, -⟩ := H.f5 hcu
      replace hcu := hide hcu
      subst hp
      subst hr
      replace hkb := hide hkb
      replace hsz := hide hsz
      replace hlo := hide hlo
      replace H := hide H
      replace hi := hide hi
      replace hup := hide hup
      refine wpOp_of_list rfl ?_
      refine wpList_store_blk rfl 30 (.tmp 5) (.tmp 22) rfl b _ rfl rfl 30 _ hkb.out res_size hsz.out (res_one _ _ _ _ _ _ _ _ _ _ _ _ _) ?_
      intro w2 k2 o2 s2
      refine Then.normal ⟨_, _, _, _, _, _, _, _, _, rfl, H.out.s11 hup.out hcu.out rfl hlo.out rfl rfl k2 o2⟩
  · rintro listed a w5 ⟨s3, s4, s5, s17, s18, s19, s20, s21, s22, rfl, H⟩ hi
    have hall := Up.all H.size (by kernel_rfl) hi
    obtain ⟨b3, cs3, rfl, lo3, kb3, -, hr3⟩ := H.f6 (hall 6 (by decide))
    obtain ⟨⟨la3, lc3, ka3, kc3, va3, vc3, hs3⟩, ht3⟩ := H.f1 (hall 1 (by decide))
    have hq3 := (hr3 (hall 9 (by decide))).symm.trans hs3
    injection hq3 with hq3
    subst hq3
    rw [hs3] at ht3
    unfold seven at kb3 ht3
    replace ht3 := hide ht3
    obtain ⟨b4, cs4, rfl, lo4, kb4, -, hr4⟩ := H.f7 (hall 7 (by decide))
    obtain ⟨⟨la4, lc4, ka4, kc4, va4, vc4, hs4⟩, ht4⟩ := H.f3 (hall 3 (by decide))
    have hq4 := (hr4 (hall 10 (by decide))).symm.trans hs4
    injection hq4 with hq4
    subst hq4
    rw [hs4] at ht4
    unfold seven at kb4 ht4
    replace ht4 := hide ht4
    obtain ⟨b5, cs5, rfl, lo5, kb5, -, hr5⟩ := H.f8 (hall 8 (by decide))
    obtain ⟨⟨la5, lc5, ka5, kc5, va5, vc5, hs5⟩, ht5⟩ := H.f5 (hall 5 (by decide))
    have hq5 := (hr5 (hall 11 (by decide))).symm.trans hs5
    injection hq5 with hq5
    subst hq5
    rw [hs5] at ht5
    unfold seven at kb5 ht5
    replace ht5 := hide ht5
    subst hs3
    subst hs4
    subst hs5
    unfold seven
    obtain ⟨q0, q1, q2, q3, q4, q5⟩ := blk_six (kk.out w5 (b13.out.trans (H.bel.mono b13.out.size)))
    have b15 := hide (b13.out.trans (H.bel.mono b13.out.size))
    obtain ⟨u3, hu3⟩ : ∃ u3, u3 = trimU v (trimLeftF sp v.text) := ⟨_, rfl⟩
    obtain ⟨u4, hu4⟩ : ∃ u4, u4 = trimU v (trimRightF sp v.text) := ⟨_, rfl⟩
    obtain ⟨u5, hu5⟩ : ∃ u5, u5 = trimU v (trimF sp v.text) := ⟨_, rfl⟩
    obtain ⟨Z, hZ⟩ : ∃ Z, Z = trimZ v := ⟨_, rfl⟩
    rw [← hu3, ← hZ] at kb3 ht3
    rw [← hu4, ← hZ] at kb4 ht4
    rw [← hu5, ← hZ] at kb5 ht5
    rw [← hu3, ← hu4, ← hu5, ← hZ]
    have hl3 := kb3.lt
    have hl4 := kb4.lt
    have hl5 := kb5.lt
    obtain ⟨p30, p31, p32, p33, p34, p35, p36⟩ := blk_seven kb3
    obtain ⟨p40, p41, p42, p43, p44, p45, p46⟩ := blk_seven kb4
    obtain ⟨p50, p51, p52, p53, p54, p55, p56⟩ := blk_seven kb5
    clear H hall hi hc1 hc2 hc3 kb3 kb4 kb5 lo3 lo4 lo5 hr3 hr4 hr5
    by_cases hk : v.kind = 4
    · rw [hk] at q0
      have hS1 := hide (fun W' => says_ans W' ht3.out hu3 hZ hk (Nat.le_trans (trimLeftF_size sp v.text) hvs.out))
      have hS2 := hide (fun W' => says_ans W' ht4.out hu4 hZ hk (Nat.le_trans (trimRightF_size sp v.text) hvs.out))
      have hS3 := hide (fun W' => says_ans W' ht5.out hu5 hZ hk (Nat.le_trans (trimF_size sp v.text) hvs.out))
      replace hu3 := hide hu3
      replace hu4 := hide hu4
      replace hu5 := hide hu5
      replace hZ := hide hZ
      replace hk := hide hk
      clear hB
      go_wp2_with fail
      go_loopw [9] (fun s9 wr => ∃ j : Nat, s9 = .int .i64 j ∧ j ≤ v.text.size ∧ (∀ i, i < j → (v.text.get! i).toNat < 128) ∧ w5 = wr) (fun i _ => v.text.size - (intOf i).toNat)
      case atStart => exact ⟨0, rfl, Nat.zero_le _, fun i h => absurd h (Nat.not_lt_zero i), rfl⟩
      case round =>
        obtain ⟨j, rfl, hj, hsm, rfl⟩ := hrel
        replace hsm := hide hsm
        by_cases hjl : j < v.text.size
        · have hxj := index_get v.text j hjl
          by_cases h128 : (v.text.get! j).toNat < 128
          · have z128 : ((v.text.get! j).toNat : Int) < 128 := by omega
            go_wp2_with fail
            go_roundw
            case rel => exact ⟨j + 1, by go_num, by omega, fun i hi => by
              by_cases h : i < j
              · exact hsm.out i h
              · obtain rfl : i = j := by omega
                exact h128, trivial⟩
            case measure => simp [intOf]; omega
          · have z128 : (128 : Int) ≤ ((v.text.get! j).toNat : Int) := by omega
            go_wp2_with fail
            go_ret
            exact ⟨rfl, bW.out.trans (b15.out.mono bW.out.size)⟩
        · obtain rfl : j = v.text.size := by omega
          have hA : Small v.text := fun i hi => hsm.out i hi
          clear hsm
          obtain ⟨F, hF⟩ : ∃ F, fromL v.text v.text.size 0 = F := ⟨_, rfl⟩
          obtain ⟨T, hT2⟩ : ∃ T, toL v.text v.text.size = T := ⟨_, rfl⟩
          obtain ⟨M, hM⟩ : ∃ M, min F T = M := ⟨_, rfl⟩
          have hFle : F ≤ v.text.size := hF ▸ from_le v.text v.text.size 0 (Nat.zero_le _)
          have hTle : T ≤ v.text.size := hT2 ▸ to_le v.text v.text.size
          have e3 := trimLeft_small hA
          have e4 := trimRight_small hA
          have e5 := trim_small hA
          rw [hF] at e3
          rw [hT2] at e4
          rw [hF, hT2, hM] at e5
          replace hS1 := hS1.out
          replace hS2 := hS2.out
          replace hS3 := hS3.out
          rw [e3] at hS1
          rw [e4] at hS2
          rw [e5] at hS3
          replace hS1 := hide hS1
          replace hS2 := hide hS2
          replace hS3 := hide hS3
          have hsl1 := hide (slice_from v.text F hFle)
          have hsl2 := hide (slice_to v.text T hTle)
          have hsl3 := hide (slice_mid v.text M T (by omega) hTle)
          have hmn := hide (min_at F T M hM)
          replace hF := hide hF
          replace hT2 := hide hT2
          replace hM := hide hM
          replace hA := hide hA
          clear e3 e4 e5
          go_wp2_with fail
          go_loopw [7] (fun s7 wr => ∃ j : Nat, s7 = .int .i64 j ∧ j ≤ v.text.size ∧ fromL v.text (v.text.size - j) j = F ∧ w5 = wr) (fun i _ => v.text.size - (intOf i).toNat)
          case atStart => exact ⟨0, rfl, Nat.zero_le _, hF.out, rfl⟩
          case round =>
            obtain ⟨j, rfl, hj, hfj, rfl⟩ := hrel
            have hend : (j < v.text.size → sp (v.text.get! j).toNat = true → fromL v.text (v.text.size - (j + 1)) (j + 1) = F) ∧ (j < v.text.size → sp (v.text.get! j).toNat = false → j = F) ∧ (j = v.text.size → j = F) := by
              refine ⟨fun h1 h2 => ?_, fun h1 h2 => ?_, fun h1 => ?_⟩
              · rw [from_next _ _ h1, if_pos h2] at hfj; exact hfj
              · rw [from_next _ _ h1, h2, if_neg (by decide)] at hfj; exact hfj
              · subst h1; rw [from_last] at hfj; exact hfj
            clear hfj
            replace hend := hide hend
            by_cases hjl : j < v.text.size
            · have hxj := index_get v.text j hjl
              have hbl := hide (blank_any w5 (v.text.get! j) (hA.out j hjl))
              obtain ⟨c, hc⟩ : ∃ c, sp (v.text.get! j).toNat = c := ⟨_, rfl⟩
              rw [hc] at hbl
              replace hc := hide hc
              cases c
              · obtain rfl := (hend.out.2.1 hjl hc.out).symm
                go_wp2_with (go_at_call 29; refine hbl.out.mono ?_; rintro e w' ⟨rfl, rfl⟩)
                go_loopw [8] (fun s8 wr => ∃ j : Nat, s8 = .int .i64 j ∧ j ≤ v.text.size ∧ toL v.text j = T ∧ w5 = wr) (fun i _ => (intOf i).toNat)
                case atStart => exact ⟨v.text.size, rfl, Nat.le_refl _, hT2.out, rfl⟩
                case round =>
                  obtain ⟨m, rfl, hm, htm, rfl⟩ := hrel
                  have htc := to_cases v.text m
                  rw [htm] at htc
                  clear htm
                  replace htc := hide htc
                  by_cases hm0 : 0 < m
                  · have hxm := index_down v.text m hm0 hm
                    have hbm := hide (blank_any w5 (v.text.get! (m - 1)) (hA.out (m - 1) (by omega)))
                    obtain ⟨d, hd⟩ : ∃ d, sp (v.text.get! (m - 1)).toNat = d := ⟨_, rfl⟩
                    rw [hd] at hbm
                    replace hd := hide hd
                    have hwr := wrap_down m hm0 (Nat.le_trans hm hvs.out)
                    cases d
                    · obtain rfl := (htc.out.2.1 hm0 hd.out).symm
                      go_wp2_with (go_at_call 29; refine hbm.out.mono ?_; rintro e w' ⟨rfl, rfl⟩)
                      have hs1 := hsl1.out
                      have hs2 := hsl2.out
                      have hs3 := hsl3.out
                      have hmn' := hmn.out
                      clear htc hA hF hT2 hM hsl1 hsl2 hsl3 hmn
                      go_region_held3 (fun w' => w'.cell? ⟨b3, 0, none⟩ = some (.int .i64 u3.kind) ∧ w'.cell? ⟨b3, 1, none⟩ = some (.int .i64 u3.half) ∧ w'.cell? ⟨b3, 2, none⟩ = some (.string u3.text) ∧ w'.cell? ⟨b3, 3, none⟩ = some (.slice la3 u3.list.length lc3) ∧ w'.cell? ⟨b3, 4, none⟩ = some (.slice ka3 u3.keys.length kc3) ∧ w'.cell? ⟨b3, 5, none⟩ = some (.slice va3 u3.vals.length vc3) ∧ w'.cell? ⟨b3, 6, none⟩ = some (.int .i64 Z) ∧ w'.cell? ⟨b4, 0, none⟩ = some (.int .i64 u4.kind) ∧ w'.cell? ⟨b4, 1, none⟩ = some (.int .i64 u4.half) ∧ w'.cell? ⟨b4, 2, none⟩ = some (.string u4.text) ∧ w'.cell? ⟨b4, 3, none⟩ = some (.slice la4 u4.list.length lc4) ∧ w'.cell? ⟨b4, 4, none⟩ = some (.slice ka4 u4.keys.length kc4) ∧ w'.cell? ⟨b4, 5, none⟩ = some (.slice va4 u4.vals.length vc4) ∧ w'.cell? ⟨b4, 6, none⟩ = some (.int .i64 Z) ∧ w'.cell? ⟨b5, 0, none⟩ = some (.int .i64 u5.kind) ∧ w'.cell? ⟨b5, 1, none⟩ = some (.int .i64 u5.half) ∧ w'.cell? ⟨b5, 2, none⟩ = some (.string u5.text) ∧ w'.cell? ⟨b5, 3, none⟩ = some (.slice la5 u5.list.length lc5) ∧ w'.cell? ⟨b5, 4, none⟩ = some (.slice ka5 u5.keys.length kc5) ∧ w'.cell? ⟨b5, 5, none⟩ = some (.slice va5 u5.vals.length vc5) ∧ w'.cell? ⟨b5, 6, none⟩ = some (.int .i64 Z)) (first | exact ⟨z30, z31, z32, z33, z34, z35, z36, z40, z41, z42, z43, z44, z45, z46, z50, z51, z52, z53, z54, z55, z56⟩ | exact ⟨p30, p31, p32, p33, p34, p35, p36, p40, p41, p42, p43, p44, p45, p46, p50, p51, p52, p53, p54, p55, p56⟩) (first
                        | (go_at_call 30; (with_reducible refine (specStr_any _ (v.text.extract F v.text.size)).mono ?_); rintro e X1 ⟨rfl, c1'⟩; have c1x : Below w5.heap.size w5 X1 := ⟨c1'.os, c1'.tape, c1'.output, c1'.size, c1'.block⟩; have c1 := c1x; have z30 := (c1.cell (p := ⟨b3, 0, none⟩) hl3).trans p30; have z31 := (c1.cell (p := ⟨b3, 1, none⟩) hl3).trans p31; have z32 := (c1.cell (p := ⟨b3, 2, none⟩) hl3).trans p32; have z33 := (c1.cell (p := ⟨b3, 3, none⟩) hl3).trans p33; have z34 := (c1.cell (p := ⟨b3, 4, none⟩) hl3).trans p34; have z35 := (c1.cell (p := ⟨b3, 5, none⟩) hl3).trans p35; have z36 := (c1.cell (p := ⟨b3, 6, none⟩) hl3).trans p36; have z40 := (c1.cell (p := ⟨b4, 0, none⟩) hl4).trans p40; have z41 := (c1.cell (p := ⟨b4, 1, none⟩) hl4).trans p41; have z42 := (c1.cell (p := ⟨b4, 2, none⟩) hl4).trans p42; have z43 := (c1.cell (p := ⟨b4, 3, none⟩) hl4).trans p43; have z44 := (c1.cell (p := ⟨b4, 4, none⟩) hl4).trans p44; have z45 := (c1.cell (p := ⟨b4, 5, none⟩) hl4).trans p45; have z46 := (c1.cell (p := ⟨b4, 6, none⟩) hl4).trans p46; have z50 := (c1.cell (p := ⟨b5, 0, none⟩) hl5).trans p50; have z51 := (c1.cell (p := ⟨b5, 1, none⟩) hl5).trans p51; have z52 := (c1.cell (p := ⟨b5, 2, none⟩) hl5).trans p52; have z53 := (c1.cell (p := ⟨b5, 3, none⟩) hl5).trans p53; have z54 := (c1.cell (p := ⟨b5, 4, none⟩) hl5).trans p54; have z55 := (c1.cell (p := ⟨b5, 5, none⟩) hl5).trans p55; have z56 := (c1.cell (p := ⟨b5, 6, none⟩) hl5).trans p56; replace c1 := hide c1; clear c1' c1x)
                        | (go_at_call 12; (with_reducible refine (hS1.out _).mono ?_); rintro e X2 ⟨rfl, c2'⟩; have c2x : Below X1.heap.size X1 X2 := ⟨c2'.os, c2'.tape, c2'.output, c2'.size, c2'.block⟩; have c2 := c1.out.trans (c2x.mono c1.out.size); have z30 := (c2.cell (p := ⟨b3, 0, none⟩) hl3).trans p30; have z31 := (c2.cell (p := ⟨b3, 1, none⟩) hl3).trans p31; have z32 := (c2.cell (p := ⟨b3, 2, none⟩) hl3).trans p32; have z33 := (c2.cell (p := ⟨b3, 3, none⟩) hl3).trans p33; have z34 := (c2.cell (p := ⟨b3, 4, none⟩) hl3).trans p34; have z35 := (c2.cell (p := ⟨b3, 5, none⟩) hl3).trans p35; have z36 := (c2.cell (p := ⟨b3, 6, none⟩) hl3).trans p36; have z40 := (c2.cell (p := ⟨b4, 0, none⟩) hl4).trans p40; have z41 := (c2.cell (p := ⟨b4, 1, none⟩) hl4).trans p41; have z42 := (c2.cell (p := ⟨b4, 2, none⟩) hl4).trans p42; have z43 := (c2.cell (p := ⟨b4, 3, none⟩) hl4).trans p43; have z44 := (c2.cell (p := ⟨b4, 4, none⟩) hl4).trans p44; have z45 := (c2.cell (p := ⟨b4, 5, none⟩) hl4).trans p45; have z46 := (c2.cell (p := ⟨b4, 6, none⟩) hl4).trans p46; have z50 := (c2.cell (p := ⟨b5, 0, none⟩) hl5).trans p50; have z51 := (c2.cell (p := ⟨b5, 1, none⟩) hl5).trans p51; have z52 := (c2.cell (p := ⟨b5, 2, none⟩) hl5).trans p52; have z53 := (c2.cell (p := ⟨b5, 3, none⟩) hl5).trans p53; have z54 := (c2.cell (p := ⟨b5, 4, none⟩) hl5).trans p54; have z55 := (c2.cell (p := ⟨b5, 5, none⟩) hl5).trans p55; have z56 := (c2.cell (p := ⟨b5, 6, none⟩) hl5).trans p56; replace c2 := hide c2; clear c2' c2x)
                        | (go_at_call 30; (with_reducible refine (specStr_any _ (v.text.extract 0 T)).mono ?_); rintro e X3 ⟨rfl, c3'⟩; have c3x : Below X2.heap.size X2 X3 := ⟨c3'.os, c3'.tape, c3'.output, c3'.size, c3'.block⟩; have c3 := c2.out.trans (c3x.mono c2.out.size); have z30 := (c3.cell (p := ⟨b3, 0, none⟩) hl3).trans p30; have z31 := (c3.cell (p := ⟨b3, 1, none⟩) hl3).trans p31; have z32 := (c3.cell (p := ⟨b3, 2, none⟩) hl3).trans p32; have z33 := (c3.cell (p := ⟨b3, 3, none⟩) hl3).trans p33; have z34 := (c3.cell (p := ⟨b3, 4, none⟩) hl3).trans p34; have z35 := (c3.cell (p := ⟨b3, 5, none⟩) hl3).trans p35; have z36 := (c3.cell (p := ⟨b3, 6, none⟩) hl3).trans p36; have z40 := (c3.cell (p := ⟨b4, 0, none⟩) hl4).trans p40; have z41 := (c3.cell (p := ⟨b4, 1, none⟩) hl4).trans p41; have z42 := (c3.cell (p := ⟨b4, 2, none⟩) hl4).trans p42; have z43 := (c3.cell (p := ⟨b4, 3, none⟩) hl4).trans p43; have z44 := (c3.cell (p := ⟨b4, 4, none⟩) hl4).trans p44; have z45 := (c3.cell (p := ⟨b4, 5, none⟩) hl4).trans p45; have z46 := (c3.cell (p := ⟨b4, 6, none⟩) hl4).trans p46; have z50 := (c3.cell (p := ⟨b5, 0, none⟩) hl5).trans p50; have z51 := (c3.cell (p := ⟨b5, 1, none⟩) hl5).trans p51; have z52 := (c3.cell (p := ⟨b5, 2, none⟩) hl5).trans p52; have z53 := (c3.cell (p := ⟨b5, 3, none⟩) hl5).trans p53; have z54 := (c3.cell (p := ⟨b5, 4, none⟩) hl5).trans p54; have z55 := (c3.cell (p := ⟨b5, 5, none⟩) hl5).trans p55; have z56 := (c3.cell (p := ⟨b5, 6, none⟩) hl5).trans p56; replace c3 := hide c3; clear c3' c3x)
                        | (go_at_call 12; (with_reducible refine (hS2.out _).mono ?_); rintro e X4 ⟨rfl, c4'⟩; have c4x : Below X3.heap.size X3 X4 := ⟨c4'.os, c4'.tape, c4'.output, c4'.size, c4'.block⟩; have c4 := c3.out.trans (c4x.mono c3.out.size); have z30 := (c4.cell (p := ⟨b3, 0, none⟩) hl3).trans p30; have z31 := (c4.cell (p := ⟨b3, 1, none⟩) hl3).trans p31; have z32 := (c4.cell (p := ⟨b3, 2, none⟩) hl3).trans p32; have z33 := (c4.cell (p := ⟨b3, 3, none⟩) hl3).trans p33; have z34 := (c4.cell (p := ⟨b3, 4, none⟩) hl3).trans p34; have z35 := (c4.cell (p := ⟨b3, 5, none⟩) hl3).trans p35; have z36 := (c4.cell (p := ⟨b3, 6, none⟩) hl3).trans p36; have z40 := (c4.cell (p := ⟨b4, 0, none⟩) hl4).trans p40; have z41 := (c4.cell (p := ⟨b4, 1, none⟩) hl4).trans p41; have z42 := (c4.cell (p := ⟨b4, 2, none⟩) hl4).trans p42; have z43 := (c4.cell (p := ⟨b4, 3, none⟩) hl4).trans p43; have z44 := (c4.cell (p := ⟨b4, 4, none⟩) hl4).trans p44; have z45 := (c4.cell (p := ⟨b4, 5, none⟩) hl4).trans p45; have z46 := (c4.cell (p := ⟨b4, 6, none⟩) hl4).trans p46; have z50 := (c4.cell (p := ⟨b5, 0, none⟩) hl5).trans p50; have z51 := (c4.cell (p := ⟨b5, 1, none⟩) hl5).trans p51; have z52 := (c4.cell (p := ⟨b5, 2, none⟩) hl5).trans p52; have z53 := (c4.cell (p := ⟨b5, 3, none⟩) hl5).trans p53; have z54 := (c4.cell (p := ⟨b5, 4, none⟩) hl5).trans p54; have z55 := (c4.cell (p := ⟨b5, 5, none⟩) hl5).trans p55; have z56 := (c4.cell (p := ⟨b5, 6, none⟩) hl5).trans p56; replace c4 := hide c4; clear c4' c4x)
                        | (go_at_call 30; (with_reducible refine (specStr_any _ (v.text.extract M T)).mono ?_); rintro e X5 ⟨rfl, c5'⟩; have c5x : Below X4.heap.size X4 X5 := ⟨c5'.os, c5'.tape, c5'.output, c5'.size, c5'.block⟩; have c5 := c4.out.trans (c5x.mono c4.out.size); have z30 := (c5.cell (p := ⟨b3, 0, none⟩) hl3).trans p30; have z31 := (c5.cell (p := ⟨b3, 1, none⟩) hl3).trans p31; have z32 := (c5.cell (p := ⟨b3, 2, none⟩) hl3).trans p32; have z33 := (c5.cell (p := ⟨b3, 3, none⟩) hl3).trans p33; have z34 := (c5.cell (p := ⟨b3, 4, none⟩) hl3).trans p34; have z35 := (c5.cell (p := ⟨b3, 5, none⟩) hl3).trans p35; have z36 := (c5.cell (p := ⟨b3, 6, none⟩) hl3).trans p36; have z40 := (c5.cell (p := ⟨b4, 0, none⟩) hl4).trans p40; have z41 := (c5.cell (p := ⟨b4, 1, none⟩) hl4).trans p41; have z42 := (c5.cell (p := ⟨b4, 2, none⟩) hl4).trans p42; have z43 := (c5.cell (p := ⟨b4, 3, none⟩) hl4).trans p43; have z44 := (c5.cell (p := ⟨b4, 4, none⟩) hl4).trans p44; have z45 := (c5.cell (p := ⟨b4, 5, none⟩) hl4).trans p45; have z46 := (c5.cell (p := ⟨b4, 6, none⟩) hl4).trans p46; have z50 := (c5.cell (p := ⟨b5, 0, none⟩) hl5).trans p50; have z51 := (c5.cell (p := ⟨b5, 1, none⟩) hl5).trans p51; have z52 := (c5.cell (p := ⟨b5, 2, none⟩) hl5).trans p52; have z53 := (c5.cell (p := ⟨b5, 3, none⟩) hl5).trans p53; have z54 := (c5.cell (p := ⟨b5, 4, none⟩) hl5).trans p54; have z55 := (c5.cell (p := ⟨b5, 5, none⟩) hl5).trans p55; have z56 := (c5.cell (p := ⟨b5, 6, none⟩) hl5).trans p56; replace c5 := hide c5; clear c5' c5x)
                        | (go_at_call 12; (with_reducible refine (hS3.out _).mono ?_); rintro e X6 ⟨rfl, c6'⟩; have c6x : Below X5.heap.size X5 X6 := ⟨c6'.os, c6'.tape, c6'.output, c6'.size, c6'.block⟩; have c6 := c5.out.trans (c6x.mono c5.out.size); have z30 := (c6.cell (p := ⟨b3, 0, none⟩) hl3).trans p30; have z31 := (c6.cell (p := ⟨b3, 1, none⟩) hl3).trans p31; have z32 := (c6.cell (p := ⟨b3, 2, none⟩) hl3).trans p32; have z33 := (c6.cell (p := ⟨b3, 3, none⟩) hl3).trans p33; have z34 := (c6.cell (p := ⟨b3, 4, none⟩) hl3).trans p34; have z35 := (c6.cell (p := ⟨b3, 5, none⟩) hl3).trans p35; have z36 := (c6.cell (p := ⟨b3, 6, none⟩) hl3).trans p36; have z40 := (c6.cell (p := ⟨b4, 0, none⟩) hl4).trans p40; have z41 := (c6.cell (p := ⟨b4, 1, none⟩) hl4).trans p41; have z42 := (c6.cell (p := ⟨b4, 2, none⟩) hl4).trans p42; have z43 := (c6.cell (p := ⟨b4, 3, none⟩) hl4).trans p43; have z44 := (c6.cell (p := ⟨b4, 4, none⟩) hl4).trans p44; have z45 := (c6.cell (p := ⟨b4, 5, none⟩) hl4).trans p45; have z46 := (c6.cell (p := ⟨b4, 6, none⟩) hl4).trans p46; have z50 := (c6.cell (p := ⟨b5, 0, none⟩) hl5).trans p50; have z51 := (c6.cell (p := ⟨b5, 1, none⟩) hl5).trans p51; have z52 := (c6.cell (p := ⟨b5, 2, none⟩) hl5).trans p52; have z53 := (c6.cell (p := ⟨b5, 3, none⟩) hl5).trans p53; have z54 := (c6.cell (p := ⟨b5, 4, none⟩) hl5).trans p54; have z55 := (c6.cell (p := ⟨b5, 5, none⟩) hl5).trans p55; have z56 := (c6.cell (p := ⟨b5, 6, none⟩) hl5).trans p56; replace c6 := hide c6; clear c6' c6x))
                      all_goals
                        go_wp2
                        go_ret
                        exact ⟨rfl, bW.out.trans ((b15.out.trans (c6.out.mono b15.out.size)).mono bW.out.size)⟩
                    · go_wp2_with (go_at_call 29; refine hbm.out.mono ?_; rintro e w' ⟨rfl, rfl⟩)
                      go_roundw
                      case rel => exact ⟨m - 1, down_nat m hm0, by omega, htc.out.1 hm0 hd.out, trivial⟩
                      case measure => simp [intOf]; omega
                  · obtain rfl := (htc.out.2.2 (by omega)).symm
                    go_wp2_with fail
                    have hs1 := hsl1.out
                    have hs2 := hsl2.out
                    have hs3 := hsl3.out
                    have hmn' := hmn.out
                    clear htc hA hF hT2 hM hsl1 hsl2 hsl3 hmn
                    go_region_held3 (fun w' => w'.cell? ⟨b3, 0, none⟩ = some (.int .i64 u3.kind) ∧ w'.cell? ⟨b3, 1, none⟩ = some (.int .i64 u3.half) ∧ w'.cell? ⟨b3, 2, none⟩ = some (.string u3.text) ∧ w'.cell? ⟨b3, 3, none⟩ = some (.slice la3 u3.list.length lc3) ∧ w'.cell? ⟨b3, 4, none⟩ = some (.slice ka3 u3.keys.length kc3) ∧ w'.cell? ⟨b3, 5, none⟩ = some (.slice va3 u3.vals.length vc3) ∧ w'.cell? ⟨b3, 6, none⟩ = some (.int .i64 Z) ∧ w'.cell? ⟨b4, 0, none⟩ = some (.int .i64 u4.kind) ∧ w'.cell? ⟨b4, 1, none⟩ = some (.int .i64 u4.half) ∧ w'.cell? ⟨b4, 2, none⟩ = some (.string u4.text) ∧ w'.cell? ⟨b4, 3, none⟩ = some (.slice la4 u4.list.length lc4) ∧ w'.cell? ⟨b4, 4, none⟩ = some (.slice ka4 u4.keys.length kc4) ∧ w'.cell? ⟨b4, 5, none⟩ = some (.slice va4 u4.vals.length vc4) ∧ w'.cell? ⟨b4, 6, none⟩ = some (.int .i64 Z) ∧ w'.cell? ⟨b5, 0, none⟩ = some (.int .i64 u5.kind) ∧ w'.cell? ⟨b5, 1, none⟩ = some (.int .i64 u5.half) ∧ w'.cell? ⟨b5, 2, none⟩ = some (.string u5.text) ∧ w'.cell? ⟨b5, 3, none⟩ = some (.slice la5 u5.list.length lc5) ∧ w'.cell? ⟨b5, 4, none⟩ = some (.slice ka5 u5.keys.length kc5) ∧ w'.cell? ⟨b5, 5, none⟩ = some (.slice va5 u5.vals.length vc5) ∧ w'.cell? ⟨b5, 6, none⟩ = some (.int .i64 Z)) (first | exact ⟨z30, z31, z32, z33, z34, z35, z36, z40, z41, z42, z43, z44, z45, z46, z50, z51, z52, z53, z54, z55, z56⟩ | exact ⟨p30, p31, p32, p33, p34, p35, p36, p40, p41, p42, p43, p44, p45, p46, p50, p51, p52, p53, p54, p55, p56⟩) (first
                      | (go_at_call 30; (with_reducible refine (specStr_any _ (v.text.extract F v.text.size)).mono ?_); rintro e X1 ⟨rfl, c1'⟩; have c1x : Below w5.heap.size w5 X1 := ⟨c1'.os, c1'.tape, c1'.output, c1'.size, c1'.block⟩; have c1 := c1x; have z30 := (c1.cell (p := ⟨b3, 0, none⟩) hl3).trans p30; have z31 := (c1.cell (p := ⟨b3, 1, none⟩) hl3).trans p31; have z32 := (c1.cell (p := ⟨b3, 2, none⟩) hl3).trans p32; have z33 := (c1.cell (p := ⟨b3, 3, none⟩) hl3).trans p33; have z34 := (c1.cell (p := ⟨b3, 4, none⟩) hl3).trans p34; have z35 := (c1.cell (p := ⟨b3, 5, none⟩) hl3).trans p35; have z36 := (c1.cell (p := ⟨b3, 6, none⟩) hl3).trans p36; have z40 := (c1.cell (p := ⟨b4, 0, none⟩) hl4).trans p40; have z41 := (c1.cell (p := ⟨b4, 1, none⟩) hl4).trans p41; have z42 := (c1.cell (p := ⟨b4, 2, none⟩) hl4).trans p42; have z43 := (c1.cell (p := ⟨b4, 3, none⟩) hl4).trans p43; have z44 := (c1.cell (p := ⟨b4, 4, none⟩) hl4).trans p44; have z45 := (c1.cell (p := ⟨b4, 5, none⟩) hl4).trans p45; have z46 := (c1.cell (p := ⟨b4, 6, none⟩) hl4).trans p46; have z50 := (c1.cell (p := ⟨b5, 0, none⟩) hl5).trans p50; have z51 := (c1.cell (p := ⟨b5, 1, none⟩) hl5).trans p51; have z52 := (c1.cell (p := ⟨b5, 2, none⟩) hl5).trans p52; have z53 := (c1.cell (p := ⟨b5, 3, none⟩) hl5).trans p53; have z54 := (c1.cell (p := ⟨b5, 4, none⟩) hl5).trans p54; have z55 := (c1.cell (p := ⟨b5, 5, none⟩) hl5).trans p55; have z56 := (c1.cell (p := ⟨b5, 6, none⟩) hl5).trans p56; replace c1 := hide c1; clear c1' c1x)
                      | (go_at_call 12; (with_reducible refine (hS1.out _).mono ?_); rintro e X2 ⟨rfl, c2'⟩; have c2x : Below X1.heap.size X1 X2 := ⟨c2'.os, c2'.tape, c2'.output, c2'.size, c2'.block⟩; have c2 := c1.out.trans (c2x.mono c1.out.size); have z30 := (c2.cell (p := ⟨b3, 0, none⟩) hl3).trans p30; have z31 := (c2.cell (p := ⟨b3, 1, none⟩) hl3).trans p31; have z32 := (c2.cell (p := ⟨b3, 2, none⟩) hl3).trans p32; have z33 := (c2.cell (p := ⟨b3, 3, none⟩) hl3).trans p33; have z34 := (c2.cell (p := ⟨b3, 4, none⟩) hl3).trans p34; have z35 := (c2.cell (p := ⟨b3, 5, none⟩) hl3).trans p35; have z36 := (c2.cell (p := ⟨b3, 6, none⟩) hl3).trans p36; have z40 := (c2.cell (p := ⟨b4, 0, none⟩) hl4).trans p40; have z41 := (c2.cell (p := ⟨b4, 1, none⟩) hl4).trans p41; have z42 := (c2.cell (p := ⟨b4, 2, none⟩) hl4).trans p42; have z43 := (c2.cell (p := ⟨b4, 3, none⟩) hl4).trans p43; have z44 := (c2.cell (p := ⟨b4, 4, none⟩) hl4).trans p44; have z45 := (c2.cell (p := ⟨b4, 5, none⟩) hl4).trans p45; have z46 := (c2.cell (p := ⟨b4, 6, none⟩) hl4).trans p46; have z50 := (c2.cell (p := ⟨b5, 0, none⟩) hl5).trans p50; have z51 := (c2.cell (p := ⟨b5, 1, none⟩) hl5).trans p51; have z52 := (c2.cell (p := ⟨b5, 2, none⟩) hl5).trans p52; have z53 := (c2.cell (p := ⟨b5, 3, none⟩) hl5).trans p53; have z54 := (c2.cell (p := ⟨b5, 4, none⟩) hl5).trans p54; have z55 := (c2.cell (p := ⟨b5, 5, none⟩) hl5).trans p55; have z56 := (c2.cell (p := ⟨b5, 6, none⟩) hl5).trans p56; replace c2 := hide c2; clear c2' c2x)
                      | (go_at_call 30; (with_reducible refine (specStr_any _ (v.text.extract 0 T)).mono ?_); rintro e X3 ⟨rfl, c3'⟩; have c3x : Below X2.heap.size X2 X3 := ⟨c3'.os, c3'.tape, c3'.output, c3'.size, c3'.block⟩; have c3 := c2.out.trans (c3x.mono c2.out.size); have z30 := (c3.cell (p := ⟨b3, 0, none⟩) hl3).trans p30; have z31 := (c3.cell (p := ⟨b3, 1, none⟩) hl3).trans p31; have z32 := (c3.cell (p := ⟨b3, 2, none⟩) hl3).trans p32; have z33 := (c3.cell (p := ⟨b3, 3, none⟩) hl3).trans p33; have z34 := (c3.cell (p := ⟨b3, 4, none⟩) hl3).trans p34; have z35 := (c3.cell (p := ⟨b3, 5, none⟩) hl3).trans p35; have z36 := (c3.cell (p := ⟨b3, 6, none⟩) hl3).trans p36; have z40 := (c3.cell (p := ⟨b4, 0, none⟩) hl4).trans p40; have z41 := (c3.cell (p := ⟨b4, 1, none⟩) hl4).trans p41; have z42 := (c3.cell (p := ⟨b4, 2, none⟩) hl4).trans p42; have z43 := (c3.cell (p := ⟨b4, 3, none⟩) hl4).trans p43; have z44 := (c3.cell (p := ⟨b4, 4, none⟩) hl4).trans p44; have z45 := (c3.cell (p := ⟨b4, 5, none⟩) hl4).trans p45; have z46 := (c3.cell (p := ⟨b4, 6, none⟩) hl4).trans p46; have z50 := (c3.cell (p := ⟨b5, 0, none⟩) hl5).trans p50; have z51 := (c3.cell (p := ⟨b5, 1, none⟩) hl5).trans p51; have z52 := (c3.cell (p := ⟨b5, 2, none⟩) hl5).trans p52; have z53 := (c3.cell (p := ⟨b5, 3, none⟩) hl5).trans p53; have z54 := (c3.cell (p := ⟨b5, 4, none⟩) hl5).trans p54; have z55 := (c3.cell (p := ⟨b5, 5, none⟩) hl5).trans p55; have z56 := (c3.cell (p := ⟨b5, 6, none⟩) hl5).trans p56; replace c3 := hide c3; clear c3' c3x)
                      | (go_at_call 12; (with_reducible refine (hS2.out _).mono ?_); rintro e X4 ⟨rfl, c4'⟩; have c4x : Below X3.heap.size X3 X4 := ⟨c4'.os, c4'.tape, c4'.output, c4'.size, c4'.block⟩; have c4 := c3.out.trans (c4x.mono c3.out.size); have z30 := (c4.cell (p := ⟨b3, 0, none⟩) hl3).trans p30; have z31 := (c4.cell (p := ⟨b3, 1, none⟩) hl3).trans p31; have z32 := (c4.cell (p := ⟨b3, 2, none⟩) hl3).trans p32; have z33 := (c4.cell (p := ⟨b3, 3, none⟩) hl3).trans p33; have z34 := (c4.cell (p := ⟨b3, 4, none⟩) hl3).trans p34; have z35 := (c4.cell (p := ⟨b3, 5, none⟩) hl3).trans p35; have z36 := (c4.cell (p := ⟨b3, 6, none⟩) hl3).trans p36; have z40 := (c4.cell (p := ⟨b4, 0, none⟩) hl4).trans p40; have z41 := (c4.cell (p := ⟨b4, 1, none⟩) hl4).trans p41; have z42 := (c4.cell (p := ⟨b4, 2, none⟩) hl4).trans p42; have z43 := (c4.cell (p := ⟨b4, 3, none⟩) hl4).trans p43; have z44 := (c4.cell (p := ⟨b4, 4, none⟩) hl4).trans p44; have z45 := (c4.cell (p := ⟨b4, 5, none⟩) hl4).trans p45; have z46 := (c4.cell (p := ⟨b4, 6, none⟩) hl4).trans p46; have z50 := (c4.cell (p := ⟨b5, 0, none⟩) hl5).trans p50; have z51 := (c4.cell (p := ⟨b5, 1, none⟩) hl5).trans p51; have z52 := (c4.cell (p := ⟨b5, 2, none⟩) hl5).trans p52; have z53 := (c4.cell (p := ⟨b5, 3, none⟩) hl5).trans p53; have z54 := (c4.cell (p := ⟨b5, 4, none⟩) hl5).trans p54; have z55 := (c4.cell (p := ⟨b5, 5, none⟩) hl5).trans p55; have z56 := (c4.cell (p := ⟨b5, 6, none⟩) hl5).trans p56; replace c4 := hide c4; clear c4' c4x)
                      | (go_at_call 30; (with_reducible refine (specStr_any _ (v.text.extract M T)).mono ?_); rintro e X5 ⟨rfl, c5'⟩; have c5x : Below X4.heap.size X4 X5 := ⟨c5'.os, c5'.tape, c5'.output, c5'.size, c5'.block⟩; have c5 := c4.out.trans (c5x.mono c4.out.size); have z30 := (c5.cell (p := ⟨b3, 0, none⟩) hl3).trans p30; have z31 := (c5.cell (p := ⟨b3, 1, none⟩) hl3).trans p31; have z32 := (c5.cell (p := ⟨b3, 2, none⟩) hl3).trans p32; have z33 := (c5.cell (p := ⟨b3, 3, none⟩) hl3).trans p33; have z34 := (c5.cell (p := ⟨b3, 4, none⟩) hl3).trans p34; have z35 := (c5.cell (p := ⟨b3, 5, none⟩) hl3).trans p35; have z36 := (c5.cell (p := ⟨b3, 6, none⟩) hl3).trans p36; have z40 := (c5.cell (p := ⟨b4, 0, none⟩) hl4).trans p40; have z41 := (c5.cell (p := ⟨b4, 1, none⟩) hl4).trans p41; have z42 := (c5.cell (p := ⟨b4, 2, none⟩) hl4).trans p42; have z43 := (c5.cell (p := ⟨b4, 3, none⟩) hl4).trans p43; have z44 := (c5.cell (p := ⟨b4, 4, none⟩) hl4).trans p44; have z45 := (c5.cell (p := ⟨b4, 5, none⟩) hl4).trans p45; have z46 := (c5.cell (p := ⟨b4, 6, none⟩) hl4).trans p46; have z50 := (c5.cell (p := ⟨b5, 0, none⟩) hl5).trans p50; have z51 := (c5.cell (p := ⟨b5, 1, none⟩) hl5).trans p51; have z52 := (c5.cell (p := ⟨b5, 2, none⟩) hl5).trans p52; have z53 := (c5.cell (p := ⟨b5, 3, none⟩) hl5).trans p53; have z54 := (c5.cell (p := ⟨b5, 4, none⟩) hl5).trans p54; have z55 := (c5.cell (p := ⟨b5, 5, none⟩) hl5).trans p55; have z56 := (c5.cell (p := ⟨b5, 6, none⟩) hl5).trans p56; replace c5 := hide c5; clear c5' c5x)
                      | (go_at_call 12; (with_reducible refine (hS3.out _).mono ?_); rintro e X6 ⟨rfl, c6'⟩; have c6x : Below X5.heap.size X5 X6 := ⟨c6'.os, c6'.tape, c6'.output, c6'.size, c6'.block⟩; have c6 := c5.out.trans (c6x.mono c5.out.size); have z30 := (c6.cell (p := ⟨b3, 0, none⟩) hl3).trans p30; have z31 := (c6.cell (p := ⟨b3, 1, none⟩) hl3).trans p31; have z32 := (c6.cell (p := ⟨b3, 2, none⟩) hl3).trans p32; have z33 := (c6.cell (p := ⟨b3, 3, none⟩) hl3).trans p33; have z34 := (c6.cell (p := ⟨b3, 4, none⟩) hl3).trans p34; have z35 := (c6.cell (p := ⟨b3, 5, none⟩) hl3).trans p35; have z36 := (c6.cell (p := ⟨b3, 6, none⟩) hl3).trans p36; have z40 := (c6.cell (p := ⟨b4, 0, none⟩) hl4).trans p40; have z41 := (c6.cell (p := ⟨b4, 1, none⟩) hl4).trans p41; have z42 := (c6.cell (p := ⟨b4, 2, none⟩) hl4).trans p42; have z43 := (c6.cell (p := ⟨b4, 3, none⟩) hl4).trans p43; have z44 := (c6.cell (p := ⟨b4, 4, none⟩) hl4).trans p44; have z45 := (c6.cell (p := ⟨b4, 5, none⟩) hl4).trans p45; have z46 := (c6.cell (p := ⟨b4, 6, none⟩) hl4).trans p46; have z50 := (c6.cell (p := ⟨b5, 0, none⟩) hl5).trans p50; have z51 := (c6.cell (p := ⟨b5, 1, none⟩) hl5).trans p51; have z52 := (c6.cell (p := ⟨b5, 2, none⟩) hl5).trans p52; have z53 := (c6.cell (p := ⟨b5, 3, none⟩) hl5).trans p53; have z54 := (c6.cell (p := ⟨b5, 4, none⟩) hl5).trans p54; have z55 := (c6.cell (p := ⟨b5, 5, none⟩) hl5).trans p55; have z56 := (c6.cell (p := ⟨b5, 6, none⟩) hl5).trans p56; replace c6 := hide c6; clear c6' c6x))
                    all_goals
                      go_wp2
                      go_ret
                      exact ⟨rfl, bW.out.trans ((b15.out.trans (c6.out.mono b15.out.size)).mono bW.out.size)⟩
              · go_wp2_with (go_at_call 29; refine hbl.out.mono ?_; rintro e w' ⟨rfl, rfl⟩)
                go_roundw
                case rel => exact ⟨j + 1, by go_num, by omega, hend.out.1 hjl hc.out, trivial⟩
                case measure => simp [intOf]; omega
            · obtain rfl := (hend.out.2.2 (by omega)).symm
              go_wp2_with fail
              go_loopw [8] (fun s8 wr => ∃ j : Nat, s8 = .int .i64 j ∧ j ≤ v.text.size ∧ toL v.text j = T ∧ w5 = wr) (fun i _ => (intOf i).toNat)
              case atStart => exact ⟨v.text.size, rfl, Nat.le_refl _, hT2.out, rfl⟩
              case round =>
                obtain ⟨m, rfl, hm, htm, rfl⟩ := hrel
                have htc := to_cases v.text m
                rw [htm] at htc
                clear htm
                replace htc := hide htc
                by_cases hm0 : 0 < m
                · have hxm := index_down v.text m hm0 hm
                  have hbm := hide (blank_any w5 (v.text.get! (m - 1)) (hA.out (m - 1) (by omega)))
                  obtain ⟨d, hd⟩ : ∃ d, sp (v.text.get! (m - 1)).toNat = d := ⟨_, rfl⟩
                  rw [hd] at hbm
                  replace hd := hide hd
                  have hwr := wrap_down m hm0 (Nat.le_trans hm hvs.out)
                  cases d
                  · obtain rfl := (htc.out.2.1 hm0 hd.out).symm
                    go_wp2_with (go_at_call 29; refine hbm.out.mono ?_; rintro e w' ⟨rfl, rfl⟩)
                    have hs1 := hsl1.out
                    have hs2 := hsl2.out
                    have hs3 := hsl3.out
                    have hmn' := hmn.out
                    clear htc hA hF hT2 hM hsl1 hsl2 hsl3 hmn
                    go_region_held3 (fun w' => w'.cell? ⟨b3, 0, none⟩ = some (.int .i64 u3.kind) ∧ w'.cell? ⟨b3, 1, none⟩ = some (.int .i64 u3.half) ∧ w'.cell? ⟨b3, 2, none⟩ = some (.string u3.text) ∧ w'.cell? ⟨b3, 3, none⟩ = some (.slice la3 u3.list.length lc3) ∧ w'.cell? ⟨b3, 4, none⟩ = some (.slice ka3 u3.keys.length kc3) ∧ w'.cell? ⟨b3, 5, none⟩ = some (.slice va3 u3.vals.length vc3) ∧ w'.cell? ⟨b3, 6, none⟩ = some (.int .i64 Z) ∧ w'.cell? ⟨b4, 0, none⟩ = some (.int .i64 u4.kind) ∧ w'.cell? ⟨b4, 1, none⟩ = some (.int .i64 u4.half) ∧ w'.cell? ⟨b4, 2, none⟩ = some (.string u4.text) ∧ w'.cell? ⟨b4, 3, none⟩ = some (.slice la4 u4.list.length lc4) ∧ w'.cell? ⟨b4, 4, none⟩ = some (.slice ka4 u4.keys.length kc4) ∧ w'.cell? ⟨b4, 5, none⟩ = some (.slice va4 u4.vals.length vc4) ∧ w'.cell? ⟨b4, 6, none⟩ = some (.int .i64 Z) ∧ w'.cell? ⟨b5, 0, none⟩ = some (.int .i64 u5.kind) ∧ w'.cell? ⟨b5, 1, none⟩ = some (.int .i64 u5.half) ∧ w'.cell? ⟨b5, 2, none⟩ = some (.string u5.text) ∧ w'.cell? ⟨b5, 3, none⟩ = some (.slice la5 u5.list.length lc5) ∧ w'.cell? ⟨b5, 4, none⟩ = some (.slice ka5 u5.keys.length kc5) ∧ w'.cell? ⟨b5, 5, none⟩ = some (.slice va5 u5.vals.length vc5) ∧ w'.cell? ⟨b5, 6, none⟩ = some (.int .i64 Z)) (first | exact ⟨z30, z31, z32, z33, z34, z35, z36, z40, z41, z42, z43, z44, z45, z46, z50, z51, z52, z53, z54, z55, z56⟩ | exact ⟨p30, p31, p32, p33, p34, p35, p36, p40, p41, p42, p43, p44, p45, p46, p50, p51, p52, p53, p54, p55, p56⟩) (first
                      | (go_at_call 30; (with_reducible refine (specStr_any _ (v.text.extract F v.text.size)).mono ?_); rintro e X1 ⟨rfl, c1'⟩; have c1x : Below w5.heap.size w5 X1 := ⟨c1'.os, c1'.tape, c1'.output, c1'.size, c1'.block⟩; have c1 := c1x; have z30 := (c1.cell (p := ⟨b3, 0, none⟩) hl3).trans p30; have z31 := (c1.cell (p := ⟨b3, 1, none⟩) hl3).trans p31; have z32 := (c1.cell (p := ⟨b3, 2, none⟩) hl3).trans p32; have z33 := (c1.cell (p := ⟨b3, 3, none⟩) hl3).trans p33; have z34 := (c1.cell (p := ⟨b3, 4, none⟩) hl3).trans p34; have z35 := (c1.cell (p := ⟨b3, 5, none⟩) hl3).trans p35; have z36 := (c1.cell (p := ⟨b3, 6, none⟩) hl3).trans p36; have z40 := (c1.cell (p := ⟨b4, 0, none⟩) hl4).trans p40; have z41 := (c1.cell (p := ⟨b4, 1, none⟩) hl4).trans p41; have z42 := (c1.cell (p := ⟨b4, 2, none⟩) hl4).trans p42; have z43 := (c1.cell (p := ⟨b4, 3, none⟩) hl4).trans p43; have z44 := (c1.cell (p := ⟨b4, 4, none⟩) hl4).trans p44; have z45 := (c1.cell (p := ⟨b4, 5, none⟩) hl4).trans p45; have z46 := (c1.cell (p := ⟨b4, 6, none⟩) hl4).trans p46; have z50 := (c1.cell (p := ⟨b5, 0, none⟩) hl5).trans p50; have z51 := (c1.cell (p := ⟨b5, 1, none⟩) hl5).trans p51; have z52 := (c1.cell (p := ⟨b5, 2, none⟩) hl5).trans p52; have z53 := (c1.cell (p := ⟨b5, 3, none⟩) hl5).trans p53; have z54 := (c1.cell (p := ⟨b5, 4, none⟩) hl5).trans p54; have z55 := (c1.cell (p := ⟨b5, 5, none⟩) hl5).trans p55; have z56 := (c1.cell (p := ⟨b5, 6, none⟩) hl5).trans p56; replace c1 := hide c1; clear c1' c1x)
                      | (go_at_call 12; (with_reducible refine (hS1.out _).mono ?_); rintro e X2 ⟨rfl, c2'⟩; have c2x : Below X1.heap.size X1 X2 := ⟨c2'.os, c2'.tape, c2'.output, c2'.size, c2'.block⟩; have c2 := c1.out.trans (c2x.mono c1.out.size); have z30 := (c2.cell (p := ⟨b3, 0, none⟩) hl3).trans p30; have z31 := (c2.cell (p := ⟨b3, 1, none⟩) hl3).trans p31; have z32 := (c2.cell (p := ⟨b3, 2, none⟩) hl3).trans p32; have z33 := (c2.cell (p := ⟨b3, 3, none⟩) hl3).trans p33; have z34 := (c2.cell (p := ⟨b3, 4, none⟩) hl3).trans p34; have z35 := (c2.cell (p := ⟨b3, 5, none⟩) hl3).trans p35; have z36 := (c2.cell (p := ⟨b3, 6, none⟩) hl3).trans p36; have z40 := (c2.cell (p := ⟨b4, 0, none⟩) hl4).trans p40; have z41 := (c2.cell (p := ⟨b4, 1, none⟩) hl4).trans p41; have z42 := (c2.cell (p := ⟨b4, 2, none⟩) hl4).trans p42; have z43 := (c2.cell (p := ⟨b4, 3, none⟩) hl4).trans p43; have z44 := (c2.cell (p := ⟨b4, 4, none⟩) hl4).trans p44; have z45 := (c2.cell (p := ⟨b4, 5, none⟩) hl4).trans p45; have z46 := (c2.cell (p := ⟨b4, 6, none⟩) hl4).trans p46; have z50 := (c2.cell (p := ⟨b5, 0, none⟩) hl5).trans p50; have z51 := (c2.cell (p := ⟨b5, 1, none⟩) hl5).trans p51; have z52 := (c2.cell (p := ⟨b5, 2, none⟩) hl5).trans p52; have z53 := (c2.cell (p := ⟨b5, 3, none⟩) hl5).trans p53; have z54 := (c2.cell (p := ⟨b5, 4, none⟩) hl5).trans p54; have z55 := (c2.cell (p := ⟨b5, 5, none⟩) hl5).trans p55; have z56 := (c2.cell (p := ⟨b5, 6, none⟩) hl5).trans p56; replace c2 := hide c2; clear c2' c2x)
                      | (go_at_call 30; (with_reducible refine (specStr_any _ (v.text.extract 0 T)).mono ?_); rintro e X3 ⟨rfl, c3'⟩; have c3x : Below X2.heap.size X2 X3 := ⟨c3'.os, c3'.tape, c3'.output, c3'.size, c3'.block⟩; have c3 := c2.out.trans (c3x.mono c2.out.size); have z30 := (c3.cell (p := ⟨b3, 0, none⟩) hl3).trans p30; have z31 := (c3.cell (p := ⟨b3, 1, none⟩) hl3).trans p31; have z32 := (c3.cell (p := ⟨b3, 2, none⟩) hl3).trans p32; have z33 := (c3.cell (p := ⟨b3, 3, none⟩) hl3).trans p33; have z34 := (c3.cell (p := ⟨b3, 4, none⟩) hl3).trans p34; have z35 := (c3.cell (p := ⟨b3, 5, none⟩) hl3).trans p35; have z36 := (c3.cell (p := ⟨b3, 6, none⟩) hl3).trans p36; have z40 := (c3.cell (p := ⟨b4, 0, none⟩) hl4).trans p40; have z41 := (c3.cell (p := ⟨b4, 1, none⟩) hl4).trans p41; have z42 := (c3.cell (p := ⟨b4, 2, none⟩) hl4).trans p42; have z43 := (c3.cell (p := ⟨b4, 3, none⟩) hl4).trans p43; have z44 := (c3.cell (p := ⟨b4, 4, none⟩) hl4).trans p44; have z45 := (c3.cell (p := ⟨b4, 5, none⟩) hl4).trans p45; have z46 := (c3.cell (p := ⟨b4, 6, none⟩) hl4).trans p46; have z50 := (c3.cell (p := ⟨b5, 0, none⟩) hl5).trans p50; have z51 := (c3.cell (p := ⟨b5, 1, none⟩) hl5).trans p51; have z52 := (c3.cell (p := ⟨b5, 2, none⟩) hl5).trans p52; have z53 := (c3.cell (p := ⟨b5, 3, none⟩) hl5).trans p53; have z54 := (c3.cell (p := ⟨b5, 4, none⟩) hl5).trans p54; have z55 := (c3.cell (p := ⟨b5, 5, none⟩) hl5).trans p55; have z56 := (c3.cell (p := ⟨b5, 6, none⟩) hl5).trans p56; replace c3 := hide c3; clear c3' c3x)
                      | (go_at_call 12; (with_reducible refine (hS2.out _).mono ?_); rintro e X4 ⟨rfl, c4'⟩; have c4x : Below X3.heap.size X3 X4 := ⟨c4'.os, c4'.tape, c4'.output, c4'.size, c4'.block⟩; have c4 := c3.out.trans (c4x.mono c3.out.size); have z30 := (c4.cell (p := ⟨b3, 0, none⟩) hl3).trans p30; have z31 := (c4.cell (p := ⟨b3, 1, none⟩) hl3).trans p31; have z32 := (c4.cell (p := ⟨b3, 2, none⟩) hl3).trans p32; have z33 := (c4.cell (p := ⟨b3, 3, none⟩) hl3).trans p33; have z34 := (c4.cell (p := ⟨b3, 4, none⟩) hl3).trans p34; have z35 := (c4.cell (p := ⟨b3, 5, none⟩) hl3).trans p35; have z36 := (c4.cell (p := ⟨b3, 6, none⟩) hl3).trans p36; have z40 := (c4.cell (p := ⟨b4, 0, none⟩) hl4).trans p40; have z41 := (c4.cell (p := ⟨b4, 1, none⟩) hl4).trans p41; have z42 := (c4.cell (p := ⟨b4, 2, none⟩) hl4).trans p42; have z43 := (c4.cell (p := ⟨b4, 3, none⟩) hl4).trans p43; have z44 := (c4.cell (p := ⟨b4, 4, none⟩) hl4).trans p44; have z45 := (c4.cell (p := ⟨b4, 5, none⟩) hl4).trans p45; have z46 := (c4.cell (p := ⟨b4, 6, none⟩) hl4).trans p46; have z50 := (c4.cell (p := ⟨b5, 0, none⟩) hl5).trans p50; have z51 := (c4.cell (p := ⟨b5, 1, none⟩) hl5).trans p51; have z52 := (c4.cell (p := ⟨b5, 2, none⟩) hl5).trans p52; have z53 := (c4.cell (p := ⟨b5, 3, none⟩) hl5).trans p53; have z54 := (c4.cell (p := ⟨b5, 4, none⟩) hl5).trans p54; have z55 := (c4.cell (p := ⟨b5, 5, none⟩) hl5).trans p55; have z56 := (c4.cell (p := ⟨b5, 6, none⟩) hl5).trans p56; replace c4 := hide c4; clear c4' c4x)
                      | (go_at_call 30; (with_reducible refine (specStr_any _ (v.text.extract M T)).mono ?_); rintro e X5 ⟨rfl, c5'⟩; have c5x : Below X4.heap.size X4 X5 := ⟨c5'.os, c5'.tape, c5'.output, c5'.size, c5'.block⟩; have c5 := c4.out.trans (c5x.mono c4.out.size); have z30 := (c5.cell (p := ⟨b3, 0, none⟩) hl3).trans p30; have z31 := (c5.cell (p := ⟨b3, 1, none⟩) hl3).trans p31; have z32 := (c5.cell (p := ⟨b3, 2, none⟩) hl3).trans p32; have z33 := (c5.cell (p := ⟨b3, 3, none⟩) hl3).trans p33; have z34 := (c5.cell (p := ⟨b3, 4, none⟩) hl3).trans p34; have z35 := (c5.cell (p := ⟨b3, 5, none⟩) hl3).trans p35; have z36 := (c5.cell (p := ⟨b3, 6, none⟩) hl3).trans p36; have z40 := (c5.cell (p := ⟨b4, 0, none⟩) hl4).trans p40; have z41 := (c5.cell (p := ⟨b4, 1, none⟩) hl4).trans p41; have z42 := (c5.cell (p := ⟨b4, 2, none⟩) hl4).trans p42; have z43 := (c5.cell (p := ⟨b4, 3, none⟩) hl4).trans p43; have z44 := (c5.cell (p := ⟨b4, 4, none⟩) hl4).trans p44; have z45 := (c5.cell (p := ⟨b4, 5, none⟩) hl4).trans p45; have z46 := (c5.cell (p := ⟨b4, 6, none⟩) hl4).trans p46; have z50 := (c5.cell (p := ⟨b5, 0, none⟩) hl5).trans p50; have z51 := (c5.cell (p := ⟨b5, 1, none⟩) hl5).trans p51; have z52 := (c5.cell (p := ⟨b5, 2, none⟩) hl5).trans p52; have z53 := (c5.cell (p := ⟨b5, 3, none⟩) hl5).trans p53; have z54 := (c5.cell (p := ⟨b5, 4, none⟩) hl5).trans p54; have z55 := (c5.cell (p := ⟨b5, 5, none⟩) hl5).trans p55; have z56 := (c5.cell (p := ⟨b5, 6, none⟩) hl5).trans p56; replace c5 := hide c5; clear c5' c5x)
                      | (go_at_call 12; (with_reducible refine (hS3.out _).mono ?_); rintro e X6 ⟨rfl, c6'⟩; have c6x : Below X5.heap.size X5 X6 := ⟨c6'.os, c6'.tape, c6'.output, c6'.size, c6'.block⟩; have c6 := c5.out.trans (c6x.mono c5.out.size); have z30 := (c6.cell (p := ⟨b3, 0, none⟩) hl3).trans p30; have z31 := (c6.cell (p := ⟨b3, 1, none⟩) hl3).trans p31; have z32 := (c6.cell (p := ⟨b3, 2, none⟩) hl3).trans p32; have z33 := (c6.cell (p := ⟨b3, 3, none⟩) hl3).trans p33; have z34 := (c6.cell (p := ⟨b3, 4, none⟩) hl3).trans p34; have z35 := (c6.cell (p := ⟨b3, 5, none⟩) hl3).trans p35; have z36 := (c6.cell (p := ⟨b3, 6, none⟩) hl3).trans p36; have z40 := (c6.cell (p := ⟨b4, 0, none⟩) hl4).trans p40; have z41 := (c6.cell (p := ⟨b4, 1, none⟩) hl4).trans p41; have z42 := (c6.cell (p := ⟨b4, 2, none⟩) hl4).trans p42; have z43 := (c6.cell (p := ⟨b4, 3, none⟩) hl4).trans p43; have z44 := (c6.cell (p := ⟨b4, 4, none⟩) hl4).trans p44; have z45 := (c6.cell (p := ⟨b4, 5, none⟩) hl4).trans p45; have z46 := (c6.cell (p := ⟨b4, 6, none⟩) hl4).trans p46; have z50 := (c6.cell (p := ⟨b5, 0, none⟩) hl5).trans p50; have z51 := (c6.cell (p := ⟨b5, 1, none⟩) hl5).trans p51; have z52 := (c6.cell (p := ⟨b5, 2, none⟩) hl5).trans p52; have z53 := (c6.cell (p := ⟨b5, 3, none⟩) hl5).trans p53; have z54 := (c6.cell (p := ⟨b5, 4, none⟩) hl5).trans p54; have z55 := (c6.cell (p := ⟨b5, 5, none⟩) hl5).trans p55; have z56 := (c6.cell (p := ⟨b5, 6, none⟩) hl5).trans p56; replace c6 := hide c6; clear c6' c6x))
                    all_goals
                      go_wp2
                      go_ret
                      exact ⟨rfl, bW.out.trans ((b15.out.trans (c6.out.mono b15.out.size)).mono bW.out.size)⟩
                  · go_wp2_with (go_at_call 29; refine hbm.out.mono ?_; rintro e w' ⟨rfl, rfl⟩)
                    go_roundw
                    case rel => exact ⟨m - 1, down_nat m hm0, by omega, htc.out.1 hm0 hd.out, trivial⟩
                    case measure => simp [intOf]; omega
                · obtain rfl := (htc.out.2.2 (by omega)).symm
                  go_wp2_with fail
                  have hs1 := hsl1.out
                  have hs2 := hsl2.out
                  have hs3 := hsl3.out
                  have hmn' := hmn.out
                  clear htc hA hF hT2 hM hsl1 hsl2 hsl3 hmn
                  go_region_held3 (fun w' => w'.cell? ⟨b3, 0, none⟩ = some (.int .i64 u3.kind) ∧ w'.cell? ⟨b3, 1, none⟩ = some (.int .i64 u3.half) ∧ w'.cell? ⟨b3, 2, none⟩ = some (.string u3.text) ∧ w'.cell? ⟨b3, 3, none⟩ = some (.slice la3 u3.list.length lc3) ∧ w'.cell? ⟨b3, 4, none⟩ = some (.slice ka3 u3.keys.length kc3) ∧ w'.cell? ⟨b3, 5, none⟩ = some (.slice va3 u3.vals.length vc3) ∧ w'.cell? ⟨b3, 6, none⟩ = some (.int .i64 Z) ∧ w'.cell? ⟨b4, 0, none⟩ = some (.int .i64 u4.kind) ∧ w'.cell? ⟨b4, 1, none⟩ = some (.int .i64 u4.half) ∧ w'.cell? ⟨b4, 2, none⟩ = some (.string u4.text) ∧ w'.cell? ⟨b4, 3, none⟩ = some (.slice la4 u4.list.length lc4) ∧ w'.cell? ⟨b4, 4, none⟩ = some (.slice ka4 u4.keys.length kc4) ∧ w'.cell? ⟨b4, 5, none⟩ = some (.slice va4 u4.vals.length vc4) ∧ w'.cell? ⟨b4, 6, none⟩ = some (.int .i64 Z) ∧ w'.cell? ⟨b5, 0, none⟩ = some (.int .i64 u5.kind) ∧ w'.cell? ⟨b5, 1, none⟩ = some (.int .i64 u5.half) ∧ w'.cell? ⟨b5, 2, none⟩ = some (.string u5.text) ∧ w'.cell? ⟨b5, 3, none⟩ = some (.slice la5 u5.list.length lc5) ∧ w'.cell? ⟨b5, 4, none⟩ = some (.slice ka5 u5.keys.length kc5) ∧ w'.cell? ⟨b5, 5, none⟩ = some (.slice va5 u5.vals.length vc5) ∧ w'.cell? ⟨b5, 6, none⟩ = some (.int .i64 Z)) (first | exact ⟨z30, z31, z32, z33, z34, z35, z36, z40, z41, z42, z43, z44, z45, z46, z50, z51, z52, z53, z54, z55, z56⟩ | exact ⟨p30, p31, p32, p33, p34, p35, p36, p40, p41, p42, p43, p44, p45, p46, p50, p51, p52, p53, p54, p55, p56⟩) (first
                    | (go_at_call 30; (with_reducible refine (specStr_any _ (v.text.extract F v.text.size)).mono ?_); rintro e X1 ⟨rfl, c1'⟩; have c1x : Below w5.heap.size w5 X1 := ⟨c1'.os, c1'.tape, c1'.output, c1'.size, c1'.block⟩; have c1 := c1x; have z30 := (c1.cell (p := ⟨b3, 0, none⟩) hl3).trans p30; have z31 := (c1.cell (p := ⟨b3, 1, none⟩) hl3).trans p31; have z32 := (c1.cell (p := ⟨b3, 2, none⟩) hl3).trans p32; have z33 := (c1.cell (p := ⟨b3, 3, none⟩) hl3).trans p33; have z34 := (c1.cell (p := ⟨b3, 4, none⟩) hl3).trans p34; have z35 := (c1.cell (p := ⟨b3, 5, none⟩) hl3).trans p35; have z36 := (c1.cell (p := ⟨b3, 6, none⟩) hl3).trans p36; have z40 := (c1.cell (p := ⟨b4, 0, none⟩) hl4).trans p40; have z41 := (c1.cell (p := ⟨b4, 1, none⟩) hl4).trans p41; have z42 := (c1.cell (p := ⟨b4, 2, none⟩) hl4).trans p42; have z43 := (c1.cell (p := ⟨b4, 3, none⟩) hl4).trans p43; have z44 := (c1.cell (p := ⟨b4, 4, none⟩) hl4).trans p44; have z45 := (c1.cell (p := ⟨b4, 5, none⟩) hl4).trans p45; have z46 := (c1.cell (p := ⟨b4, 6, none⟩) hl4).trans p46; have z50 := (c1.cell (p := ⟨b5, 0, none⟩) hl5).trans p50; have z51 := (c1.cell (p := ⟨b5, 1, none⟩) hl5).trans p51; have z52 := (c1.cell (p := ⟨b5, 2, none⟩) hl5).trans p52; have z53 := (c1.cell (p := ⟨b5, 3, none⟩) hl5).trans p53; have z54 := (c1.cell (p := ⟨b5, 4, none⟩) hl5).trans p54; have z55 := (c1.cell (p := ⟨b5, 5, none⟩) hl5).trans p55; have z56 := (c1.cell (p := ⟨b5, 6, none⟩) hl5).trans p56; replace c1 := hide c1; clear c1' c1x)
                    | (go_at_call 12; (with_reducible refine (hS1.out _).mono ?_); rintro e X2 ⟨rfl, c2'⟩; have c2x : Below X1.heap.size X1 X2 := ⟨c2'.os, c2'.tape, c2'.output, c2'.size, c2'.block⟩; have c2 := c1.out.trans (c2x.mono c1.out.size); have z30 := (c2.cell (p := ⟨b3, 0, none⟩) hl3).trans p30; have z31 := (c2.cell (p := ⟨b3, 1, none⟩) hl3).trans p31; have z32 := (c2.cell (p := ⟨b3, 2, none⟩) hl3).trans p32; have z33 := (c2.cell (p := ⟨b3, 3, none⟩) hl3).trans p33; have z34 := (c2.cell (p := ⟨b3, 4, none⟩) hl3).trans p34; have z35 := (c2.cell (p := ⟨b3, 5, none⟩) hl3).trans p35; have z36 := (c2.cell (p := ⟨b3, 6, none⟩) hl3).trans p36; have z40 := (c2.cell (p := ⟨b4, 0, none⟩) hl4).trans p40; have z41 := (c2.cell (p := ⟨b4, 1, none⟩) hl4).trans p41; have z42 := (c2.cell (p := ⟨b4, 2, none⟩) hl4).trans p42; have z43 := (c2.cell (p := ⟨b4, 3, none⟩) hl4).trans p43; have z44 := (c2.cell (p := ⟨b4, 4, none⟩) hl4).trans p44; have z45 := (c2.cell (p := ⟨b4, 5, none⟩) hl4).trans p45; have z46 := (c2.cell (p := ⟨b4, 6, none⟩) hl4).trans p46; have z50 := (c2.cell (p := ⟨b5, 0, none⟩) hl5).trans p50; have z51 := (c2.cell (p := ⟨b5, 1, none⟩) hl5).trans p51; have z52 := (c2.cell (p := ⟨b5, 2, none⟩) hl5).trans p52; have z53 := (c2.cell (p := ⟨b5, 3, none⟩) hl5).trans p53; have z54 := (c2.cell (p := ⟨b5, 4, none⟩) hl5).trans p54; have z55 := (c2.cell (p := ⟨b5, 5, none⟩) hl5).trans p55; have z56 := (c2.cell (p := ⟨b5, 6, none⟩) hl5).trans p56; replace c2 := hide c2; clear c2' c2x)
                    | (go_at_call 30; (with_reducible refine (specStr_any _ (v.text.extract 0 T)).mono ?_); rintro e X3 ⟨rfl, c3'⟩; have c3x : Below X2.heap.size X2 X3 := ⟨c3'.os, c3'.tape, c3'.output, c3'.size, c3'.block⟩; have c3 := c2.out.trans (c3x.mono c2.out.size); have z30 := (c3.cell (p := ⟨b3, 0, none⟩) hl3).trans p30; have z31 := (c3.cell (p := ⟨b3, 1, none⟩) hl3).trans p31; have z32 := (c3.cell (p := ⟨b3, 2, none⟩) hl3).trans p32; have z33 := (c3.cell (p := ⟨b3, 3, none⟩) hl3).trans p33; have z34 := (c3.cell (p := ⟨b3, 4, none⟩) hl3).trans p34; have z35 := (c3.cell (p := ⟨b3, 5, none⟩) hl3).trans p35; have z36 := (c3.cell (p := ⟨b3, 6, none⟩) hl3).trans p36; have z40 := (c3.cell (p := ⟨b4, 0, none⟩) hl4).trans p40; have z41 := (c3.cell (p := ⟨b4, 1, none⟩) hl4).trans p41; have z42 := (c3.cell (p := ⟨b4, 2, none⟩) hl4).trans p42; have z43 := (c3.cell (p := ⟨b4, 3, none⟩) hl4).trans p43; have z44 := (c3.cell (p := ⟨b4, 4, none⟩) hl4).trans p44; have z45 := (c3.cell (p := ⟨b4, 5, none⟩) hl4).trans p45; have z46 := (c3.cell (p := ⟨b4, 6, none⟩) hl4).trans p46; have z50 := (c3.cell (p := ⟨b5, 0, none⟩) hl5).trans p50; have z51 := (c3.cell (p := ⟨b5, 1, none⟩) hl5).trans p51; have z52 := (c3.cell (p := ⟨b5, 2, none⟩) hl5).trans p52; have z53 := (c3.cell (p := ⟨b5, 3, none⟩) hl5).trans p53; have z54 := (c3.cell (p := ⟨b5, 4, none⟩) hl5).trans p54; have z55 := (c3.cell (p := ⟨b5, 5, none⟩) hl5).trans p55; have z56 := (c3.cell (p := ⟨b5, 6, none⟩) hl5).trans p56; replace c3 := hide c3; clear c3' c3x)
                    | (go_at_call 12; (with_reducible refine (hS2.out _).mono ?_); rintro e X4 ⟨rfl, c4'⟩; have c4x : Below X3.heap.size X3 X4 := ⟨c4'.os, c4'.tape, c4'.output, c4'.size, c4'.block⟩; have c4 := c3.out.trans (c4x.mono c3.out.size); have z30 := (c4.cell (p := ⟨b3, 0, none⟩) hl3).trans p30; have z31 := (c4.cell (p := ⟨b3, 1, none⟩) hl3).trans p31; have z32 := (c4.cell (p := ⟨b3, 2, none⟩) hl3).trans p32; have z33 := (c4.cell (p := ⟨b3, 3, none⟩) hl3).trans p33; have z34 := (c4.cell (p := ⟨b3, 4, none⟩) hl3).trans p34; have z35 := (c4.cell (p := ⟨b3, 5, none⟩) hl3).trans p35; have z36 := (c4.cell (p := ⟨b3, 6, none⟩) hl3).trans p36; have z40 := (c4.cell (p := ⟨b4, 0, none⟩) hl4).trans p40; have z41 := (c4.cell (p := ⟨b4, 1, none⟩) hl4).trans p41; have z42 := (c4.cell (p := ⟨b4, 2, none⟩) hl4).trans p42; have z43 := (c4.cell (p := ⟨b4, 3, none⟩) hl4).trans p43; have z44 := (c4.cell (p := ⟨b4, 4, none⟩) hl4).trans p44; have z45 := (c4.cell (p := ⟨b4, 5, none⟩) hl4).trans p45; have z46 := (c4.cell (p := ⟨b4, 6, none⟩) hl4).trans p46; have z50 := (c4.cell (p := ⟨b5, 0, none⟩) hl5).trans p50; have z51 := (c4.cell (p := ⟨b5, 1, none⟩) hl5).trans p51; have z52 := (c4.cell (p := ⟨b5, 2, none⟩) hl5).trans p52; have z53 := (c4.cell (p := ⟨b5, 3, none⟩) hl5).trans p53; have z54 := (c4.cell (p := ⟨b5, 4, none⟩) hl5).trans p54; have z55 := (c4.cell (p := ⟨b5, 5, none⟩) hl5).trans p55; have z56 := (c4.cell (p := ⟨b5, 6, none⟩) hl5).trans p56; replace c4 := hide c4; clear c4' c4x)
                    | (go_at_call 30; (with_reducible refine (specStr_any _ (v.text.extract M T)).mono ?_); rintro e X5 ⟨rfl, c5'⟩; have c5x : Below X4.heap.size X4 X5 := ⟨c5'.os, c5'.tape, c5'.output, c5'.size, c5'.block⟩; have c5 := c4.out.trans (c5x.mono c4.out.size); have z30 := (c5.cell (p := ⟨b3, 0, none⟩) hl3).trans p30; have z31 := (c5.cell (p := ⟨b3, 1, none⟩) hl3).trans p31; have z32 := (c5.cell (p := ⟨b3, 2, none⟩) hl3).trans p32; have z33 := (c5.cell (p := ⟨b3, 3, none⟩) hl3).trans p33; have z34 := (c5.cell (p := ⟨b3, 4, none⟩) hl3).trans p34; have z35 := (c5.cell (p := ⟨b3, 5, none⟩) hl3).trans p35; have z36 := (c5.cell (p := ⟨b3, 6, none⟩) hl3).trans p36; have z40 := (c5.cell (p := ⟨b4, 0, none⟩) hl4).trans p40; have z41 := (c5.cell (p := ⟨b4, 1, none⟩) hl4).trans p41; have z42 := (c5.cell (p := ⟨b4, 2, none⟩) hl4).trans p42; have z43 := (c5.cell (p := ⟨b4, 3, none⟩) hl4).trans p43; have z44 := (c5.cell (p := ⟨b4, 4, none⟩) hl4).trans p44; have z45 := (c5.cell (p := ⟨b4, 5, none⟩) hl4).trans p45; have z46 := (c5.cell (p := ⟨b4, 6, none⟩) hl4).trans p46; have z50 := (c5.cell (p := ⟨b5, 0, none⟩) hl5).trans p50; have z51 := (c5.cell (p := ⟨b5, 1, none⟩) hl5).trans p51; have z52 := (c5.cell (p := ⟨b5, 2, none⟩) hl5).trans p52; have z53 := (c5.cell (p := ⟨b5, 3, none⟩) hl5).trans p53; have z54 := (c5.cell (p := ⟨b5, 4, none⟩) hl5).trans p54; have z55 := (c5.cell (p := ⟨b5, 5, none⟩) hl5).trans p55; have z56 := (c5.cell (p := ⟨b5, 6, none⟩) hl5).trans p56; replace c5 := hide c5; clear c5' c5x)
                    | (go_at_call 12; (with_reducible refine (hS3.out _).mono ?_); rintro e X6 ⟨rfl, c6'⟩; have c6x : Below X5.heap.size X5 X6 := ⟨c6'.os, c6'.tape, c6'.output, c6'.size, c6'.block⟩; have c6 := c5.out.trans (c6x.mono c5.out.size); have z30 := (c6.cell (p := ⟨b3, 0, none⟩) hl3).trans p30; have z31 := (c6.cell (p := ⟨b3, 1, none⟩) hl3).trans p31; have z32 := (c6.cell (p := ⟨b3, 2, none⟩) hl3).trans p32; have z33 := (c6.cell (p := ⟨b3, 3, none⟩) hl3).trans p33; have z34 := (c6.cell (p := ⟨b3, 4, none⟩) hl3).trans p34; have z35 := (c6.cell (p := ⟨b3, 5, none⟩) hl3).trans p35; have z36 := (c6.cell (p := ⟨b3, 6, none⟩) hl3).trans p36; have z40 := (c6.cell (p := ⟨b4, 0, none⟩) hl4).trans p40; have z41 := (c6.cell (p := ⟨b4, 1, none⟩) hl4).trans p41; have z42 := (c6.cell (p := ⟨b4, 2, none⟩) hl4).trans p42; have z43 := (c6.cell (p := ⟨b4, 3, none⟩) hl4).trans p43; have z44 := (c6.cell (p := ⟨b4, 4, none⟩) hl4).trans p44; have z45 := (c6.cell (p := ⟨b4, 5, none⟩) hl4).trans p45; have z46 := (c6.cell (p := ⟨b4, 6, none⟩) hl4).trans p46; have z50 := (c6.cell (p := ⟨b5, 0, none⟩) hl5).trans p50; have z51 := (c6.cell (p := ⟨b5, 1, none⟩) hl5).trans p51; have z52 := (c6.cell (p := ⟨b5, 2, none⟩) hl5).trans p52; have z53 := (c6.cell (p := ⟨b5, 3, none⟩) hl5).trans p53; have z54 := (c6.cell (p := ⟨b5, 4, none⟩) hl5).trans p54; have z55 := (c6.cell (p := ⟨b5, 5, none⟩) hl5).trans p55; have z56 := (c6.cell (p := ⟨b5, 6, none⟩) hl5).trans p56; replace c6 := hide c6; clear c6' c6x))
                  all_goals
                    go_wp2
                    go_ret
                    exact ⟨rfl, bW.out.trans ((b15.out.trans (c6.out.mono b15.out.size)).mono bW.out.size)⟩
    · have hS1 := hide (fun W' => wrong_ans W' ht3.out hu3 hZ hk)
      have hS2 := hide (fun W' => wrong_ans W' ht4.out hu4 hZ hk)
      have hS3 := hide (fun W' => wrong_ans W' ht5.out hu5 hZ hk)
      replace hu3 := hide hu3
      replace hu4 := hide hu4
      replace hu5 := hide hu5
      replace hZ := hide hZ
      replace hsz := hide hsz
      clear hB
      go_wp2_with (first
      | (go_at_call 11; (with_reducible refine (hS1.out _).mono ?_); rintro e X1 ⟨rfl, c1'⟩; have c1x : Below w5.heap.size w5 X1 := ⟨c1'.os, c1'.tape, c1'.output, c1'.size, c1'.block⟩; have c1 := c1x; have z30 := (c1.cell (p := ⟨b3, 0, none⟩) hl3).trans p30; have z31 := (c1.cell (p := ⟨b3, 1, none⟩) hl3).trans p31; have z32 := (c1.cell (p := ⟨b3, 2, none⟩) hl3).trans p32; have z33 := (c1.cell (p := ⟨b3, 3, none⟩) hl3).trans p33; have z34 := (c1.cell (p := ⟨b3, 4, none⟩) hl3).trans p34; have z35 := (c1.cell (p := ⟨b3, 5, none⟩) hl3).trans p35; have z36 := (c1.cell (p := ⟨b3, 6, none⟩) hl3).trans p36; have z40 := (c1.cell (p := ⟨b4, 0, none⟩) hl4).trans p40; have z41 := (c1.cell (p := ⟨b4, 1, none⟩) hl4).trans p41; have z42 := (c1.cell (p := ⟨b4, 2, none⟩) hl4).trans p42; have z43 := (c1.cell (p := ⟨b4, 3, none⟩) hl4).trans p43; have z44 := (c1.cell (p := ⟨b4, 4, none⟩) hl4).trans p44; have z45 := (c1.cell (p := ⟨b4, 5, none⟩) hl4).trans p45; have z46 := (c1.cell (p := ⟨b4, 6, none⟩) hl4).trans p46; have z50 := (c1.cell (p := ⟨b5, 0, none⟩) hl5).trans p50; have z51 := (c1.cell (p := ⟨b5, 1, none⟩) hl5).trans p51; have z52 := (c1.cell (p := ⟨b5, 2, none⟩) hl5).trans p52; have z53 := (c1.cell (p := ⟨b5, 3, none⟩) hl5).trans p53; have z54 := (c1.cell (p := ⟨b5, 4, none⟩) hl5).trans p54; have z55 := (c1.cell (p := ⟨b5, 5, none⟩) hl5).trans p55; have z56 := (c1.cell (p := ⟨b5, 6, none⟩) hl5).trans p56; replace c1 := hide c1; clear c1' c1x)
      | (go_at_call 11; (with_reducible refine (hS2.out _).mono ?_); rintro e X2 ⟨rfl, c2'⟩; have c2x : Below X1.heap.size X1 X2 := ⟨c2'.os, c2'.tape, c2'.output, c2'.size, c2'.block⟩; have c2 := c1.out.trans (c2x.mono c1.out.size); have z30 := (c2.cell (p := ⟨b3, 0, none⟩) hl3).trans p30; have z31 := (c2.cell (p := ⟨b3, 1, none⟩) hl3).trans p31; have z32 := (c2.cell (p := ⟨b3, 2, none⟩) hl3).trans p32; have z33 := (c2.cell (p := ⟨b3, 3, none⟩) hl3).trans p33; have z34 := (c2.cell (p := ⟨b3, 4, none⟩) hl3).trans p34; have z35 := (c2.cell (p := ⟨b3, 5, none⟩) hl3).trans p35; have z36 := (c2.cell (p := ⟨b3, 6, none⟩) hl3).trans p36; have z40 := (c2.cell (p := ⟨b4, 0, none⟩) hl4).trans p40; have z41 := (c2.cell (p := ⟨b4, 1, none⟩) hl4).trans p41; have z42 := (c2.cell (p := ⟨b4, 2, none⟩) hl4).trans p42; have z43 := (c2.cell (p := ⟨b4, 3, none⟩) hl4).trans p43; have z44 := (c2.cell (p := ⟨b4, 4, none⟩) hl4).trans p44; have z45 := (c2.cell (p := ⟨b4, 5, none⟩) hl4).trans p45; have z46 := (c2.cell (p := ⟨b4, 6, none⟩) hl4).trans p46; have z50 := (c2.cell (p := ⟨b5, 0, none⟩) hl5).trans p50; have z51 := (c2.cell (p := ⟨b5, 1, none⟩) hl5).trans p51; have z52 := (c2.cell (p := ⟨b5, 2, none⟩) hl5).trans p52; have z53 := (c2.cell (p := ⟨b5, 3, none⟩) hl5).trans p53; have z54 := (c2.cell (p := ⟨b5, 4, none⟩) hl5).trans p54; have z55 := (c2.cell (p := ⟨b5, 5, none⟩) hl5).trans p55; have z56 := (c2.cell (p := ⟨b5, 6, none⟩) hl5).trans p56; replace c2 := hide c2; clear c2' c2x)
      | (go_at_call 11; (with_reducible refine (hS3.out _).mono ?_); rintro e X3 ⟨rfl, c3'⟩; have c3x : Below X2.heap.size X2 X3 := ⟨c3'.os, c3'.tape, c3'.output, c3'.size, c3'.block⟩; have c3 := c2.out.trans (c3x.mono c2.out.size); have z30 := (c3.cell (p := ⟨b3, 0, none⟩) hl3).trans p30; have z31 := (c3.cell (p := ⟨b3, 1, none⟩) hl3).trans p31; have z32 := (c3.cell (p := ⟨b3, 2, none⟩) hl3).trans p32; have z33 := (c3.cell (p := ⟨b3, 3, none⟩) hl3).trans p33; have z34 := (c3.cell (p := ⟨b3, 4, none⟩) hl3).trans p34; have z35 := (c3.cell (p := ⟨b3, 5, none⟩) hl3).trans p35; have z36 := (c3.cell (p := ⟨b3, 6, none⟩) hl3).trans p36; have z40 := (c3.cell (p := ⟨b4, 0, none⟩) hl4).trans p40; have z41 := (c3.cell (p := ⟨b4, 1, none⟩) hl4).trans p41; have z42 := (c3.cell (p := ⟨b4, 2, none⟩) hl4).trans p42; have z43 := (c3.cell (p := ⟨b4, 3, none⟩) hl4).trans p43; have z44 := (c3.cell (p := ⟨b4, 4, none⟩) hl4).trans p44; have z45 := (c3.cell (p := ⟨b4, 5, none⟩) hl4).trans p45; have z46 := (c3.cell (p := ⟨b4, 6, none⟩) hl4).trans p46; have z50 := (c3.cell (p := ⟨b5, 0, none⟩) hl5).trans p50; have z51 := (c3.cell (p := ⟨b5, 1, none⟩) hl5).trans p51; have z52 := (c3.cell (p := ⟨b5, 2, none⟩) hl5).trans p52; have z53 := (c3.cell (p := ⟨b5, 3, none⟩) hl5).trans p53; have z54 := (c3.cell (p := ⟨b5, 4, none⟩) hl5).trans p54; have z55 := (c3.cell (p := ⟨b5, 5, none⟩) hl5).trans p55; have z56 := (c3.cell (p := ⟨b5, 6, none⟩) hl5).trans p56; replace c3 := hide c3; clear c3' c3x))
      go_ret
      exact ⟨rfl, bW.out.trans ((b15.out.trans (c3.out.mono b15.out.size)).mono bW.out.size)⟩
end Go.Proofs.YtmkdkcbkgngfdaaDoor
