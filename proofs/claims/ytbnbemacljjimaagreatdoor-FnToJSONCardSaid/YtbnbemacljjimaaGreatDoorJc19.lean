/- A region of the reference's JSON: a list's elements, then a map's values, in a row of their own; its state (printed by mkjsd.py). -/
import Derived.Test.YtbnbemacljjimaaGreatDoorJc16
import Derived.Test.YtbnbemacljjimaaGreatDoorJc17
namespace Go.Proofs.YtbnbemacljjimaaGreatDoor
open Go.RowKit Go.Lib
set_option linter.unusedVariables false

/-- The region's state, whatever order is drawn. -/
structure RgJ (W0 : World) (b : Nat) (la : Option Addr) (n1 lc : Nat) (va : Option Addr) (n2 vc : Nat) (x1 x2 : List Value) (listed : Array Bool) (w : World) (s64 s65 s66 s67 s68 s69 s70 s71 s72 : Value) : Prop where
  bel : Below W0.heap.size W0 w
  sz : listed.size = 9
  f0 : Up listed 0 → ¬ Up listed 3 → w.ownsRow W0.heap.size 26 6 s64 0 []
  f1 : Up listed 1 → s65 = .pointer (some ⟨b, 3, none⟩)
  f2 : Up listed 2 → s66 = .slice la n1 lc
  f3 : Up listed 3 → Up listed 0 ∧ (¬ Up listed 6 → w.ownsRow W0.heap.size 26 6 s67 n1 x1)
  f4 : Up listed 4 → s68 = .pointer (some ⟨b, 5, none⟩)
  f5 : Up listed 5 → s69 = .slice va n2 vc
  f6 : Up listed 6 → Up listed 3 ∧ w.ownsRow W0.heap.size 26 6 s70 (n1 + n2) (x1 ++ x2)
  f7 : Up listed 7 → s71 = .int .i64 ((n1 : Int) + (n2 : Int))
  f8 : Up listed 8 → s72 = .int .i64 0

theorem RgJ.start (W0 : World) (b : Nat) (la : Option Addr) (n1 lc : Nat) (va : Option Addr) (n2 vc : Nat) (x1 x2 : List Value) {w : World} (hb : Below W0.heap.size W0 w) (s64 s65 s66 s67 s68 s69 s70 s71 s72 : Value) : RgJ W0 b la n1 lc va n2 vc x1 x2 (Array.replicate 9 false) w s64 s65 s66 s67 s68 s69 s70 s71 s72 :=
  ⟨hb, rfl, fun h => (Up.start h).elim, fun h => (Up.start h).elim, fun h => (Up.start h).elim, fun h => (Up.start h).elim, fun h => (Up.start h).elim, fun h => (Up.start h).elim, fun h => (Up.start h).elim, fun h => (Up.start h).elim, fun h => (Up.start h).elim⟩

theorem RgJ.c0 {W0 : World} {b : Nat} {la : Option Addr} {n1 lc : Nat} {va : Option Addr} {n2 vc : Nat} {x1 x2 : List Value} {listed : Array Bool} {w : World} {s64 s65 s66 s67 s68 s69 s70 s71 s72 : Value} (H : RgJ W0 b la n1 lc va n2 vc x1 x2 listed w s64 s65 s66 s67 s68 s69 s70 s71 s72) (hun : listed.getD 0 true = false) {t : Value} {w2 : World} (hb : Below W0.heap.size W0 w2) (ht : w2.ownsRow W0.heap.size 26 6 t 0 []) : RgJ W0 b la n1 lc va n2 vc x1 x2 (listed.setIfInBounds 0 true) w2 t s65 s66 s67 s68 s69 s70 s71 s72 :=
  ⟨hb, by rw [Array.size_setIfInBounds]; exact H.sz, fun _ _ => ht, fun h => H.f1 (Up.set_ne (by decide) h), fun h => H.f2 (Up.set_ne (by decide) h), fun h => absurd (H.f3 (Up.set_ne (by decide) h)).1 (Up.no hun), fun h => H.f4 (Up.set_ne (by decide) h), fun h => H.f5 (Up.set_ne (by decide) h), fun h => absurd (H.f3 (H.f6 (Up.set_ne (by decide) h)).1).1 (Up.no hun), fun h => H.f7 (Up.set_ne (by decide) h), fun h => H.f8 (Up.set_ne (by decide) h)⟩

theorem RgJ.c1 {W0 : World} {b : Nat} {la : Option Addr} {n1 lc : Nat} {va : Option Addr} {n2 vc : Nat} {x1 x2 : List Value} {listed : Array Bool} {w : World} {s64 s65 s66 s67 s68 s69 s70 s71 s72 : Value} (H : RgJ W0 b la n1 lc va n2 vc x1 x2 listed w s64 s65 s66 s67 s68 s69 s70 s71 s72) (hun : listed.getD 1 true = false) {t : Value} (ht : t = .pointer (some ⟨b, 3, none⟩)) : RgJ W0 b la n1 lc va n2 vc x1 x2 (listed.setIfInBounds 1 true) w s64 t s66 s67 s68 s69 s70 s71 s72 :=
  ⟨H.bel, by rw [Array.size_setIfInBounds]; exact H.sz, fun h hn => H.f0 (Up.set_ne (by decide) h) (fun h' => hn (Up.more h')), fun _ => ht, fun h => H.f2 (Up.set_ne (by decide) h), fun h => ⟨Up.more (H.f3 (Up.set_ne (by decide) h)).1, fun hn => (H.f3 (Up.set_ne (by decide) h)).2 (fun h' => hn (Up.more h'))⟩, fun h => H.f4 (Up.set_ne (by decide) h), fun h => H.f5 (Up.set_ne (by decide) h), fun h => ⟨Up.more (H.f6 (Up.set_ne (by decide) h)).1, (H.f6 (Up.set_ne (by decide) h)).2⟩, fun h => H.f7 (Up.set_ne (by decide) h), fun h => H.f8 (Up.set_ne (by decide) h)⟩

theorem RgJ.c2 {W0 : World} {b : Nat} {la : Option Addr} {n1 lc : Nat} {va : Option Addr} {n2 vc : Nat} {x1 x2 : List Value} {listed : Array Bool} {w : World} {s64 s65 s66 s67 s68 s69 s70 s71 s72 : Value} (H : RgJ W0 b la n1 lc va n2 vc x1 x2 listed w s64 s65 s66 s67 s68 s69 s70 s71 s72) (hun : listed.getD 2 true = false) {t : Value} (ht : t = .slice la n1 lc) : RgJ W0 b la n1 lc va n2 vc x1 x2 (listed.setIfInBounds 2 true) w s64 s65 t s67 s68 s69 s70 s71 s72 :=
  ⟨H.bel, by rw [Array.size_setIfInBounds]; exact H.sz, fun h hn => H.f0 (Up.set_ne (by decide) h) (fun h' => hn (Up.more h')), fun h => H.f1 (Up.set_ne (by decide) h), fun _ => ht, fun h => ⟨Up.more (H.f3 (Up.set_ne (by decide) h)).1, fun hn => (H.f3 (Up.set_ne (by decide) h)).2 (fun h' => hn (Up.more h'))⟩, fun h => H.f4 (Up.set_ne (by decide) h), fun h => H.f5 (Up.set_ne (by decide) h), fun h => ⟨Up.more (H.f6 (Up.set_ne (by decide) h)).1, (H.f6 (Up.set_ne (by decide) h)).2⟩, fun h => H.f7 (Up.set_ne (by decide) h), fun h => H.f8 (Up.set_ne (by decide) h)⟩

theorem RgJ.c3 {W0 : World} {b : Nat} {la : Option Addr} {n1 lc : Nat} {va : Option Addr} {n2 vc : Nat} {x1 x2 : List Value} {listed : Array Bool} {w : World} {s64 s65 s66 s67 s68 s69 s70 s71 s72 : Value} (H : RgJ W0 b la n1 lc va n2 vc x1 x2 listed w s64 s65 s66 s67 s68 s69 s70 s71 s72) (hun : listed.getD 3 true = false) {t : Value} {w2 : World} (hb : Below W0.heap.size W0 w2) (h0 : Up listed 0) (ht : w2.ownsRow W0.heap.size 26 6 t n1 x1) : RgJ W0 b la n1 lc va n2 vc x1 x2 (listed.setIfInBounds 3 true) w2 s64 s65 s66 t s68 s69 s70 s71 s72 :=
  ⟨hb, by rw [Array.size_setIfInBounds]; exact H.sz, fun _ hn => absurd (Up.self hun) hn, fun h => H.f1 (Up.set_ne (by decide) h), fun h => H.f2 (Up.set_ne (by decide) h), fun _ => ⟨Up.more h0, fun _ => ht⟩, fun h => H.f4 (Up.set_ne (by decide) h), fun h => H.f5 (Up.set_ne (by decide) h), fun h => absurd (H.f6 (Up.set_ne (by decide) h)).1 (Up.no hun), fun h => H.f7 (Up.set_ne (by decide) h), fun h => H.f8 (Up.set_ne (by decide) h)⟩

theorem RgJ.c4 {W0 : World} {b : Nat} {la : Option Addr} {n1 lc : Nat} {va : Option Addr} {n2 vc : Nat} {x1 x2 : List Value} {listed : Array Bool} {w : World} {s64 s65 s66 s67 s68 s69 s70 s71 s72 : Value} (H : RgJ W0 b la n1 lc va n2 vc x1 x2 listed w s64 s65 s66 s67 s68 s69 s70 s71 s72) (hun : listed.getD 4 true = false) {t : Value} (ht : t = .pointer (some ⟨b, 5, none⟩)) : RgJ W0 b la n1 lc va n2 vc x1 x2 (listed.setIfInBounds 4 true) w s64 s65 s66 s67 t s69 s70 s71 s72 :=
  ⟨H.bel, by rw [Array.size_setIfInBounds]; exact H.sz, fun h hn => H.f0 (Up.set_ne (by decide) h) (fun h' => hn (Up.more h')), fun h => H.f1 (Up.set_ne (by decide) h), fun h => H.f2 (Up.set_ne (by decide) h), fun h => ⟨Up.more (H.f3 (Up.set_ne (by decide) h)).1, fun hn => (H.f3 (Up.set_ne (by decide) h)).2 (fun h' => hn (Up.more h'))⟩, fun _ => ht, fun h => H.f5 (Up.set_ne (by decide) h), fun h => ⟨Up.more (H.f6 (Up.set_ne (by decide) h)).1, (H.f6 (Up.set_ne (by decide) h)).2⟩, fun h => H.f7 (Up.set_ne (by decide) h), fun h => H.f8 (Up.set_ne (by decide) h)⟩

theorem RgJ.c5 {W0 : World} {b : Nat} {la : Option Addr} {n1 lc : Nat} {va : Option Addr} {n2 vc : Nat} {x1 x2 : List Value} {listed : Array Bool} {w : World} {s64 s65 s66 s67 s68 s69 s70 s71 s72 : Value} (H : RgJ W0 b la n1 lc va n2 vc x1 x2 listed w s64 s65 s66 s67 s68 s69 s70 s71 s72) (hun : listed.getD 5 true = false) {t : Value} (ht : t = .slice va n2 vc) : RgJ W0 b la n1 lc va n2 vc x1 x2 (listed.setIfInBounds 5 true) w s64 s65 s66 s67 s68 t s70 s71 s72 :=
  ⟨H.bel, by rw [Array.size_setIfInBounds]; exact H.sz, fun h hn => H.f0 (Up.set_ne (by decide) h) (fun h' => hn (Up.more h')), fun h => H.f1 (Up.set_ne (by decide) h), fun h => H.f2 (Up.set_ne (by decide) h), fun h => ⟨Up.more (H.f3 (Up.set_ne (by decide) h)).1, fun hn => (H.f3 (Up.set_ne (by decide) h)).2 (fun h' => hn (Up.more h'))⟩, fun h => H.f4 (Up.set_ne (by decide) h), fun _ => ht, fun h => ⟨Up.more (H.f6 (Up.set_ne (by decide) h)).1, (H.f6 (Up.set_ne (by decide) h)).2⟩, fun h => H.f7 (Up.set_ne (by decide) h), fun h => H.f8 (Up.set_ne (by decide) h)⟩

theorem RgJ.c6 {W0 : World} {b : Nat} {la : Option Addr} {n1 lc : Nat} {va : Option Addr} {n2 vc : Nat} {x1 x2 : List Value} {listed : Array Bool} {w : World} {s64 s65 s66 s67 s68 s69 s70 s71 s72 : Value} (H : RgJ W0 b la n1 lc va n2 vc x1 x2 listed w s64 s65 s66 s67 s68 s69 s70 s71 s72) (hun : listed.getD 6 true = false) {t : Value} {w2 : World} (hb : Below W0.heap.size W0 w2) (h3 : Up listed 3) (ht : w2.ownsRow W0.heap.size 26 6 t (n1 + n2) (x1 ++ x2)) : RgJ W0 b la n1 lc va n2 vc x1 x2 (listed.setIfInBounds 6 true) w2 s64 s65 s66 s67 s68 s69 t s71 s72 :=
  ⟨hb, by rw [Array.size_setIfInBounds]; exact H.sz, fun _ hn => absurd (Up.more h3) hn, fun h => H.f1 (Up.set_ne (by decide) h), fun h => H.f2 (Up.set_ne (by decide) h), fun h => ⟨Up.more (H.f3 (Up.set_ne (by decide) h)).1, fun hn => absurd (Up.self hun) hn⟩, fun h => H.f4 (Up.set_ne (by decide) h), fun h => H.f5 (Up.set_ne (by decide) h), fun _ => ⟨Up.more h3, ht⟩, fun h => H.f7 (Up.set_ne (by decide) h), fun h => H.f8 (Up.set_ne (by decide) h)⟩

theorem RgJ.c7 {W0 : World} {b : Nat} {la : Option Addr} {n1 lc : Nat} {va : Option Addr} {n2 vc : Nat} {x1 x2 : List Value} {listed : Array Bool} {w : World} {s64 s65 s66 s67 s68 s69 s70 s71 s72 : Value} (H : RgJ W0 b la n1 lc va n2 vc x1 x2 listed w s64 s65 s66 s67 s68 s69 s70 s71 s72) (hun : listed.getD 7 true = false) {t : Value} (ht : t = .int .i64 ((n1 : Int) + (n2 : Int))) : RgJ W0 b la n1 lc va n2 vc x1 x2 (listed.setIfInBounds 7 true) w s64 s65 s66 s67 s68 s69 s70 t s72 :=
  ⟨H.bel, by rw [Array.size_setIfInBounds]; exact H.sz, fun h hn => H.f0 (Up.set_ne (by decide) h) (fun h' => hn (Up.more h')), fun h => H.f1 (Up.set_ne (by decide) h), fun h => H.f2 (Up.set_ne (by decide) h), fun h => ⟨Up.more (H.f3 (Up.set_ne (by decide) h)).1, fun hn => (H.f3 (Up.set_ne (by decide) h)).2 (fun h' => hn (Up.more h'))⟩, fun h => H.f4 (Up.set_ne (by decide) h), fun h => H.f5 (Up.set_ne (by decide) h), fun h => ⟨Up.more (H.f6 (Up.set_ne (by decide) h)).1, (H.f6 (Up.set_ne (by decide) h)).2⟩, fun _ => ht, fun h => H.f8 (Up.set_ne (by decide) h)⟩

theorem RgJ.c8 {W0 : World} {b : Nat} {la : Option Addr} {n1 lc : Nat} {va : Option Addr} {n2 vc : Nat} {x1 x2 : List Value} {listed : Array Bool} {w : World} {s64 s65 s66 s67 s68 s69 s70 s71 s72 : Value} (H : RgJ W0 b la n1 lc va n2 vc x1 x2 listed w s64 s65 s66 s67 s68 s69 s70 s71 s72) (hun : listed.getD 8 true = false) {t : Value} (ht : t = .int .i64 0) : RgJ W0 b la n1 lc va n2 vc x1 x2 (listed.setIfInBounds 8 true) w s64 s65 s66 s67 s68 s69 s70 s71 t :=
  ⟨H.bel, by rw [Array.size_setIfInBounds]; exact H.sz, fun h hn => H.f0 (Up.set_ne (by decide) h) (fun h' => hn (Up.more h')), fun h => H.f1 (Up.set_ne (by decide) h), fun h => H.f2 (Up.set_ne (by decide) h), fun h => ⟨Up.more (H.f3 (Up.set_ne (by decide) h)).1, fun hn => (H.f3 (Up.set_ne (by decide) h)).2 (fun h' => hn (Up.more h'))⟩, fun h => H.f4 (Up.set_ne (by decide) h), fun h => H.f5 (Up.set_ne (by decide) h), fun h => ⟨Up.more (H.f6 (Up.set_ne (by decide) h)).1, (H.f6 (Up.set_ne (by decide) h)).2⟩, fun h => H.f7 (Up.set_ne (by decide) h), fun _ => ht⟩
end Go.Proofs.YtbnbemacljjimaaGreatDoor

namespace Go.Proofs.YtbnbemacljjimaaGreatDoor
open Go.RowKit Go.Lib
set_option linter.unusedVariables false

theorem Tryz.infoVal : (Tryz.prog.info? 26).map (fun i => (i.zero, i.size, i.bytes)) = some (some (.agg #[.int .i64 0, .int .i64 0, .string ⟨#[]⟩, .slice none 0 0, .slice none 0 0, .slice none 0 0]), 6, 104) := by kernel_rfl

/-- What JSON says of a value. -/
def JsSays (n : Nat) (v : JV) (e : Ending) : Prop := ∃ (s : ByteArray) (how : Int), e = .returned (.tuple #[.string s, .int .i64 how]) ∧ ((how = 0 ∧ s = jT n v ∧ JsOk n v) ∨ how = 2)
def JsonSays (n : Nat) : Prop := ∀ (w : World) (B : Nat) (x : Value) (v : JV), JAt w B n x v → Good n v → JV.bytes n v ≤ 2000 → JV.parts n v ≤ 400 → B ≤ w.heap.size →
    Calls Tryz.prog 8 #[x] w fun e w' => JsSays n v e ∧ Below w.heap.size w w'

theorem reads_below {w w' : World} {B b sz n : Nat} {A : Option Addr} {xs : List Value} (h : Reads w B sz A n xs) (hb : Below b w w') (hB : B ≤ b) : Reads w' B sz A n xs :=
  ⟨h.1, fun hn => by
    obtain ⟨ad, e, hlt, hc⟩ := h.2 hn
    exact ⟨ad, e, hlt, fun j u hu => (hb.cell (by rw [block_of_add]; omega)).trans (hc j u hu)⟩⟩

theorem below_grown {W0 w w2 : World} (hb : Below W0.heap.size W0 w) {e : TypeId} {s n : Nat} {v : Value} {xs : List Value} (hown : w.ownsRow W0.heap.size e s v n xs) (hg : w.grownBy w2 v.ownBlock) : Below W0.heap.size W0 w2 :=
  hb.trans ⟨hg.os, hg.tape, hg.output, hg.size, fun k hk => hg.block k (Nat.lt_of_lt_of_le hk hb.size) (fun e => by have := (hown.lt k e.symm).1; omega)⟩

theorem own_sl {w : World} {base : Nat} {e : TypeId} {size : Nat} {v : Value} {n : Nat} {xs : List Value} (h : w.ownsRow base e size v n xs) : ∃ A cap, v = .slice A n cap ∧ n ≤ cap ∧ cap ≤ maxLen := by
  rcases h.2 with ⟨rfl, rfl⟩ | ⟨g, cap, cur, rfl, hb, hg, h1, h2, _⟩
  · exact ⟨none, 0, rfl, Nat.le_refl _, Nat.zero_le _⟩
  · exact ⟨_, cap, rfl, h1, h2⟩

theorem fl_ones {n : Nat} {w : World} {B : Nat} {rs : List Sx} {ys : List JV} (h : SxR (JAt w B n) rs ys) (hg : ∀ y ∈ ys, Good n y) : ∀ z ∈ fl rs, z.oneCell' = true := by
  rcases n with _ | n
  · have h0 : ys = [] := List.eq_nil_iff_forall_not_mem.2 (fun y hy => hg y hy)
    have h1 := h.1
    rw [h0] at h1
    have : rs = [] := List.eq_nil_of_length_eq_zero h1
    subst this
    intro z hz
    simp [fl] at hz
  · exact fl_one (fun i y hy => let ⟨r, h1, h2⟩ := h.2 i y hy; ⟨r, h1, w, B, h2⟩) h.1

theorem le_sum {α : Type} (f : α → Nat) : ∀ (xs : List α) (y : α), y ∈ xs → f y ≤ (xs.map f).sum
  | [], _, h => by simp at h
  | x :: xs, y, h => by
    rw [List.map_cons, List.sum_cons]
    rcases List.mem_cons.1 h with rfl | h
    · omega
    · have := le_sum f xs y h
      omega

/-- What a part of a value is. -/
theorem part_of {n : Nat} {v : JV} (hg : Good (n + 1) v) {y : JV} (hy : y ∈ v.list ++ v.vals) : Good n y ∧ JV.bytes n y ≤ JV.bytes (n + 1) v ∧ JV.parts n y ≤ JV.parts (n + 1) v := by
  rw [JV.bytes, JV.parts]
  rcases List.mem_append.1 hy with h | h
  · have h1 := le_sum (JV.bytes n) _ _ h
    have h2 := le_sum (JV.parts n) _ _ h
    exact ⟨hg.2.2.2.2.2.2.2.2.2.2.2.1 y h, by omega, by omega⟩
  · have h1 := le_sum (JV.bytes n) _ _ h
    have h2 := le_sum (JV.parts n) _ _ h
    exact ⟨hg.2.2.2.2.2.2.2.2.2.2.2.2.2.2 y h, by omega, by omega⟩

theorem key_small {n : Nat} {v : JV} {k : ByteArray} (hk : k ∈ v.keys) : k.size ≤ JV.bytes (n + 1) v := by
  have h := le_sum (fun k : ByteArray => k.size) _ _ hk
  rw [JV.bytes]
  omega

/-- What is known of the parts so far. -/
def JsAll (n : Nat) (v : JV) (j : Nat) : Prop := (∀ i y, i < j → (v.list ++ v.vals)[i]? = some y → JsOk n y) ∧ ∀ i k, i < j → v.keys[i]? = some k → NoDel k
theorem JsAll.zero (n : Nat) (v : JV) : JsAll n v 0 := ⟨fun i y h => absurd h (by omega), fun i k h => absurd h (by omega)⟩
theorem JsAll.next {n : Nat} {v : JV} {j : Nat} {y : JV} (h : JsAll n v j) (hy : (v.list ++ v.vals)[j]? = some y) (h1 : JsOk n y) (h2 : ∀ k, v.keys[j]? = some k → NoDel k) : JsAll n v (j + 1) := by
  refine ⟨fun i z hi hz => ?_, fun i k hi hk => ?_⟩
  · rcases Nat.lt_or_ge i j with hlt | hge
    · exact h.1 i z hlt hz
    · obtain rfl : i = j := by omega
      rw [hy] at hz
      cases hz
      exact h1
  · rcases Nat.lt_or_ge i j with hlt | hge
    · exact h.2 i k hlt hk
    · obtain rfl : i = j := by omega
      exact h2 k hk
theorem JsAll.all {n : Nat} {v : JV} {N : Nat} (h : JsAll n v N) (hN : N = v.list.length + v.vals.length) (hk : v.keys.length = v.vals.length) (h4 : ¬ v.kind = 4) : JsOk (n + 1) v := by
  have hm : ∀ y, y ∈ v.list ++ v.vals → JsOk n y := fun y hy => by
    obtain ⟨i, hi, rfl⟩ := List.getElem_of_mem hy
    exact h.1 i _ (by rw [List.length_append] at hi; omega) (List.getElem?_eq_getElem hi)
  refine ⟨fun e => absurd e h4, fun x hx => hm x (List.mem_append_left _ hx), fun k hx => ?_, fun x hx => hm x (List.mem_append_right _ hx)⟩
  obtain ⟨i, hi, rfl⟩ := List.getElem_of_mem hx
  exact h.2 i _ (by omega) (List.getElem?_eq_getElem hi)

theorem empty_app (t : ByteArray) : (⟨#[]⟩ : ByteArray) ++ t = t := by
  apply ByteArray.ext
  rw [ByteArray.data_append]
  simp

/-- How the text grows by an item. -/
theorem grow_item {n : Nat} {v : JV} {j : Nat} {t : ByteArray} (ht : (jItems (jT n) v)[j]? = some t) :
    (j = 0 → joinT ((jItems (jT n) v).take j) ++ t = joinT ((jItems (jT n) v).take (j + 1))) ∧ (0 < j → joinT ((jItems (jT n) v).take j) ++ ⟨#[44]⟩ ++ t = joinT ((jItems (jT n) v).take (j + 1))) := by
  have h := joinT_next ht
  refine ⟨fun h0 => ?_, fun h0 => ?_⟩
  · rw [h, if_pos h0, h0]
    exact empty_app t
  · rw [h, if_neg (by omega)]

theorem take_items {n : Nat} {v : JV} (j : Nat) (hg : Good (n + 1) v) (hby : JV.bytes (n + 1) v ≤ 2000) (hpt : JV.parts (n + 1) v ≤ 400) : (joinT ((jItems (jT n) v).take j)).size ≤ 28000 := by
  have h := items_size n (jT n) v (fun x hx => jT_size n x (part_of hg (List.mem_append.2 hx)).1) j
  omega
theorem part_size {n : Nat} {v : JV} (hg : Good n v) (hby : JV.bytes n v ≤ 2000) (hpt : JV.parts n v ≤ 400) : (jT n v).size ≤ 28000 := by
  have h := jT_size n v hg
  omega

set_option maxHeartbeats 8000000 in
set_option maxRecDepth 100000 in
theorem json_list (n : Nat) (ih : JsonSays n) (w : World) (B : Nat) (x : Value) (v : JV) (hx : JAt w B (n + 1) x v) (hg : Good (n + 1) v) (hby : JV.bytes (n + 1) v ≤ 2000) (hpt : JV.parts (n + 1) v ≤ 400) (hB : B ≤ w.heap.size) (hk : v.kind = 5) :
    Calls Tryz.prog 8 #[x] w fun e w' => JsSays (n + 1) v e ∧ Below w.heap.size w w' := by
  obtain ⟨i0, hi0, hz0, hz1, hz2⟩ := info_parts Tryz.infoVal
  replace hi0 := hide hi0
  replace hz0 := hide hz0
  replace hz1 := hide hz1
  replace hz2 := hide hz2
  obtain ⟨la, lc, ka, kc, va, vc, rfl, hl1, hl2, hl3, hl4, hl5, hl6, hl7, -, -, hla, hka, hva⟩ := hx
  rw [hk]
  obtain ⟨W, hW⟩ : ∃ W, W = w.alloc (.cells #[.int .i64 5, .int .i64 v.half, .string v.text, .slice la v.list.length lc, .slice ka v.keys.length kc, .slice va v.vals.length vc] 26) := ⟨_, rfl⟩
  have bW : Below w.heap.size w W := by rw [hW]; exact (Below.refl _ _).alloc (Nat.le_refl _) _
  have kW := Blk.new w 26 #[.int .i64 5, .int .i64 v.half, .string v.text, .slice la v.list.length lc, .slice ka v.keys.length kc, .slice va v.vals.length vc]
  rw [← hW] at kW
  obtain ⟨q0, q1, q2, q3, q4, q5⟩ := blk_six kW
  have hkl : v.keys.length = v.vals.length := hg.2.2.2.2.2.1
  have hl400 : v.list.length ≤ 400 := hg.2.2.2.2.2.2.2.2.2.1
  have hv400 : v.vals.length ≤ 400 := hg.2.2.2.2.2.2.2.2.2.2.1
  obtain ⟨rs1, hs1, hr1⟩ := hla.list
  obtain ⟨rs2, hs2, hr2⟩ := hva.list
  have hp := fun y hy => (part_of hg (y := y) hy)
  have h11 := hide (fl_ones hs1 (fun y hy => (hp y (List.mem_append_left _ hy)).1))
  have h12 := hide (fl_ones hs2 (fun y hy => (hp y (List.mem_append_right _ hy)).1))
  have hBW : Hid (B ≤ W.heap.size) := hide (Nat.le_trans hB bW.size)
  replace hr1 := hide (reads_below hr1 bW hB)
  replace hr2 := hide (reads_below hr2 bW hB)
  have hss := hide ((hs1.append hs2).mono (fun x y h => JAt.keep (B' := W.heap.size) (fun p hp => bW.cell (by omega)) hBW.out n x y h))
  replace hka := hide (hka.keep (fun p hp => bW.cell (by omega)) hBW.out)
  have hts := hide (fun j => take_items (n := n) (v := v) j hg hby hpt)
  clear hla hva hs1 hs2
  have hlv : v.vals.length = 0 := by
    have h1 := hg.2.2.2.2.1
    rcases h1 with h1 | h1
    · omega
    · rw [← hkl, h1]; rfl
  have hv0 : ¬ (0 : Int) < (v.vals.length : Int) := by omega
  replace hlv := hide hlv
  replace hkl := hide hkl
  replace hl400 := hide hl400
  replace hv400 := hide hv400
  replace bW := hide bW
  replace kW := hide kW
  replace hg := hide hg
  replace hk := hide hk
  replace hp := hide hp
  go_enter Tryz.func8, Tryz.ntmps8
  go_upto_region 1 with fail
  rw [← hW]
  clear hW
  go_upto_region 17 with fail
  refine wp_region_inv (by kernel_rfl) (fun listed a w' => ∃ s64 s65 s66 s67 s68 s69 s70 s71 s72, a = (⟨#[.agg #[.int .i64 5, .int .i64 v.half, .string v.text, .slice la v.list.length lc, .slice ka v.keys.length kc, .slice va v.vals.length vc], .pointer (some ⟨w.heap.size, 0, none⟩), .string ⟨#[]⟩, .int .i64 0, .string ⟨#[]⟩, undef, undef, undef, undef, undef, undef, .pointer (some ⟨w.heap.size, 0, none⟩), .int .i64 5, .bool false, .bool false, .bool false, .bool false, .bool false, .bool false, .bool false, .bool false, undef, undef, undef, undef, undef, .bool false, .bool false, undef, undef, undef, undef, undef, .bool false, .bool false, .pointer (some ⟨w.heap.size, 0, none⟩), .int .i64 5, .bool false, .bool false, undef, undef, undef, undef, undef, undef, undef, undef, undef, undef, undef, undef, undef, .bool false, .bool false, .pointer (some ⟨w.heap.size, 0, none⟩), .int .i64 5, .bool true, .bool true, .pointer (some ⟨w.heap.size, 5, none⟩), .slice va v.vals.length vc, .int .i64 v.vals.length, .bool (decide (0 < v.vals.length)), .bool (decide (0 < v.vals.length)), .bool (decide (0 < v.vals.length)), s64, s65, s66, s67, s68, s69, s70, s71, s72, undef, undef, undef, undef, undef, undef, undef, undef, undef, undef, undef, undef, undef, undef, undef, undef, undef, undef, undef, undef, undef, undef, undef, undef, undef, undef, undef, undef, undef, undef, undef, undef, undef, undef, undef, undef, undef, undef, undef, undef, undef, undef, undef, undef, undef, undef, undef, undef], []⟩ : Act) ∧ RgJ W w.heap.size la v.list.length lc va v.vals.length vc (fl rs1) (fl rs2) listed w' s64 s65 s66 s67 s68 s69 s70 s71 s72) ?_ ?_ ?_
  · exact ⟨_, _, _, _, _, _, _, _, _, rfl, RgJ.start _ _ _ _ _ _ _ _ _ _ ((Below.refl _ _).drew) _ _ _ _ _ _ _ _ _⟩
  · rintro listed a w' i ⟨s64, s65, s66, s67, s68, s69, s70, s71, s72, rfl, H⟩ hi
    have hun := Up.un hi
    have hlt9 : i < 9 := by
      obtain ⟨-, o, ho, -⟩ := mem_ready.1 hi
      rcases Nat.lt_or_ge i 9 with h | h
      · exact h
      · rw [Array.getElem?_eq_none (by exact h)] at ho
        cases ho
    have kw := kW.out.below H.bel kW.out.lt
    obtain ⟨q0, q1, q2, q3, q4, q5⟩ := blk_six kw
    have hlw := kw.lt
    have hbs : W.heap.size ≤ w'.heap.size := H.bel.size
    have hbel := hide H.bel
    clear kw
    have hi9 : i = 0 ∨ i = 1 ∨ i = 2 ∨ i = 3 ∨ i = 4 ∨ i = 5 ∨ i = 6 ∨ i = 7 ∨ i = 8 := by omega
    rcases hi9 with rfl | rfl | rfl | rfl | rfl | rfl | rfl | rfl | rfl
    · replace H := hide H
      replace hi := hide hi
      replace hun := hide hun
      refine wpOp_of_list rfl ?_
      go_wp2_with fail
      refine Then.normal ⟨_, _, _, _, _, _, _, _, _, rfl, H.out.c0 hun.out (hbel.out.alloc hbs _) ⟨rfl, .inr ⟨_, _, _, rfl, hbs, Blk.new _ _ _, Nat.le_refl _, Nat.zero_le _, rfl, rfl⟩⟩⟩
    · replace H := hide H
      replace hi := hide hi
      replace hun := hide hun
      refine wpOp_of_list rfl ?_
      go_wp2_with fail
      refine Then.normal ⟨_, _, _, _, _, _, _, _, _, rfl, H.out.c1 hun.out rfl⟩
    · obtain rfl := H.f1 (Up.waits hi 1 (by kernel_rfl))
      replace H := hide H
      replace hi := hide hi
      replace hun := hide hun
      refine wpOp_of_list rfl ?_
      go_wp2_with fail
      refine Then.normal ⟨_, _, _, _, _, _, _, _, _, rfl, H.out.c2 hun.out rfl⟩
    · obtain rfl := H.f2 (Up.waits hi 2 (by kernel_rfl))
      have h0 := hide (Up.waits hi 0 (by kernel_rfl))
      have hown := H.f0 h0.out (Up.no hun)
      have hrd := hide (reads_below hr1.out H.bel hBW.out)
      replace H := hide H
      replace hi := hide hi
      replace hun := hide hun
      replace hown := hide hown
      refine wpOp_of_list rfl ?_
      refine wpList_append_any _ rfl (.tmp 64) (.tmp 66) 23 rfl W.heap.size 26 i0 _ 6 104 Tryz.underlying23 hi0.out hz0.out hz1.out hz2.out rfl (Nat.zero_lt_succ 5) s64 0 [] rfl hown.out B la v.list.length lc (fl rs1) rfl hrd.out h11.out (by unfold maxLen; have := hl400.out; have := hv400.out; omega) (by have := hl400.out; have := hv400.out; omega) hbs ?_
      intro v' w4 own4 g4 loc4
      have hb4 := hide (below_grown hbel.out hown.out g4)
      replace own4 := hide own4
      clear g4 loc4
      go_wp2_with fail
      refine Then.normal ⟨_, _, _, _, _, _, _, _, _, rfl, H.out.c3 hun.out hb4.out h0.out (by have h := own4.out; rw [List.nil_append, Nat.zero_add] at h; exact h)⟩
    · replace H := hide H
      replace hi := hide hi
      replace hun := hide hun
      refine wpOp_of_list rfl ?_
      go_wp2_with fail
      refine Then.normal ⟨_, _, _, _, _, _, _, _, _, rfl, H.out.c4 hun.out rfl⟩
    · obtain rfl := H.f4 (Up.waits hi 4 (by kernel_rfl))
      replace H := hide H
      replace hi := hide hi
      replace hun := hide hun
      refine wpOp_of_list rfl ?_
      go_wp2_with fail
      refine Then.normal ⟨_, _, _, _, _, _, _, _, _, rfl, H.out.c5 hun.out rfl⟩
    · obtain rfl := H.f5 (Up.waits hi 5 (by kernel_rfl))
      have h0 := hide (Up.waits hi 3 (by kernel_rfl))
      have hown := (H.f3 h0.out).2 (Up.no hun)
      have hrd := hide (reads_below hr2.out H.bel hBW.out)
      replace H := hide H
      replace hi := hide hi
      replace hun := hide hun
      replace hown := hide hown
      refine wpOp_of_list rfl ?_
      refine wpList_append_any _ rfl (.tmp 67) (.tmp 69) 23 rfl W.heap.size 26 i0 _ 6 104 Tryz.underlying23 hi0.out hz0.out hz1.out hz2.out rfl (Nat.zero_lt_succ 5) s67 v.list.length (fl rs1) rfl hown.out B va v.vals.length vc (fl rs2) rfl hrd.out h12.out (by unfold maxLen; have := hl400.out; have := hv400.out; omega) (by have := hl400.out; have := hv400.out; omega) hbs ?_
      intro v' w4 own4 g4 loc4
      have hb4 := hide (below_grown hbel.out hown.out g4)
      replace own4 := hide own4
      clear g4 loc4
      go_wp2_with fail
      refine Then.normal ⟨_, _, _, _, _, _, _, _, _, rfl, H.out.c6 hun.out hb4.out h0.out own4.out⟩
    · have hown := (H.f6 (Up.waits hi 6 (by kernel_rfl))).2
      obtain ⟨A, cap, rfl, -, -⟩ := own_sl hown
      clear hown
      replace H := hide H
      replace hi := hide hi
      replace hun := hide hun
      refine wpOp_of_list rfl ?_
      go_wp2_with fail
      refine Then.normal ⟨_, _, _, _, _, _, _, _, _, rfl, H.out.c7 hun.out (by simp)⟩
    · replace H := hide H
      replace hi := hide hi
      replace hun := hide hun
      refine wpOp_of_list rfl ?_
      go_wp2_with fail
      refine Then.normal ⟨_, _, _, _, _, _, _, _, _, rfl, H.out.c8 hun.out rfl⟩
  · rintro listed a w' ⟨s64, s65, s66, s67, s68, s69, s70, s71, s72, rfl, H⟩ hr
    have hs : listed.size = 9 := H.sz
    have up := fun i (h : i < 9) => Up.all hs (by kernel_rfl) hr i h
    obtain rfl := H.f1 (up 1 (by decide))
    obtain rfl := H.f2 (up 2 (by decide))
    obtain rfl := H.f4 (up 4 (by decide))
    obtain rfl := H.f5 (up 5 (by decide))
    have hown := (H.f6 (up 6 (by decide))).2
    obtain rfl := H.f7 (up 7 (by decide))
    obtain rfl := H.f8 (up 8 (by decide))
    have hbR := H.bel
    obtain ⟨A, cap, rfl, hcap, hcm⟩ := own_sl hown
    have hkw := hide (kW.out.below hbR kW.out.lt)
    have hown' : w'.ownsRow W.heap.size 26 6 (.slice A (v.list ++ v.vals).length cap) (v.list ++ v.vals).length (fl (rs1 ++ rs2)) := by
      rw [List.length_append, fl_append]
      exact hown
    have hvec := hide ((hss.out.mono (fun x y h => JAt.keep (B' := w'.heap.size) (fun p hp => hbR.cell hp) hbR.size n x y h)).vec hown' (Nat.le_refl _))
    have hkaR := hide (hka.out.keep (fun p hp => hbR.cell hp) hbR.size)
    have bR := hide (bW.out.trans (hbR.mono bW.out.size))
    obtain ⟨N, hN⟩ : ∃ N, N = v.list.length + v.vals.length := ⟨_, rfl⟩
    have hNi : ((v.list.length : Int) + (v.vals.length : Int)) = (N : Int) := by omega
    have hN800 : N ≤ 800 := by have := hl400.out; have := hv400.out; omega
    rw [← hN] at hcap
    have hwl : w.heap.size < w'.heap.size := hkw.out.lt
    rw [← hN, hNi]
    clear H up hr hown hown' hbR hs hNi hss hka
    replace hN := hide hN
    replace hcm := hide hcm
    replace hkw := hkw
    go_wp2
    go_loopw [4, 72] (fun s4 s72 wr => ∃ j : Nat, s72 = .int .i64 j ∧ j ≤ N ∧ s4 = .string (joinT ((jItems (jT n) v).take j)) ∧ JsAll n v j ∧ Below w'.heap.size w' wr) (fun _ i _ => N - (RowKit.intOf i).toNat)
    case atStart => exact ⟨0, rfl, Nat.zero_le _, rfl, JsAll.zero n v, Below.refl _ _⟩
    case round =>
      obtain ⟨j, rfl, hj, rfl, hok, hb⟩ := hrel
      have kw := hkw.out.below hb hkw.out.lt
      obtain ⟨q0, q1, q2, q3, q4, q5⟩ := blk_six kw
      have hlw := kw.lt
      have hds := hts.out j
      by_cases hjl : j < N
      · obtain ⟨bk, ofs, rfl, hbk, hcs⟩ := hvec.out (by rw [List.length_append]; have := hN.out; omega)
        obtain ⟨y, hyj⟩ : ∃ y, (v.list ++ v.vals)[j]? = some y := ⟨_, List.getElem?_eq_getElem (by rw [List.length_append]; have := hN.out; omega)⟩
        obtain ⟨c0, c1, c2, c3, c4, c5, e0, e1, e2, e3, e4, e5, hxx⟩ := hcs j y hyj
        replace e0 := (hb.cell hbk).trans e0
        replace e1 := (hb.cell hbk).trans e1
        replace e2 := (hb.cell hbk).trans e2
        replace e3 := (hb.cell hbk).trans e3
        replace e4 := (hb.cell hbk).trans e4
        replace e5 := (hb.cell hbk).trans e5
        have hbs := hb.size
        have hbk2 : bk < wr.heap.size := Nat.lt_of_lt_of_le hbk hbs
        obtain ⟨hgy, hby1, hpt1⟩ := hp.out y (List.mem_of_getElem? hyj)
        rcases n with _ | m
        · exact absurd hgy (fun h => h)
        have hxx' := hxx
        obtain ⟨la2, lc2, ka2, kc2, va2, vc2, hagg, -⟩ := hxx'
        simp at hagg
        obtain ⟨rfl, rfl, rfl, rfl, rfl, rfl⟩ := hagg
        have hgi : (jItems (jT (m + 1)) v)[j]? = some (jT (m + 1) y) := by
          have hyl : v.list[j]? = some y := by rw [← hyj, List.getElem?_append_left (by have := hN.out; have := hlv.out; omega)]
          unfold jItems
          rw [if_neg (by rw [hk.out]; decide), List.getElem?_map, hyl]
          rfl
        have hT := part_size hgy (by omega) (by omega)
        have hnk : Hid (∀ k, v.keys[j]? = some k → NoDel k) := hide (fun k hkk => absurd (List.getElem?_eq_some_iff.1 hkk).1 (by have := hkl.out; have := hlv.out; omega))
        have hgr := grow_item hgi
        obtain ⟨D, hD⟩ : ∃ D, joinT ((jItems (jT (m + 1)) v).take j) = D := ⟨_, rfl⟩
        rw [hD] at hgr hds ⊢
        clear hD hcs hgi
        obtain ⟨W1, hW1⟩ : ∃ W1, W1 = wr.alloc (.cells #[.int .i64 y.kind, .int .i64 y.half, .string y.text, .slice la2 y.list.length lc2, .slice ka2 y.keys.length kc2, .slice va2 y.vals.length vc2] 26) := ⟨_, rfl⟩
        have b1 : Below wr.heap.size wr W1 := by rw [hW1]; exact Below.alloc (Below.refl _ _) (Nat.le_refl _) _
        have k1 := Blk.new wr 26 #[.int .i64 y.kind, .int .i64 y.half, .string y.text, .slice la2 y.list.length lc2, .slice ka2 y.keys.length kc2, .slice va2 y.vals.length vc2]
        rw [← hW1] at k1
        have kw1 := kw.below b1 hlw
        have hxx1 := JAt.keep (w' := W1) (B' := w'.heap.size) (fun p hp => (b1.cell (by omega)).trans (hb.cell hp)) (Nat.le_refl _) (m + 1) _ _ hxx
        have hs1 := b1.size
        have b01 := hide (hb.trans (b1.mono hbs))
        replace k1 := hide k1
        replace kw1 := hide kw1
        replace hxx1 := hide hxx1
        replace hok := hide hok
        replace hb := hide hb
        replace b1 := hide b1
        replace kw := hide kw
        replace hgy := hide hgy
        replace hyj := hide hyj
        clear hxx
        rcases Nat.eq_zero_or_pos j with h0 | h0
        · have g0 : ¬ (0 : Int) < ((j : Nat) : Int) := by omega
          have hfin := hide (hgr.1 h0)
          clear hgr h0
          go_wp2_with fail
          rw [← hW1]
          clear hW1
          refine (ih W1 w'.heap.size _ y hxx1.out hgy.out (by omega) (by omega) (by omega)).mono ?_
          rintro e W2 ⟨⟨s, how, rfl, hor⟩, b2⟩
          have k2 := kw1.out.below b2 kw1.out.lt
          obtain ⟨q0, q1, q2, q3, q4, q5⟩ := blk_six k2
          have b02 := hide (b01.out.trans (b2.mono (by have := b01.out.size; exact this)))
          clear k2
          rcases hor with ⟨rfl, rfl, hjy⟩ | rfl
          · have hnx := hide (hok.out.next hyj.out hjy hnk.out)
            obtain ⟨T, hTT⟩ : ∃ T, jT (m + 1) y = T := ⟨_, rfl⟩
            rw [hTT] at hfin hT ⊢
            clear hTT hjy
            have z1 : ¬ 9223372036854775807 < D.size + T.size := by omega
            replace b2 := hide b2
            go_wp2
            go_roundw
            case rel => exact ⟨j + 1, by go_num, by omega, by rw [← hfin.out], hnx.out, b02.out⟩
            case measure => simp [RowKit.intOf]; omega
          · replace b2 := hide b2
            go_wp2
            go_ret2
            exact ⟨⟨_, _, rfl, Or.inr rfl⟩, bR.out.trans (b02.out.mono bR.out.size)⟩
        · have g0 : (0 : Int) < ((j : Nat) : Int) := by omega
          have hfin := hide (hgr.2 h0)
          clear hgr h0
          have z0 : ¬ 9223372036854775807 < D.size + 1 := by omega
          go_wp2_with fail
          rw [← hW1]
          clear hW1
          refine (ih W1 w'.heap.size _ y hxx1.out hgy.out (by omega) (by omega) (by omega)).mono ?_
          rintro e W2 ⟨⟨s, how, rfl, hor⟩, b2⟩
          have k2 := kw1.out.below b2 kw1.out.lt
          obtain ⟨q0, q1, q2, q3, q4, q5⟩ := blk_six k2
          have b02 := hide (b01.out.trans (b2.mono (by have := b01.out.size; exact this)))
          clear k2
          rcases hor with ⟨rfl, rfl, hjy⟩ | rfl
          · have hnx := hide (hok.out.next hyj.out hjy hnk.out)
            obtain ⟨T, hTT⟩ : ∃ T, jT (m + 1) y = T := ⟨_, rfl⟩
            rw [hTT] at hfin hT ⊢
            clear hTT hjy
            have z1 : ¬ 9223372036854775807 < D.size + 1 + T.size := by omega
            replace b2 := hide b2
            go_wp2
            go_roundw
            case rel => exact ⟨j + 1, by go_num, by omega, by rw [← hfin.out], hnx.out, b02.out⟩
            case measure => simp [RowKit.intOf]; omega
          · replace b2 := hide b2
            go_wp2
            go_ret2
            exact ⟨⟨_, _, rfl, Or.inr rfl⟩, bR.out.trans (b02.out.mono bR.out.size)⟩
      · obtain rfl : j = N := by omega
        have hall := hide (hok.all hN.out hkl.out (by rw [hk.out]; decide))
        have hit : (jItems (jT n) v).length ≤ j := by
          unfold jItems
          have := hN.out
          have := hkl.out
          rw [if_neg (by rw [hk.out]; decide), List.length_map]
          omega
        rw [List.take_of_length_le hit] at hds ⊢
        obtain ⟨D, hD⟩ : ∃ D, joinT (jItems (jT n) v) = D := ⟨_, rfl⟩
        have hres : Hid (⟨#[91]⟩ ++ D ++ ⟨#[93]⟩ = jT (n + 1) v) := hide (by
          rw [jT, if_neg (by rw [hk.out]; decide), if_pos hk.out, hD])
        rw [hD] at hds ⊢
        clear hD hit hok
        have z1 : ¬ 9223372036854775807 < 1 + D.size := by omega
        have z2 : ¬ 9223372036854775807 < 1 + D.size + 1 := by omega
        replace hb := hide hb
        go_wp2
        go_ret2
        exact ⟨⟨_, _, rfl, Or.inl ⟨rfl, hres.out, hall.out⟩⟩, bR.out.trans (hb.out.mono bR.out.size)⟩
set_option maxHeartbeats 8000000 in
set_option maxRecDepth 100000 in
theorem json_map (n : Nat) (ih : JsonSays n) (w : World) (B : Nat) (x : Value) (v : JV) (hx : JAt w B (n + 1) x v) (hg : Good (n + 1) v) (hby : JV.bytes (n + 1) v ≤ 2000) (hpt : JV.parts (n + 1) v ≤ 400) (hB : B ≤ w.heap.size) (hk : v.kind = 6) :
    Calls Tryz.prog 8 #[x] w fun e w' => JsSays (n + 1) v e ∧ Below w.heap.size w w' := by
  obtain ⟨i0, hi0, hz0, hz1, hz2⟩ := info_parts Tryz.infoVal
  replace hi0 := hide hi0
  replace hz0 := hide hz0
  replace hz1 := hide hz1
  replace hz2 := hide hz2
  obtain ⟨la, lc, ka, kc, va, vc, rfl, hl1, hl2, hl3, hl4, hl5, hl6, hl7, -, -, hla, hka, hva⟩ := hx
  rw [hk]
  obtain ⟨W, hW⟩ : ∃ W, W = w.alloc (.cells #[.int .i64 6, .int .i64 v.half, .string v.text, .slice la v.list.length lc, .slice ka v.keys.length kc, .slice va v.vals.length vc] 26) := ⟨_, rfl⟩
  have bW : Below w.heap.size w W := by rw [hW]; exact (Below.refl _ _).alloc (Nat.le_refl _) _
  have kW := Blk.new w 26 #[.int .i64 6, .int .i64 v.half, .string v.text, .slice la v.list.length lc, .slice ka v.keys.length kc, .slice va v.vals.length vc]
  rw [← hW] at kW
  obtain ⟨q0, q1, q2, q3, q4, q5⟩ := blk_six kW
  have hkl : v.keys.length = v.vals.length := hg.2.2.2.2.2.1
  have hl400 : v.list.length ≤ 400 := hg.2.2.2.2.2.2.2.2.2.1
  have hv400 : v.vals.length ≤ 400 := hg.2.2.2.2.2.2.2.2.2.2.1
  obtain ⟨rs1, hs1, hr1⟩ := hla.list
  obtain ⟨rs2, hs2, hr2⟩ := hva.list
  have hp := fun y hy => (part_of hg (y := y) hy)
  have h11 := hide (fl_ones hs1 (fun y hy => (hp y (List.mem_append_left _ hy)).1))
  have h12 := hide (fl_ones hs2 (fun y hy => (hp y (List.mem_append_right _ hy)).1))
  have hBW : Hid (B ≤ W.heap.size) := hide (Nat.le_trans hB bW.size)
  replace hr1 := hide (reads_below hr1 bW hB)
  replace hr2 := hide (reads_below hr2 bW hB)
  have hss := hide ((hs1.append hs2).mono (fun x y h => JAt.keep (B' := W.heap.size) (fun p hp => bW.cell (by omega)) hBW.out n x y h))
  replace hka := hide (hka.keep (fun p hp => bW.cell (by omega)) hBW.out)
  have hts := hide (fun j => take_items (n := n) (v := v) j hg hby hpt)
  clear hla hva hs1 hs2
  have hll : v.list.length = 0 := by
    have h1 := hg.2.2.2.1
    rcases h1 with h1 | h1
    · omega
    · rw [h1]; rfl
  have hl0 : ¬ (0 : Int) < (v.list.length : Int) := by omega
  have hki : ((v.keys.length : Nat) : Int) = ((v.vals.length : Nat) : Int) := by omega
  replace hll := hide hll
  replace hkl := hide hkl
  replace hl400 := hide hl400
  replace hv400 := hide hv400
  replace bW := hide bW
  replace kW := hide kW
  replace hg := hide hg
  replace hk := hide hk
  replace hp := hide hp
  go_enter Tryz.func8, Tryz.ntmps8
  go_upto_region 1 with fail
  rw [← hW]
  clear hW
  go_upto_region 17 with fail
  rotate_left
  · exact absurd (List.eq_nil_of_length_eq_zero hll.out) (by assumption)
  rename v.list = [] => hnil
  clear hnil
  replace hl0 := hide hl0
  replace hki := hide hki
  refine wp_region_inv (by kernel_rfl) (fun listed a w' => ∃ s64 s65 s66 s67 s68 s69 s70 s71 s72, a = (⟨#[.agg #[.int .i64 6, .int .i64 v.half, .string v.text, .slice la 0 lc, .slice ka v.keys.length kc, .slice va v.vals.length vc], .pointer (some ⟨w.heap.size, 0, none⟩), .string ⟨#[]⟩, .int .i64 0, .string ⟨#[]⟩, undef, undef, undef, undef, undef, undef, .pointer (some ⟨w.heap.size, 0, none⟩), .int .i64 6, .bool false, .bool false, .bool false, .bool false, .bool false, .bool false, .bool false, .bool false, undef, undef, undef, undef, undef, .bool false, .bool false, undef, undef, undef, undef, undef, .bool false, .bool false, .pointer (some ⟨w.heap.size, 0, none⟩), .int .i64 6, .bool true, .bool true, .pointer (some ⟨w.heap.size, 4, none⟩), .slice ka v.keys.length kc, .int .i64 v.vals.length, .pointer (some ⟨w.heap.size, 5, none⟩), .slice va v.vals.length vc, .int .i64 v.vals.length, .bool false, .bool false, .pointer (some ⟨w.heap.size, 3, none⟩), .slice la 0 lc, .int .i64 0, .bool false, .bool false, .bool false, .bool false, .pointer (some ⟨w.heap.size, 0, none⟩), .int .i64 6, .bool false, .bool false, undef, undef, undef, undef, .bool false, .bool false, s64, s65, s66, s67, s68, s69, s70, s71, s72, undef, undef, undef, undef, undef, undef, undef, undef, undef, undef, undef, undef, undef, undef, undef, undef, undef, undef, undef, undef, undef, undef, undef, undef, undef, undef, undef, undef, undef, undef, undef, undef, undef, undef, undef, undef, undef, undef, undef, undef, undef, undef, undef, undef, undef, undef, undef, undef], []⟩ : Act) ∧ RgJ W w.heap.size la v.list.length lc va v.vals.length vc (fl rs1) (fl rs2) listed w' s64 s65 s66 s67 s68 s69 s70 s71 s72) ?_ ?_ ?_
  · exact ⟨_, _, _, _, _, _, _, _, _, rfl, RgJ.start _ _ _ _ _ _ _ _ _ _ ((Below.refl _ _).drew) _ _ _ _ _ _ _ _ _⟩
  · rintro listed a w' i ⟨s64, s65, s66, s67, s68, s69, s70, s71, s72, rfl, H⟩ hi
    have hun := Up.un hi
    have hlt9 : i < 9 := by
      obtain ⟨-, o, ho, -⟩ := mem_ready.1 hi
      rcases Nat.lt_or_ge i 9 with h | h
      · exact h
      · rw [Array.getElem?_eq_none (by exact h)] at ho
        cases ho
    have kw := kW.out.below H.bel kW.out.lt
    obtain ⟨q0, q1, q2, q3, q4, q5⟩ := blk_six kw
    have hlw := kw.lt
    have hbs : W.heap.size ≤ w'.heap.size := H.bel.size
    have hbel := hide H.bel
    clear kw
    have hi9 : i = 0 ∨ i = 1 ∨ i = 2 ∨ i = 3 ∨ i = 4 ∨ i = 5 ∨ i = 6 ∨ i = 7 ∨ i = 8 := by omega
    rcases hi9 with rfl | rfl | rfl | rfl | rfl | rfl | rfl | rfl | rfl
    · replace H := hide H
      replace hi := hide hi
      replace hun := hide hun
      refine wpOp_of_list rfl ?_
      go_wp2_with fail
      refine Then.normal ⟨_, _, _, _, _, _, _, _, _, rfl, H.out.c0 hun.out (hbel.out.alloc hbs _) ⟨rfl, .inr ⟨_, _, _, rfl, hbs, Blk.new _ _ _, Nat.le_refl _, Nat.zero_le _, rfl, rfl⟩⟩⟩
    · replace H := hide H
      replace hi := hide hi
      replace hun := hide hun
      refine wpOp_of_list rfl ?_
      go_wp2_with fail
      refine Then.normal ⟨_, _, _, _, _, _, _, _, _, rfl, H.out.c1 hun.out rfl⟩
    · obtain rfl := H.f1 (Up.waits hi 1 (by kernel_rfl))
      replace H := hide H
      replace hi := hide hi
      replace hun := hide hun
      refine wpOp_of_list rfl ?_
      go_wp2_with fail
      refine Then.normal ⟨_, _, _, _, _, _, _, _, _, rfl, H.out.c2 hun.out rfl⟩
    · obtain rfl := H.f2 (Up.waits hi 2 (by kernel_rfl))
      have h0 := hide (Up.waits hi 0 (by kernel_rfl))
      have hown := H.f0 h0.out (Up.no hun)
      have hrd := hide (reads_below hr1.out H.bel hBW.out)
      replace H := hide H
      replace hi := hide hi
      replace hun := hide hun
      replace hown := hide hown
      refine wpOp_of_list rfl ?_
      refine wpList_append_any _ rfl (.tmp 64) (.tmp 66) 23 rfl W.heap.size 26 i0 _ 6 104 Tryz.underlying23 hi0.out hz0.out hz1.out hz2.out rfl (Nat.zero_lt_succ 5) s64 0 [] rfl hown.out B la v.list.length lc (fl rs1) rfl hrd.out h11.out (by unfold maxLen; have := hl400.out; have := hv400.out; omega) (by have := hl400.out; have := hv400.out; omega) hbs ?_
      intro v' w4 own4 g4 loc4
      have hb4 := hide (below_grown hbel.out hown.out g4)
      replace own4 := hide own4
      clear g4 loc4
      go_wp2_with fail
      refine Then.normal ⟨_, _, _, _, _, _, _, _, _, rfl, H.out.c3 hun.out hb4.out h0.out (by have h := own4.out; rw [List.nil_append, Nat.zero_add] at h; exact h)⟩
    · replace H := hide H
      replace hi := hide hi
      replace hun := hide hun
      refine wpOp_of_list rfl ?_
      go_wp2_with fail
      refine Then.normal ⟨_, _, _, _, _, _, _, _, _, rfl, H.out.c4 hun.out rfl⟩
    · obtain rfl := H.f4 (Up.waits hi 4 (by kernel_rfl))
      replace H := hide H
      replace hi := hide hi
      replace hun := hide hun
      refine wpOp_of_list rfl ?_
      go_wp2_with fail
      refine Then.normal ⟨_, _, _, _, _, _, _, _, _, rfl, H.out.c5 hun.out rfl⟩
    · obtain rfl := H.f5 (Up.waits hi 5 (by kernel_rfl))
      have h0 := hide (Up.waits hi 3 (by kernel_rfl))
      have hown := (H.f3 h0.out).2 (Up.no hun)
      have hrd := hide (reads_below hr2.out H.bel hBW.out)
      replace H := hide H
      replace hi := hide hi
      replace hun := hide hun
      replace hown := hide hown
      refine wpOp_of_list rfl ?_
      refine wpList_append_any _ rfl (.tmp 67) (.tmp 69) 23 rfl W.heap.size 26 i0 _ 6 104 Tryz.underlying23 hi0.out hz0.out hz1.out hz2.out rfl (Nat.zero_lt_succ 5) s67 v.list.length (fl rs1) rfl hown.out B va v.vals.length vc (fl rs2) rfl hrd.out h12.out (by unfold maxLen; have := hl400.out; have := hv400.out; omega) (by have := hl400.out; have := hv400.out; omega) hbs ?_
      intro v' w4 own4 g4 loc4
      have hb4 := hide (below_grown hbel.out hown.out g4)
      replace own4 := hide own4
      clear g4 loc4
      go_wp2_with fail
      refine Then.normal ⟨_, _, _, _, _, _, _, _, _, rfl, H.out.c6 hun.out hb4.out h0.out own4.out⟩
    · have hown := (H.f6 (Up.waits hi 6 (by kernel_rfl))).2
      obtain ⟨A, cap, rfl, -, -⟩ := own_sl hown
      clear hown
      replace H := hide H
      replace hi := hide hi
      replace hun := hide hun
      refine wpOp_of_list rfl ?_
      go_wp2_with fail
      refine Then.normal ⟨_, _, _, _, _, _, _, _, _, rfl, H.out.c7 hun.out (by simp)⟩
    · replace H := hide H
      replace hi := hide hi
      replace hun := hide hun
      refine wpOp_of_list rfl ?_
      go_wp2_with fail
      refine Then.normal ⟨_, _, _, _, _, _, _, _, _, rfl, H.out.c8 hun.out rfl⟩
  · rintro listed a w' ⟨s64, s65, s66, s67, s68, s69, s70, s71, s72, rfl, H⟩ hr
    have hs : listed.size = 9 := H.sz
    have up := fun i (h : i < 9) => Up.all hs (by kernel_rfl) hr i h
    obtain rfl := H.f1 (up 1 (by decide))
    obtain rfl := H.f2 (up 2 (by decide))
    obtain rfl := H.f4 (up 4 (by decide))
    obtain rfl := H.f5 (up 5 (by decide))
    have hown := (H.f6 (up 6 (by decide))).2
    obtain rfl := H.f7 (up 7 (by decide))
    obtain rfl := H.f8 (up 8 (by decide))
    have hbR := H.bel
    obtain ⟨A, cap, rfl, hcap, hcm⟩ := own_sl hown
    have hkw := hide (kW.out.below hbR kW.out.lt)
    have hown' : w'.ownsRow W.heap.size 26 6 (.slice A (v.list ++ v.vals).length cap) (v.list ++ v.vals).length (fl (rs1 ++ rs2)) := by
      rw [List.length_append, fl_append]
      exact hown
    have hvec := hide ((hss.out.mono (fun x y h => JAt.keep (B' := w'.heap.size) (fun p hp => hbR.cell hp) hbR.size n x y h)).vec hown' (Nat.le_refl _))
    have hkaR := hide (hka.out.keep (fun p hp => hbR.cell hp) hbR.size)
    have bR := hide (bW.out.trans (hbR.mono bW.out.size))
    obtain ⟨N, hN⟩ : ∃ N, N = v.list.length + v.vals.length := ⟨_, rfl⟩
    have hNi : ((v.list.length : Int) + (v.vals.length : Int)) = (N : Int) := by omega
    have hN800 : N ≤ 800 := by have := hl400.out; have := hv400.out; omega
    rw [← hN] at hcap
    have hwl : w.heap.size < w'.heap.size := hkw.out.lt
    rw [← hN, hNi]
    clear H up hr hown hown' hbR hs hNi hss hka
    replace hN := hide hN
    replace hcm := hide hcm
    replace hkw := hkw
    go_wp2
    go_loopw [4, 72] (fun s4 s72 wr => ∃ j : Nat, s72 = .int .i64 j ∧ j ≤ N ∧ s4 = .string (joinT ((jItems (jT n) v).take j)) ∧ JsAll n v j ∧ Below w'.heap.size w' wr) (fun _ i _ => N - (RowKit.intOf i).toNat)
    case atStart => exact ⟨0, rfl, Nat.zero_le _, rfl, JsAll.zero n v, Below.refl _ _⟩
    case round =>
      obtain ⟨j, rfl, hj, rfl, hok, hb⟩ := hrel
      have kw := hkw.out.below hb hkw.out.lt
      obtain ⟨q0, q1, q2, q3, q4, q5⟩ := blk_six kw
      have hlw := kw.lt
      have hds := hts.out j
      by_cases hjl : j < N
      · obtain ⟨bk, ofs, rfl, hbk, hcs⟩ := hvec.out (by rw [List.length_append]; have := hN.out; omega)
        obtain ⟨y, hyj⟩ : ∃ y, (v.list ++ v.vals)[j]? = some y := ⟨_, List.getElem?_eq_getElem (by rw [List.length_append]; have := hN.out; omega)⟩
        obtain ⟨c0, c1, c2, c3, c4, c5, e0, e1, e2, e3, e4, e5, hxx⟩ := hcs j y hyj
        replace e0 := (hb.cell hbk).trans e0
        replace e1 := (hb.cell hbk).trans e1
        replace e2 := (hb.cell hbk).trans e2
        replace e3 := (hb.cell hbk).trans e3
        replace e4 := (hb.cell hbk).trans e4
        replace e5 := (hb.cell hbk).trans e5
        have hbs := hb.size
        have hbk2 : bk < wr.heap.size := Nat.lt_of_lt_of_le hbk hbs
        obtain ⟨hgy, hby1, hpt1⟩ := hp.out y (List.mem_of_getElem? hyj)
        rcases n with _ | m
        · exact absurd hgy (fun h => h)
        have hxx' := hxx
        obtain ⟨la2, lc2, ka2, kc2, va2, vc2, hagg, -⟩ := hxx'
        simp at hagg
        obtain ⟨rfl, rfl, rfl, rfl, rfl, rfl⟩ := hagg
        obtain ⟨k, hkj⟩ : ∃ k, v.keys[j]? = some k := ⟨_, List.getElem?_eq_getElem (by have := hN.out; have := hkl.out; have := hll.out; omega)⟩
        have hkm := List.mem_of_getElem? hkj
        have hksz := key_small (n := m + 1) hkm
        obtain ⟨kb, ko, rfl, hkb, hkc⟩ := hkaR.out.2 (by have := (List.getElem?_eq_some_iff.1 hkj).1; omega)
        have hk0 := (hb.cell (p := ⟨kb, ko + j, none⟩) hkb).trans (hkc j k hkj)
        have hkb2 : kb < wr.heap.size := Nat.lt_of_lt_of_le hkb hbs
        have hjk : j < v.keys.length := (List.getElem?_eq_some_iff.1 hkj).1
        have hgi : (jItems (jT (m + 1)) v)[j]? = some (itemT k (jT (m + 1) y)) := by
          have hyl : v.vals[j]? = some y := by rw [← hyj, List.getElem?_append_right (by have := hll.out; omega)]; have := hll.out; rw [this]; rfl
          unfold jItems
          rw [if_pos hk.out, List.getElem?_zipWith, hkj, hyl]
        have hqs := qT_size k
        have hT := part_size hgy (by omega) (by omega)
        clear hkc
        have hgr := grow_item hgi
        obtain ⟨D, hD⟩ : ∃ D, joinT ((jItems (jT (m + 1)) v).take j) = D := ⟨_, rfl⟩
        rw [hD] at hgr hds ⊢
        clear hD hcs hgi
        obtain ⟨W1, hW1⟩ : ∃ W1, W1 = wr.alloc (.cells #[.int .i64 y.kind, .int .i64 y.half, .string y.text, .slice la2 y.list.length lc2, .slice ka2 y.keys.length kc2, .slice va2 y.vals.length vc2] 26) := ⟨_, rfl⟩
        have b1 : Below wr.heap.size wr W1 := by rw [hW1]; exact Below.alloc (Below.refl _ _) (Nat.le_refl _) _
        have k1 := Blk.new wr 26 #[.int .i64 y.kind, .int .i64 y.half, .string y.text, .slice la2 y.list.length lc2, .slice ka2 y.keys.length kc2, .slice va2 y.vals.length vc2]
        rw [← hW1] at k1
        have kw1 := kw.below b1 hlw
        have hxx1 := JAt.keep (w' := W1) (B' := w'.heap.size) (fun p hp => (b1.cell (by omega)).trans (hb.cell hp)) (Nat.le_refl _) (m + 1) _ _ hxx
        have hs1 := b1.size
        have b01 := hide (hb.trans (b1.mono hbs))
        replace k1 := hide k1
        replace kw1 := hide kw1
        replace hxx1 := hide hxx1
        replace hok := hide hok
        replace hb := hide hb
        replace b1 := hide b1
        replace kw := hide kw
        replace hgy := hide hgy
        replace hyj := hide hyj
        clear hxx
        rcases Nat.eq_zero_or_pos j with h0 | h0
        · have g0 : ¬ (0 : Int) < ((j : Nat) : Int) := by omega
          have hfin := hide (hgr.1 h0)
          clear hgr h0
          go_wp2_with fail
          rw [← hW1]
          clear hW1
          refine (quoted_any W1 k (by omega)).mono ?_
          rintro e W2 ⟨⟨t, how, rfl, hor⟩, b2⟩
          have k2 := kw1.out.below b2 kw1.out.lt
          obtain ⟨q0, q1, q2, q3, q4, q5⟩ := blk_six k2
          have k3 := k1.out.below b2 k1.out.lt
          obtain ⟨u0, u1, u2, u3, u4, u5⟩ := blk_six k3
          have lw2 := k2.lt
          have lw3 := k3.lt
          have b02 := hide (b01.out.trans (b2.mono b01.out.size))
          have hxx2 := hide (JAt.keep (w' := W2) (fun p (hp : p.block < w'.heap.size) => b2.cell (by omega)) (Nat.le_refl _) (m + 1) _ _ hxx1.out)
          have hs2 := b2.size
          replace k2 := hide k2
          replace k3 := hide k3
          rcases hor with ⟨rfl, rfl, hnd⟩ | rfl
          · obtain ⟨Q, hQ⟩ : ∃ Q, qT k = Q := ⟨_, rfl⟩
            have hfin2 := hfin.out
            unfold itemT at hfin2
            rw [hQ] at hfin2 hqs ⊢
            replace hfin2 := hide hfin2
            clear hQ hfin
            have z2 : ¬ 9223372036854775807 < Q.size + 1 := by omega
            have z3 : ¬ 9223372036854775807 < D.size + (Q.size + 1) := by omega
            replace b2 := hide b2
            replace hnd := hide hnd
            go_wp2_with fail
            refine (ih W2 w'.heap.size _ y hxx2.out hgy.out (by omega) (by omega) (by omega)).mono ?_
            rintro e W3 ⟨⟨s, how, rfl, hor⟩, b3⟩
            have k4 := k2.out.below b3 k2.out.lt
            obtain ⟨q0, q1, q2, q3, q4, q5⟩ := blk_six k4
            have b03 := hide (b02.out.trans (b3.mono b02.out.size))
            clear k4
            rcases hor with ⟨rfl, rfl, hjy⟩ | rfl
            · have hnx := hide (hok.out.next hyj.out hjy (fun k' hk' => by rw [hkj] at hk'; cases hk'; exact hnd.out))
              obtain ⟨T, hTT⟩ : ∃ T, jT (m + 1) y = T := ⟨_, rfl⟩
              rw [hTT] at hfin2 hT ⊢
              clear hTT hjy
              have z4 : ¬ 9223372036854775807 < D.size + (Q.size + 1) + T.size := by omega
              replace b3 := hide b3
              go_wp2
              go_roundw
              case rel => exact ⟨j + 1, by go_num, by omega, by rw [← hfin2.out]; simp [ByteArray.append_assoc], hnx.out, b03.out⟩
              case measure => simp [RowKit.intOf]; omega
            · replace b3 := hide b3
              go_wp2
              go_ret2
              exact ⟨⟨_, _, rfl, Or.inr rfl⟩, bR.out.trans (b03.out.mono bR.out.size)⟩
          · replace b2 := hide b2
            go_wp2
            go_ret2
            exact ⟨⟨_, _, rfl, Or.inr rfl⟩, bR.out.trans (b02.out.mono bR.out.size)⟩
        · have g0 : (0 : Int) < ((j : Nat) : Int) := by omega
          have hfin := hide (hgr.2 h0)
          clear hgr h0
          have z0 : ¬ 9223372036854775807 < D.size + 1 := by omega
          go_wp2_with fail
          rw [← hW1]
          clear hW1
          refine (quoted_any W1 k (by omega)).mono ?_
          rintro e W2 ⟨⟨t, how, rfl, hor⟩, b2⟩
          have k2 := kw1.out.below b2 kw1.out.lt
          obtain ⟨q0, q1, q2, q3, q4, q5⟩ := blk_six k2
          have k3 := k1.out.below b2 k1.out.lt
          obtain ⟨u0, u1, u2, u3, u4, u5⟩ := blk_six k3
          have lw2 := k2.lt
          have lw3 := k3.lt
          have b02 := hide (b01.out.trans (b2.mono b01.out.size))
          have hxx2 := hide (JAt.keep (w' := W2) (fun p (hp : p.block < w'.heap.size) => b2.cell (by omega)) (Nat.le_refl _) (m + 1) _ _ hxx1.out)
          have hs2 := b2.size
          replace k2 := hide k2
          replace k3 := hide k3
          rcases hor with ⟨rfl, rfl, hnd⟩ | rfl
          · obtain ⟨Q, hQ⟩ : ∃ Q, qT k = Q := ⟨_, rfl⟩
            have hfin2 := hfin.out
            unfold itemT at hfin2
            rw [hQ] at hfin2 hqs ⊢
            replace hfin2 := hide hfin2
            clear hQ hfin
            have z2 : ¬ 9223372036854775807 < Q.size + 1 := by omega
            have z3 : ¬ 9223372036854775807 < D.size + 1 + (Q.size + 1) := by omega
            replace b2 := hide b2
            replace hnd := hide hnd
            go_wp2_with fail
            refine (ih W2 w'.heap.size _ y hxx2.out hgy.out (by omega) (by omega) (by omega)).mono ?_
            rintro e W3 ⟨⟨s, how, rfl, hor⟩, b3⟩
            have k4 := k2.out.below b3 k2.out.lt
            obtain ⟨q0, q1, q2, q3, q4, q5⟩ := blk_six k4
            have b03 := hide (b02.out.trans (b3.mono b02.out.size))
            clear k4
            rcases hor with ⟨rfl, rfl, hjy⟩ | rfl
            · have hnx := hide (hok.out.next hyj.out hjy (fun k' hk' => by rw [hkj] at hk'; cases hk'; exact hnd.out))
              obtain ⟨T, hTT⟩ : ∃ T, jT (m + 1) y = T := ⟨_, rfl⟩
              rw [hTT] at hfin2 hT ⊢
              clear hTT hjy
              have z4 : ¬ 9223372036854775807 < D.size + 1 + (Q.size + 1) + T.size := by omega
              replace b3 := hide b3
              go_wp2
              go_roundw
              case rel => exact ⟨j + 1, by go_num, by omega, by rw [← hfin2.out]; simp [ByteArray.append_assoc], hnx.out, b03.out⟩
              case measure => simp [RowKit.intOf]; omega
            · replace b3 := hide b3
              go_wp2
              go_ret2
              exact ⟨⟨_, _, rfl, Or.inr rfl⟩, bR.out.trans (b03.out.mono bR.out.size)⟩
          · replace b2 := hide b2
            go_wp2
            go_ret2
            exact ⟨⟨_, _, rfl, Or.inr rfl⟩, bR.out.trans (b02.out.mono bR.out.size)⟩
      · obtain rfl : j = N := by omega
        have hall := hide (hok.all hN.out hkl.out (by rw [hk.out]; decide))
        have hit : (jItems (jT n) v).length ≤ j := by
          unfold jItems
          have := hN.out
          have := hkl.out
          rw [if_pos hk.out, List.length_zipWith]
          omega
        rw [List.take_of_length_le hit] at hds ⊢
        obtain ⟨D, hD⟩ : ∃ D, joinT (jItems (jT n) v) = D := ⟨_, rfl⟩
        have hres : Hid (⟨#[123]⟩ ++ D ++ ⟨#[125]⟩ = jT (n + 1) v) := hide (by
          rw [jT, if_neg (by rw [hk.out]; decide), if_neg (by rw [hk.out]; decide), if_pos hk.out, hD])
        rw [hD] at hds ⊢
        clear hD hit hok
        have z1 : ¬ 9223372036854775807 < 1 + D.size := by omega
        have z2 : ¬ 9223372036854775807 < 1 + D.size + 1 := by omega
        replace hb := hide hb
        go_wp2
        go_ret2
        exact ⟨⟨_, _, rfl, Or.inl ⟨rfl, hres.out, hall.out⟩⟩, bR.out.trans (hb.out.mono bR.out.size)⟩
end Go.Proofs.YtbnbemacljjimaaGreatDoor

namespace Go.Proofs.YtbnbemacljjimaaGreatDoor
open Go.RowKit Go.Lib
set_option linter.unusedVariables false

theorem nil_parts {n : Nat} {v : JV} (hg : Good (n + 1) v) (h5 : ¬ v.kind = 5) (h6 : ¬ v.kind = 6) : v.list = [] ∧ v.keys = [] ∧ v.vals = [] := by
  have h1 : v.list = [] := (hg.2.2.2.1).resolve_left h5
  have h2 : v.keys = [] := (hg.2.2.2.2.1).resolve_left h6
  have h3 := hg.2.2.2.2.2.1
  rw [h2] at h3
  exact ⟨h1, h2, List.eq_nil_of_length_eq_zero h3.symm⟩

set_option maxHeartbeats 2000000 in
set_option maxRecDepth 100000 in
theorem json_str (n : Nat) (w : World) (B : Nat) (x : Value) (v : JV) (hx : JAt w B (n + 1) x v) (hg : Good (n + 1) v) (hby : JV.bytes (n + 1) v ≤ 2000) (hk : v.kind = 4) :
    Calls Tryz.prog 8 #[x] w fun e w' => JsSays (n + 1) v e ∧ Below w.heap.size w w' := by
  obtain ⟨la, lc, ka, kc, va, vc, rfl, -⟩ := hx
  have hts : v.text.size ≤ 100000 := by rw [JV.bytes] at hby; omega
  have hq := hide (fun W => quoted_any W v.text hts)
  have hn := nil_parts hg (by omega) (by omega)
  have hsay : Hid (QSays v.text = fun e => JsSays (n + 1) v e) := hide (by
    funext e
    unfold QSays JsSays
    rw [jT, if_pos hk]
    have hok : JsOk (n + 1) v ↔ NoDel v.text := by
      rw [JsOk, hn.1, hn.2.1, hn.2.2]
      constructor
      · intro h
        exact h.1 hk
      · intro h
        exact ⟨fun _ => h, by simp, by simp, by simp⟩
    rw [hok])
  have hs2 := hide (fun e (h : QSays v.text e) => (show JsSays (n + 1) v e from by rw [hsay.out] at h; exact h))
  clear hsay hn hg hby hts
  rw [hk]
  go_enter Tryz.func8, Tryz.ntmps8
  go_wp2_with (go_at_call 21; refine (hq.out _).mono ?_; rintro e w2 ⟨hqs, hb⟩; have hres := hide (hs2.out _ hqs); obtain ⟨t, how, rfl, -⟩ := hqs; replace hb := hide hb)
  go_ret2
  exact ⟨hres.out, ((Below.refl _ _).alloc (Nat.le_refl _) _).trans (hb.out.mono (by simp))⟩

theorem json_any : ∀ n, JsonSays n
  | 0 => fun w B x v hx hg => absurd hg (fun h => h)
  | n + 1 => fun w B x v hx hg hby hpt hB => by
    have hk := hg.1
    by_cases h4 : v.kind = 4
    · exact json_str n w B x v hx hg hby h4
    by_cases h5 : v.kind = 5
    · exact json_list n (json_any n) w B x v hx hg hby hpt hB h5
    by_cases h6 : v.kind = 6
    · exact json_map n (json_any n) w B x v hx hg hby hpt hB h6
    refine (jsonS_any n w B x v hx (by omega) hg.2.2.2.2.2.2.1).mono ?_
    rintro e w' ⟨⟨s, how, rfl, hor⟩, hb⟩
    refine ⟨⟨s, how, rfl, ?_⟩, hb⟩
    rcases hor with ⟨h1, h2⟩ | h1
    · have hn := nil_parts hg h5 h6
      refine Or.inl ⟨h1, ?_, fun e => absurd e h4, ?_, ?_, ?_⟩
      · rw [jT, if_neg h4, if_neg h5, if_neg h6]
        exact h2
      · rw [hn.1]; simp
      · rw [hn.2.1]; simp
      · rw [hn.2.2]; simp
    · exact Or.inr h1
end Go.Proofs.YtbnbemacljjimaaGreatDoor
