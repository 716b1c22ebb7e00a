/- The law of @csv. -/
import Derived.Test.YtbnbemacljjimaaGreatDoorJc15
import Derived.Test.YtbnbemacljjimaaGreatDoorJc16
import Derived.Test.YtbnbemacljjimaaGreatDoorJc09
namespace Go.Proofs.YtbnbemacljjimaaGreatDoor
open Go.RowKit Go.Lib
set_option linter.unusedVariables false

set_option maxHeartbeats 1000000 in
set_option maxRecDepth 100000 in
theorem toldV_silent (w : World) (a0 a1 a2 a3 a4 a5 a6 c0 c1 c2 c3 c4 c5 : Value) :
    Calls Tryz.prog 40 #[.agg #[a0, a1, a2, a3, a4, a5, a6], .agg #[c0, c1, c2, c3, c4, c5], .int .i64 2] w fun e w' => e = .returned (.bool true) ∧ Below w.heap.size w w' := by
  go_enter Tryz.func40, Tryz.ntmps40
  go_wp2
  go_ret
  exact ⟨rfl, Below.alloc (Below.alloc (Below.refl _ _) (Nat.le_refl _) _) (by simp) _⟩

set_option maxHeartbeats 1000000 in
theorem specStr_any (w : World) (s : ByteArray) :
    Calls Tryz.prog 32 #[.string s] w fun e w' => e = .returned (.agg #[.int .i64 4, .int .i64 0, .string s, .slice none 0 0, .slice none 0 0, .slice none 0 0]) ∧ Below w.heap.size w w' := by
  go_enter Tryz.func32, Tryz.ntmps32
  go_wp2
  exact bodyPost_ret (v := .agg #[.int .i64 4, .int .i64 0, .string s, .slice none 0 0, .slice none 0 0, .slice none 0 0]) (by simp [results, Tryz.results32, go_sem]) rfl ⟨rfl, (Below.refl _ _).alloc (Nat.le_refl _) _⟩

theorem rowT_size (xs : List JV) (hl : xs.length ≤ 400) (he : ∀ y ∈ xs, Elem y) : (rowT xs).size ≤ 9223372036854775807 := by
  have h1 := row_len xs he
  show (Lib.join ((xs.map fld).map (·.data.toList)) [44]).toArray.size ≤ _
  rw [List.size_toArray]
  omega

/-- What the door's answer is. -/
def DoorR (n : Nat) (v : JV) (w : World) (B : Nat) (r : Value) : Prop := (CsvOk v ∧ ResAt w B n r (strJ (rowT v.list)) 0) ∨ (¬ CsvOk v ∧ ResAt w B n r zeroJ 1)

theorem DoorR.form {n : Nat} {v : JV} {w : World} {B : Nat} {r : Value} (h : DoorR n v w B r) : ∃ a0 a1 a2 a3 a4 a5 a6, r = .agg #[a0, a1, a2, a3, a4, a5, a6] := by
  rcases h with ⟨-, c0, c1, c2, c3, c4, c5, rfl, -⟩ | ⟨-, c0, c1, c2, c3, c4, c5, rfl, -⟩
  · exact ⟨_, _, _, _, _, _, _, rfl⟩
  · exact ⟨_, _, _, _, _, _, _, rfl⟩

theorem told_door {n : Nat} {v : JV} {w : World} {B : Nat} {r : Value} (h : DoorR n v w B r) (hl : v.list.length ≤ 400) (he : ∀ y ∈ v.list, Elem y) {s : ByteArray} {how : Int} (hs : (how = 0 ∧ CsvOk v ∧ s = rowT v.list) ∨ (how = 1 ∧ ¬ CsvOk v) ∨ how = 2) (W : World) (hk : ∀ p : Addr, p.block < B → W.cell? p = w.cell? p) (hB : B ≤ W.heap.size) :
    Calls Tryz.prog 40 #[r, .agg #[.int .i64 4, .int .i64 0, .string s, .slice none 0 0, .slice none 0 0, .slice none 0 0], .int .i64 how] W fun e w' => e = .returned (.bool true) ∧ Below W.heap.size W w' := by
  rcases hs with ⟨rfl, hok, rfl⟩ | ⟨rfl, hbad⟩ | rfl
  · rcases h with ⟨-, hr⟩ | ⟨hn, -⟩
    · exact toldV_same n W B r _ (strJ (rowT v.list)) (hr.keep hk (Nat.le_refl _)) (str_jat W B n _ (rowT_size _ hl he)) (str_say n _ (rowT_size _ hl he)) hB
    · exact absurd hok hn
  · rcases h with ⟨hok, -⟩ | ⟨-, hr⟩
    · exact absurd hok hbad
    · exact toldV_raise n W B r zeroJ _ _ _ _ _ _ (hr.keep hk (Nat.le_refl _))
  · obtain ⟨a0, a1, a2, a3, a4, a5, a6, rfl⟩ := h.form
    exact toldV_silent W _ _ _ _ _ _ _ _ _ _ _ _ _

set_option maxHeartbeats 4000000 in
set_option maxRecDepth 100000 in
theorem formatted_any (n : Nat) (w : World) (B : Nat) (r x : Value) (v : JV) (hr : DoorR (n + 1) v w B r) (hx : JAt w B (n + 2) x v) (hg : Good (n + 2) v) (hl : v.list.length ≤ 400) (he : ∀ y ∈ v.list, Elem y ∧ 0 ≤ y.kind ∧ y.kind ≤ 6) (hB : B ≤ w.heap.size) :
    Calls Tryz.prog 17 #[r, .string ⟨#[99, 115, 118]⟩, x] w fun e w' => e = .returned (.bool true) ∧ Below w.heap.size w w' := by
  have hx' := hide hx
  have hr' := hide hr
  obtain ⟨a0, a1, a2, a3, a4, a5, a6, rfl⟩ := hr.form
  obtain ⟨la, lc, ka, kc, va, vc, rfl, -⟩ := hx
  clear hr
  obtain ⟨W0, hW0⟩ : ∃ W0, W0 = w.alloc (.cells #[a0, a1, a2, a3, a4, a5, a6] 35) := ⟨_, rfl⟩
  have b0 : Below w.heap.size w W0 := by rw [hW0]; exact (Below.refl _ _).alloc (Nat.le_refl _) _
  have k0 := Blk.new w 35 #[a0, a1, a2, a3, a4, a5, a6]
  rw [← hW0] at k0
  have s0 : W0.heap.size = w.heap.size + 1 := by rw [hW0]; simp
  obtain ⟨W, hW⟩ : ∃ W, W = W0.alloc (.cells #[.int .i64 v.kind, .int .i64 v.half, .string v.text, .slice la v.list.length lc, .slice ka v.keys.length kc, .slice va v.vals.length vc] 26) := ⟨_, rfl⟩
  have bW : Below w.heap.size w W := by rw [hW]; exact b0.alloc b0.size _
  have kW := Blk.new W0 26 #[.int .i64 v.kind, .int .i64 v.half, .string v.text, .slice la v.list.length lc, .slice ka v.keys.length kc, .slice va v.vals.length vc]
  rw [← hW, s0] at kW
  have k0W : Blk W w.heap.size 35 #[a0, a1, a2, a3, a4, a5, a6] := by rw [hW]; exact k0.alloc _
  have hxk : ∀ W', Below W.heap.size W W' → JAt W' B (n + 2) (.agg #[.int .i64 v.kind, .int .i64 v.half, .string v.text, .slice la v.list.length lc, .slice ka v.keys.length kc, .slice va v.vals.length vc]) v := fun W' h => JAt.keep (fun p hp => (h.cell (by have := bW.size; omega)).trans (bW.cell (by omega))) (Nat.le_refl _) (n + 2) _ _ hx'.out
  have hf := hide (format_any n W B _ v (hxk W (Below.refl _ _)) hl he (Nat.le_trans hB bW.size))
  obtain ⟨q0, q1, q2, q3, q4, q5⟩ := blk_six kW
  have hkl := kW.lt
  have hkl0 := k0W.lt
  rw [hW0] at hW
  clear hW0 k0 b0
  replace bW := hide bW
  replace kW := hide kW
  replace k0W := hide k0W
  replace hxk := hide hxk
  replace he := hide he
  replace hg := hide hg
  replace s0 := hide s0
  go_enter Tryz.func17, Tryz.ntmps17
  go_upto_region 1 with fail
  rw [← hW]
  clear hW
  go_wp2_with fail
  refine hf.out.mono ?_
  rintro e W1 ⟨⟨s, how, rfl, hs⟩, b1⟩
  have k1 := kW.out.below b1 hkl
  have k01 := k0W.out.below b1 hkl0
  have hb1 := hide (bW.out.trans (b1.mono bW.out.size))
  have hsz1 := b1.size
  have hctl := hide (control_any (n + 2) W1 B _ v (hxk.out W1 b1) hg.out (by have := bW.out.size; omega))
  have htd := hide (fun (W' : World) (h : Below W1.heap.size W1 W') => told_door hr'.out hl (fun y hy => (he.out y hy).1) hs W' (fun p hp => ((h.cell (by have := hb1.out.size; omega)).trans (hb1.out.cell (by omega)))) (by have := hb1.out.size; have := h.size; omega))
  obtain ⟨q0, q1, q2, q3, q4, q5⟩ := blk_six k1
  have hk1l := k1.lt
  have hk01l := k01.lt
  replace k1 := hide k1
  replace k01 := hide k01
  replace b1 := hide b1
  replace hs := hide hs
  go_upto_region 2 with fail
  go_cut [33] from 15 to 33 (fun s33 wc => s33 = .bool false ∧ Below W1.heap.size W1 wc)
  case first =>
    by_cases hk4 : v.kind = 4
    · rw [hk4] at q0
      go_wp2_with fail
      go_meet
      exact ⟨rfl, Below.refl _ _⟩
    · have hkb : ((v.kind : Int) != 4) = true := by simp; exact hk4
      replace hk4 := hide hk4
      go_wp2_with (go_at_call 14; refine hctl.out.mono ?_; rintro e W2 ⟨⟨b, rfl⟩, b2⟩; replace b2 := hide b2)
      all_goals go_meet
      all_goals exact ⟨rfl, b2.out⟩
  case rest =>
    obtain ⟨rfl, hbc⟩ := hcut
    have kc := k01.out.below hbc hk01l
    have hcl := kc.lt
    obtain ⟨r0, r1, r2, r3, r4, r5, r6⟩ := blk_seven kc
    replace kc := hide kc
    have hbc' := hide hbc
    clear hbc q0 q1 q2 q3 q4 q5
    go_upto_region 4 with fail
    go_region_held3 (fun w' => w'.cell? ⟨w.heap.size, 0, none⟩ = some a0 ∧ w'.cell? ⟨w.heap.size, 1, none⟩ = some a1 ∧ w'.cell? ⟨w.heap.size, 2, none⟩ = some a2 ∧ w'.cell? ⟨w.heap.size, 3, none⟩ = some a3 ∧ w'.cell? ⟨w.heap.size, 4, none⟩ = some a4 ∧ w'.cell? ⟨w.heap.size, 5, none⟩ = some a5 ∧ w'.cell? ⟨w.heap.size, 6, none⟩ = some a6) (first | exact ⟨r0, r1, r2, r3, r4, r5, r6⟩ | exact ⟨z0, z1, z2, z3, z4, z5, z6⟩ | exact ⟨y0, y1, y2, y3, y4, y5, y6⟩) (first
      | (go_at_call 32; refine (specStr_any _ s).mono ?_; rintro e X1 ⟨rfl, c1⟩; obtain ⟨z0, z1, z2, z3, z4, z5, z6⟩ := blk_seven (kc.out.below (below_undrew c1) hcl); have c1' := hide (hbc'.out.trans ((below_undrew c1).mono hbc'.out.size)); have kz := hide (kc.out.below (below_undrew c1) hcl); clear c1)
      | (go_at_call 40; refine (htd.out _ c1'.out).mono ?_; rintro e X2 ⟨rfl, c2⟩; obtain ⟨y0, y1, y2, y3, y4, y5, y6⟩ := blk_seven (kz.out.below c2 kz.out.lt); have c2' := hide (c1'.out.trans (c2.mono c1'.out.size)); clear c2))
    go_wp2
    go_ret
    exact ⟨rfl, hb1.out.trans (c2'.out.mono hb1.out.size)⟩
end Go.Proofs.YtbnbemacljjimaaGreatDoor

namespace Go.Proofs.YtbnbemacljjimaaGreatDoor
open Go.RowKit Go.Lib
set_option linter.unusedVariables false

/-- The bounds that fine gives are what a row's elements are. -/
theorem elem_of {n : Nat} {y : JV} (h : Good n y) (hb : JV.bytes n y ≤ 2000) : Elem y ∧ 0 ≤ y.kind ∧ y.kind ≤ 6 := by
  rcases n with _ | n
  · exact absurd h (fun h => h)
  · obtain ⟨h1, -, -, -, -, -, h2, h3, -⟩ := h
    refine ⟨⟨h2, h3, ?_⟩, h1⟩
    rw [JV.bytes] at hb
    omega

theorem bytes_mem (n : Nat) : ∀ {xs : List JV} {y : JV}, y ∈ xs → JV.bytes n y ≤ (xs.map (JV.bytes n)).sum
  | [], y, h => absurd h List.not_mem_nil
  | x :: xs, y, h => by
    rw [List.map_cons, List.sum_cons]
    rcases List.mem_cons.1 h with rfl | h
    · omega
    · have := bytes_mem n h
      omega

theorem elems_of {n : Nat} {v : JV} (h : Good (n + 1) v) (hb : JV.bytes (n + 1) v ≤ 2000) : v.list.length ≤ 400 ∧ ∀ y ∈ v.list, Elem y ∧ 0 ≤ y.kind ∧ y.kind ≤ 6 := by
  have hl := h.2.2.2.2.2.2.2.2.2.1
  have hg := h.2.2.2.2.2.2.2.2.2.2.2.1
  refine ⟨hl, fun y hy => elem_of (hg y hy) ?_⟩
  have := bytes_mem n hy
  rw [JV.bytes] at hb
  omega

theorem Up.self {listed : Array Bool} {i : Nat} (h : listed.getD i true = false) : Up (listed.setIfInBounds i true) i := by
  unfold Up
  rw [Array.getD_eq_getD_getElem?] at *
  rcases Nat.lt_or_ge i listed.size with hi | hi
  · simp [hi]
  · simp [Array.getElem?_eq_none hi] at h

theorem DoorR.ext {n : Nat} {v : JV} {w w' : World} {r : Value} (h : DoorR n v w w.heap.size r) (hb : Below w.heap.size w w') : DoorR n v w' w'.heap.size r := by
  rcases h with ⟨h1, h2⟩ | ⟨h1, h2⟩
  · exact Or.inl ⟨h1, h2.keep (fun p hp => hb.cell hp) hb.size⟩
  · exact Or.inr ⟨h1, h2.keep (fun p hp => hb.cell hp) hb.size⟩

/-- What fine lets in. -/
def Gd (v : JV) : Prop := Good 62 v ∧ JV.bytes 62 v ≤ 2000

/-- The region's state, whatever order is drawn. -/
structure RvC (v : JV) (la : Option Addr) (lc : Nat) (ka : Option Addr) (kc : Nat) (va : Option Addr) (vc : Nat) (W0 : World) (listed : Array Bool) (w : World) (s6 s7 s8 s9 s10 s11 s12 s13 s14 s15 s2 : Value) : Prop where
  bel : Below W0.heap.size W0 w
  sz : listed.size = 11
  f0 : Up listed 0 → s6 = (.agg #[.int .i64 v.kind, .int .i64 v.half, .string v.text, .slice la v.list.length lc, .slice ka v.keys.length kc, .slice va v.vals.length vc])
  f1 : Up listed 1 → ¬ Up listed 2 → ∃ g, s7 = .slice (some ⟨g, 0, none⟩) 1 1 ∧ Blk w g 26 #[.int .i64 v.kind, .int .i64 v.half, .string v.text, .slice la v.list.length lc, .slice ka v.keys.length kc, .slice va v.vals.length vc]
  f2 : Up listed 2 → ∃ b, s8 = .bool b ∧ (b = true → Gd v)
  f3 : Up listed 3 → Up listed 2 ∧ ∃ b, s9 = .bool b ∧ (b = false → Gd v)
  f4 : Up listed 4 → Up listed 2 ∧ ∃ b, s10 = .bool b ∧ (b = false → Gd v)
  f5 : Up listed 5 → Up listed 4 ∧ (s10 = .bool false → s11 = (.agg #[.int .i64 v.kind, .int .i64 v.half, .string v.text, .slice la v.list.length lc, .slice ka v.keys.length kc, .slice va v.vals.length vc]))
  f6 : Up listed 6 → Up listed 4 ∧ (s10 = .bool false → DoorR 61 v w w.heap.size s12)
  f7 : Up listed 7 → Up listed 4 ∧ (s10 = .bool false → s13 = (.agg #[.int .i64 v.kind, .int .i64 v.half, .string v.text, .slice la v.list.length lc, .slice ka v.keys.length kc, .slice va v.vals.length vc]))
  f8 : Up listed 8 → Up listed 4 ∧ (s10 = .bool false → s14 = .bool true)
  f9 : Up listed 9 → s15 = .bool true
  f10 : Up listed 10 → s2 = .bool true

theorem RvC.start (v : JV) (la : Option Addr) (lc : Nat) (ka : Option Addr) (kc : Nat) (va : Option Addr) (vc : Nat) {W0 w : World} (hb : Below W0.heap.size W0 w) (s6 s7 s8 s9 s10 s11 s12 s13 s14 s15 s2 : Value) : RvC v la lc ka kc va vc W0 (Array.replicate 11 false) w s6 s7 s8 s9 s10 s11 s12 s13 s14 s15 s2 :=
  ⟨hb, rfl, fun h => (Up.start h).elim, fun h => (Up.start h).elim, fun h => (Up.start h).elim, fun h => (Up.start h).elim, fun h => (Up.start h).elim, fun h => (Up.start h).elim, fun h => (Up.start h).elim, fun h => (Up.start h).elim, fun h => (Up.start h).elim, fun h => (Up.start h).elim, fun h => (Up.start h).elim⟩

theorem RvC.c0 {v : JV} {la ka va : Option Addr} {lc kc vc : Nat} {W0 : World} {listed : Array Bool} {w : World} {s6 s7 s8 s9 s10 s11 s12 s13 s14 s15 s2 : Value} (H : RvC v la lc ka kc va vc W0 listed w s6 s7 s8 s9 s10 s11 s12 s13 s14 s15 s2) (hun : listed.getD 0 true = false) {t : Value} (ht : t = (.agg #[.int .i64 v.kind, .int .i64 v.half, .string v.text, .slice la v.list.length lc, .slice ka v.keys.length kc, .slice va v.vals.length vc])) : RvC v la lc ka kc va vc W0 (listed.setIfInBounds 0 true) w t s7 s8 s9 s10 s11 s12 s13 s14 s15 s2 :=
  ⟨H.bel, by rw [Array.size_setIfInBounds]; exact H.sz, fun _ => ht, fun h hn => H.f1 (Up.set_ne (by decide) h) (fun h' => hn (Up.more h')), fun h => H.f2 (Up.set_ne (by decide) h), fun h => ⟨Up.more (H.f3 (Up.set_ne (by decide) h)).1, (H.f3 (Up.set_ne (by decide) h)).2⟩, fun h => ⟨Up.more (H.f4 (Up.set_ne (by decide) h)).1, (H.f4 (Up.set_ne (by decide) h)).2⟩, fun h => ⟨Up.more (H.f5 (Up.set_ne (by decide) h)).1, (H.f5 (Up.set_ne (by decide) h)).2⟩, fun h => ⟨Up.more (H.f6 (Up.set_ne (by decide) h)).1, (H.f6 (Up.set_ne (by decide) h)).2⟩, fun h => ⟨Up.more (H.f7 (Up.set_ne (by decide) h)).1, (H.f7 (Up.set_ne (by decide) h)).2⟩, fun h => ⟨Up.more (H.f8 (Up.set_ne (by decide) h)).1, (H.f8 (Up.set_ne (by decide) h)).2⟩, fun h => H.f9 (Up.set_ne (by decide) h), fun h => H.f10 (Up.set_ne (by decide) h)⟩

theorem RvC.c1 {v : JV} {la ka va : Option Addr} {lc kc vc : Nat} {W0 : World} {listed : Array Bool} {w : World} {s6 s7 s8 s9 s10 s11 s12 s13 s14 s15 s2 : Value} (H : RvC v la lc ka kc va vc W0 listed w s6 s7 s8 s9 s10 s11 s12 s13 s14 s15 s2) (hun : listed.getD 1 true = false) {t : Value} {w2 : World} (hb : Below w.heap.size w w2) (ht : ∃ g, t = .slice (some ⟨g, 0, none⟩) 1 1 ∧ Blk w2 g 26 #[.int .i64 v.kind, .int .i64 v.half, .string v.text, .slice la v.list.length lc, .slice ka v.keys.length kc, .slice va v.vals.length vc]) : RvC v la lc ka kc va vc W0 (listed.setIfInBounds 1 true) w2 s6 t s8 s9 s10 s11 s12 s13 s14 s15 s2 :=
  ⟨(H.bel.trans (hb.mono H.bel.size)), by rw [Array.size_setIfInBounds]; exact H.sz, fun h => H.f0 (Up.set_ne (by decide) h), fun _ _ => ht, fun h => H.f2 (Up.set_ne (by decide) h), fun h => ⟨Up.more (H.f3 (Up.set_ne (by decide) h)).1, (H.f3 (Up.set_ne (by decide) h)).2⟩, fun h => ⟨Up.more (H.f4 (Up.set_ne (by decide) h)).1, (H.f4 (Up.set_ne (by decide) h)).2⟩, fun h => ⟨Up.more (H.f5 (Up.set_ne (by decide) h)).1, (H.f5 (Up.set_ne (by decide) h)).2⟩, fun h => ⟨Up.more (H.f6 (Up.set_ne (by decide) h)).1, fun e => ((H.f6 (Up.set_ne (by decide) h)).2 e).ext hb⟩, fun h => ⟨Up.more (H.f7 (Up.set_ne (by decide) h)).1, (H.f7 (Up.set_ne (by decide) h)).2⟩, fun h => ⟨Up.more (H.f8 (Up.set_ne (by decide) h)).1, (H.f8 (Up.set_ne (by decide) h)).2⟩, fun h => H.f9 (Up.set_ne (by decide) h), fun h => H.f10 (Up.set_ne (by decide) h)⟩

theorem RvC.c2 {v : JV} {la ka va : Option Addr} {lc kc vc : Nat} {W0 : World} {listed : Array Bool} {w : World} {s6 s7 s8 s9 s10 s11 s12 s13 s14 s15 s2 : Value} (H : RvC v la lc ka kc va vc W0 listed w s6 s7 s8 s9 s10 s11 s12 s13 s14 s15 s2) (hun : listed.getD 2 true = false) {t : Value} {w2 : World} (hb : Below w.heap.size w w2) (ht : ∃ b, t = .bool b ∧ (b = true → Gd v)) : RvC v la lc ka kc va vc W0 (listed.setIfInBounds 2 true) w2 s6 s7 t s9 s10 s11 s12 s13 s14 s15 s2 :=
  ⟨(H.bel.trans (hb.mono H.bel.size)), by rw [Array.size_setIfInBounds]; exact H.sz, fun h => H.f0 (Up.set_ne (by decide) h), fun _ hn => absurd (Up.self hun) hn, fun _ => ht, fun h => ⟨Up.more (H.f3 (Up.set_ne (by decide) h)).1, (H.f3 (Up.set_ne (by decide) h)).2⟩, fun h => ⟨Up.more (H.f4 (Up.set_ne (by decide) h)).1, (H.f4 (Up.set_ne (by decide) h)).2⟩, fun h => ⟨Up.more (H.f5 (Up.set_ne (by decide) h)).1, (H.f5 (Up.set_ne (by decide) h)).2⟩, fun h => ⟨Up.more (H.f6 (Up.set_ne (by decide) h)).1, fun e => ((H.f6 (Up.set_ne (by decide) h)).2 e).ext hb⟩, fun h => ⟨Up.more (H.f7 (Up.set_ne (by decide) h)).1, (H.f7 (Up.set_ne (by decide) h)).2⟩, fun h => ⟨Up.more (H.f8 (Up.set_ne (by decide) h)).1, (H.f8 (Up.set_ne (by decide) h)).2⟩, fun h => H.f9 (Up.set_ne (by decide) h), fun h => H.f10 (Up.set_ne (by decide) h)⟩

theorem RvC.c3 {v : JV} {la ka va : Option Addr} {lc kc vc : Nat} {W0 : World} {listed : Array Bool} {w : World} {s6 s7 s8 s9 s10 s11 s12 s13 s14 s15 s2 : Value} (H : RvC v la lc ka kc va vc W0 listed w s6 s7 s8 s9 s10 s11 s12 s13 s14 s15 s2) (hun : listed.getD 3 true = false) {t : Value} (h2 : Up listed 2) (ht : ∃ b, t = .bool b ∧ (b = false → Gd v)) : RvC v la lc ka kc va vc W0 (listed.setIfInBounds 3 true) w s6 s7 s8 t s10 s11 s12 s13 s14 s15 s2 :=
  ⟨H.bel, by rw [Array.size_setIfInBounds]; exact H.sz, fun h => H.f0 (Up.set_ne (by decide) h), fun h hn => H.f1 (Up.set_ne (by decide) h) (fun h' => hn (Up.more h')), fun h => H.f2 (Up.set_ne (by decide) h), fun _ => ⟨Up.more h2, ht⟩, fun h => ⟨Up.more (H.f4 (Up.set_ne (by decide) h)).1, (H.f4 (Up.set_ne (by decide) h)).2⟩, fun h => ⟨Up.more (H.f5 (Up.set_ne (by decide) h)).1, (H.f5 (Up.set_ne (by decide) h)).2⟩, fun h => ⟨Up.more (H.f6 (Up.set_ne (by decide) h)).1, (H.f6 (Up.set_ne (by decide) h)).2⟩, fun h => ⟨Up.more (H.f7 (Up.set_ne (by decide) h)).1, (H.f7 (Up.set_ne (by decide) h)).2⟩, fun h => ⟨Up.more (H.f8 (Up.set_ne (by decide) h)).1, (H.f8 (Up.set_ne (by decide) h)).2⟩, fun h => H.f9 (Up.set_ne (by decide) h), fun h => H.f10 (Up.set_ne (by decide) h)⟩

theorem RvC.c4 {v : JV} {la ka va : Option Addr} {lc kc vc : Nat} {W0 : World} {listed : Array Bool} {w : World} {s6 s7 s8 s9 s10 s11 s12 s13 s14 s15 s2 : Value} (H : RvC v la lc ka kc va vc W0 listed w s6 s7 s8 s9 s10 s11 s12 s13 s14 s15 s2) (hun : listed.getD 4 true = false) {t : Value} (h2 : Up listed 2) (ht : ∃ b, t = .bool b ∧ (b = false → Gd v)) : RvC v la lc ka kc va vc W0 (listed.setIfInBounds 4 true) w s6 s7 s8 s9 t s11 s12 s13 s14 s15 s2 :=
  ⟨H.bel, by rw [Array.size_setIfInBounds]; exact H.sz, fun h => H.f0 (Up.set_ne (by decide) h), fun h hn => H.f1 (Up.set_ne (by decide) h) (fun h' => hn (Up.more h')), fun h => H.f2 (Up.set_ne (by decide) h), fun h => ⟨Up.more (H.f3 (Up.set_ne (by decide) h)).1, (H.f3 (Up.set_ne (by decide) h)).2⟩, fun _ => ⟨Up.more h2, ht⟩, fun h => absurd (H.f5 (Up.set_ne (by decide) h)).1 (Up.no hun), fun h => absurd (H.f6 (Up.set_ne (by decide) h)).1 (Up.no hun), fun h => absurd (H.f7 (Up.set_ne (by decide) h)).1 (Up.no hun), fun h => absurd (H.f8 (Up.set_ne (by decide) h)).1 (Up.no hun), fun h => H.f9 (Up.set_ne (by decide) h), fun h => H.f10 (Up.set_ne (by decide) h)⟩

theorem RvC.c5 {v : JV} {la ka va : Option Addr} {lc kc vc : Nat} {W0 : World} {listed : Array Bool} {w : World} {s6 s7 s8 s9 s10 s11 s12 s13 s14 s15 s2 : Value} (H : RvC v la lc ka kc va vc W0 listed w s6 s7 s8 s9 s10 s11 s12 s13 s14 s15 s2) (hun : listed.getD 5 true = false) {t : Value} (h4 : Up listed 4) (ht : s10 = .bool false → t = (.agg #[.int .i64 v.kind, .int .i64 v.half, .string v.text, .slice la v.list.length lc, .slice ka v.keys.length kc, .slice va v.vals.length vc])) : RvC v la lc ka kc va vc W0 (listed.setIfInBounds 5 true) w s6 s7 s8 s9 s10 t s12 s13 s14 s15 s2 :=
  ⟨H.bel, by rw [Array.size_setIfInBounds]; exact H.sz, fun h => H.f0 (Up.set_ne (by decide) h), fun h hn => H.f1 (Up.set_ne (by decide) h) (fun h' => hn (Up.more h')), fun h => H.f2 (Up.set_ne (by decide) h), fun h => ⟨Up.more (H.f3 (Up.set_ne (by decide) h)).1, (H.f3 (Up.set_ne (by decide) h)).2⟩, fun h => ⟨Up.more (H.f4 (Up.set_ne (by decide) h)).1, (H.f4 (Up.set_ne (by decide) h)).2⟩, fun _ => ⟨Up.more h4, ht⟩, fun h => ⟨Up.more (H.f6 (Up.set_ne (by decide) h)).1, (H.f6 (Up.set_ne (by decide) h)).2⟩, fun h => ⟨Up.more (H.f7 (Up.set_ne (by decide) h)).1, (H.f7 (Up.set_ne (by decide) h)).2⟩, fun h => ⟨Up.more (H.f8 (Up.set_ne (by decide) h)).1, (H.f8 (Up.set_ne (by decide) h)).2⟩, fun h => H.f9 (Up.set_ne (by decide) h), fun h => H.f10 (Up.set_ne (by decide) h)⟩

theorem RvC.c6 {v : JV} {la ka va : Option Addr} {lc kc vc : Nat} {W0 : World} {listed : Array Bool} {w : World} {s6 s7 s8 s9 s10 s11 s12 s13 s14 s15 s2 : Value} (H : RvC v la lc ka kc va vc W0 listed w s6 s7 s8 s9 s10 s11 s12 s13 s14 s15 s2) (hun : listed.getD 6 true = false) {t : Value} {w2 : World} (hb : Below w.heap.size w w2) (h2 : Up listed 2) (h4 : Up listed 4) (ht : s10 = .bool false → DoorR 61 v w2 w2.heap.size t) : RvC v la lc ka kc va vc W0 (listed.setIfInBounds 6 true) w2 s6 s7 s8 s9 s10 s11 t s13 s14 s15 s2 :=
  ⟨(H.bel.trans (hb.mono H.bel.size)), by rw [Array.size_setIfInBounds]; exact H.sz, fun h => H.f0 (Up.set_ne (by decide) h), fun h hn => absurd (Up.more h2) hn, fun h => H.f2 (Up.set_ne (by decide) h), fun h => ⟨Up.more (H.f3 (Up.set_ne (by decide) h)).1, (H.f3 (Up.set_ne (by decide) h)).2⟩, fun h => ⟨Up.more (H.f4 (Up.set_ne (by decide) h)).1, (H.f4 (Up.set_ne (by decide) h)).2⟩, fun h => ⟨Up.more (H.f5 (Up.set_ne (by decide) h)).1, (H.f5 (Up.set_ne (by decide) h)).2⟩, fun _ => ⟨Up.more h4, ht⟩, fun h => ⟨Up.more (H.f7 (Up.set_ne (by decide) h)).1, (H.f7 (Up.set_ne (by decide) h)).2⟩, fun h => ⟨Up.more (H.f8 (Up.set_ne (by decide) h)).1, (H.f8 (Up.set_ne (by decide) h)).2⟩, fun h => H.f9 (Up.set_ne (by decide) h), fun h => H.f10 (Up.set_ne (by decide) h)⟩

theorem RvC.c7 {v : JV} {la ka va : Option Addr} {lc kc vc : Nat} {W0 : World} {listed : Array Bool} {w : World} {s6 s7 s8 s9 s10 s11 s12 s13 s14 s15 s2 : Value} (H : RvC v la lc ka kc va vc W0 listed w s6 s7 s8 s9 s10 s11 s12 s13 s14 s15 s2) (hun : listed.getD 7 true = false) {t : Value} (h4 : Up listed 4) (ht : s10 = .bool false → t = (.agg #[.int .i64 v.kind, .int .i64 v.half, .string v.text, .slice la v.list.length lc, .slice ka v.keys.length kc, .slice va v.vals.length vc])) : RvC v la lc ka kc va vc W0 (listed.setIfInBounds 7 true) w s6 s7 s8 s9 s10 s11 s12 t s14 s15 s2 :=
  ⟨H.bel, by rw [Array.size_setIfInBounds]; exact H.sz, fun h => H.f0 (Up.set_ne (by decide) h), fun h hn => H.f1 (Up.set_ne (by decide) h) (fun h' => hn (Up.more h')), fun h => H.f2 (Up.set_ne (by decide) h), fun h => ⟨Up.more (H.f3 (Up.set_ne (by decide) h)).1, (H.f3 (Up.set_ne (by decide) h)).2⟩, fun h => ⟨Up.more (H.f4 (Up.set_ne (by decide) h)).1, (H.f4 (Up.set_ne (by decide) h)).2⟩, fun h => ⟨Up.more (H.f5 (Up.set_ne (by decide) h)).1, (H.f5 (Up.set_ne (by decide) h)).2⟩, fun h => ⟨Up.more (H.f6 (Up.set_ne (by decide) h)).1, (H.f6 (Up.set_ne (by decide) h)).2⟩, fun _ => ⟨Up.more h4, ht⟩, fun h => ⟨Up.more (H.f8 (Up.set_ne (by decide) h)).1, (H.f8 (Up.set_ne (by decide) h)).2⟩, fun h => H.f9 (Up.set_ne (by decide) h), fun h => H.f10 (Up.set_ne (by decide) h)⟩

theorem RvC.c8 {v : JV} {la ka va : Option Addr} {lc kc vc : Nat} {W0 : World} {listed : Array Bool} {w : World} {s6 s7 s8 s9 s10 s11 s12 s13 s14 s15 s2 : Value} (H : RvC v la lc ka kc va vc W0 listed w s6 s7 s8 s9 s10 s11 s12 s13 s14 s15 s2) (hun : listed.getD 8 true = false) {t : Value} {w2 : World} (hb : Below w.heap.size w w2) (h2 : Up listed 2) (h4 : Up listed 4) (ht : s10 = .bool false → t = .bool true) : RvC v la lc ka kc va vc W0 (listed.setIfInBounds 8 true) w2 s6 s7 s8 s9 s10 s11 s12 s13 t s15 s2 :=
  ⟨(H.bel.trans (hb.mono H.bel.size)), by rw [Array.size_setIfInBounds]; exact H.sz, fun h => H.f0 (Up.set_ne (by decide) h), fun h hn => absurd (Up.more h2) hn, fun h => H.f2 (Up.set_ne (by decide) h), fun h => ⟨Up.more (H.f3 (Up.set_ne (by decide) h)).1, (H.f3 (Up.set_ne (by decide) h)).2⟩, fun h => ⟨Up.more (H.f4 (Up.set_ne (by decide) h)).1, (H.f4 (Up.set_ne (by decide) h)).2⟩, fun h => ⟨Up.more (H.f5 (Up.set_ne (by decide) h)).1, (H.f5 (Up.set_ne (by decide) h)).2⟩, fun h => ⟨Up.more (H.f6 (Up.set_ne (by decide) h)).1, fun e => ((H.f6 (Up.set_ne (by decide) h)).2 e).ext hb⟩, fun h => ⟨Up.more (H.f7 (Up.set_ne (by decide) h)).1, (H.f7 (Up.set_ne (by decide) h)).2⟩, fun _ => ⟨Up.more h4, ht⟩, fun h => H.f9 (Up.set_ne (by decide) h), fun h => H.f10 (Up.set_ne (by decide) h)⟩

theorem RvC.c9 {v : JV} {la ka va : Option Addr} {lc kc vc : Nat} {W0 : World} {listed : Array Bool} {w : World} {s6 s7 s8 s9 s10 s11 s12 s13 s14 s15 s2 : Value} (H : RvC v la lc ka kc va vc W0 listed w s6 s7 s8 s9 s10 s11 s12 s13 s14 s15 s2) (hun : listed.getD 9 true = false) {t : Value} (ht : t = .bool true) : RvC v la lc ka kc va vc W0 (listed.setIfInBounds 9 true) w s6 s7 s8 s9 s10 s11 s12 s13 s14 t s2 :=
  ⟨H.bel, by rw [Array.size_setIfInBounds]; exact H.sz, fun h => H.f0 (Up.set_ne (by decide) h), fun h hn => H.f1 (Up.set_ne (by decide) h) (fun h' => hn (Up.more h')), fun h => H.f2 (Up.set_ne (by decide) h), fun h => ⟨Up.more (H.f3 (Up.set_ne (by decide) h)).1, (H.f3 (Up.set_ne (by decide) h)).2⟩, fun h => ⟨Up.more (H.f4 (Up.set_ne (by decide) h)).1, (H.f4 (Up.set_ne (by decide) h)).2⟩, fun h => ⟨Up.more (H.f5 (Up.set_ne (by decide) h)).1, (H.f5 (Up.set_ne (by decide) h)).2⟩, fun h => ⟨Up.more (H.f6 (Up.set_ne (by decide) h)).1, (H.f6 (Up.set_ne (by decide) h)).2⟩, fun h => ⟨Up.more (H.f7 (Up.set_ne (by decide) h)).1, (H.f7 (Up.set_ne (by decide) h)).2⟩, fun h => ⟨Up.more (H.f8 (Up.set_ne (by decide) h)).1, (H.f8 (Up.set_ne (by decide) h)).2⟩, fun _ => ht, fun h => H.f10 (Up.set_ne (by decide) h)⟩

theorem RvC.c10 {v : JV} {la ka va : Option Addr} {lc kc vc : Nat} {W0 : World} {listed : Array Bool} {w : World} {s6 s7 s8 s9 s10 s11 s12 s13 s14 s15 s2 : Value} (H : RvC v la lc ka kc va vc W0 listed w s6 s7 s8 s9 s10 s11 s12 s13 s14 s15 s2) (hun : listed.getD 10 true = false) {t : Value} (ht : t = .bool true) : RvC v la lc ka kc va vc W0 (listed.setIfInBounds 10 true) w s6 s7 s8 s9 s10 s11 s12 s13 s14 s15 t :=
  ⟨H.bel, by rw [Array.size_setIfInBounds]; exact H.sz, fun h => H.f0 (Up.set_ne (by decide) h), fun h hn => H.f1 (Up.set_ne (by decide) h) (fun h' => hn (Up.more h')), fun h => H.f2 (Up.set_ne (by decide) h), fun h => ⟨Up.more (H.f3 (Up.set_ne (by decide) h)).1, (H.f3 (Up.set_ne (by decide) h)).2⟩, fun h => ⟨Up.more (H.f4 (Up.set_ne (by decide) h)).1, (H.f4 (Up.set_ne (by decide) h)).2⟩, fun h => ⟨Up.more (H.f5 (Up.set_ne (by decide) h)).1, (H.f5 (Up.set_ne (by decide) h)).2⟩, fun h => ⟨Up.more (H.f6 (Up.set_ne (by decide) h)).1, (H.f6 (Up.set_ne (by decide) h)).2⟩, fun h => ⟨Up.more (H.f7 (Up.set_ne (by decide) h)).1, (H.f7 (Up.set_ne (by decide) h)).2⟩, fun h => ⟨Up.more (H.f8 (Up.set_ne (by decide) h)).1, (H.f8 (Up.set_ne (by decide) h)).2⟩, fun h => H.f9 (Up.set_ne (by decide) h), fun _ => ht⟩

set_option maxHeartbeats 4000000 in
set_option maxRecDepth 100000 in
theorem lawFormatCSV_any (w : World) (B : Nat) (x : Value) (v : JV) (hx : JAt w B 62 x v) (hli : Light 62 v) (hT : Tabs w B) (hB : B ≤ w.heap.size) :
    Calls Tryz.prog 5 #[x] w fun e w' => e = .returned (.bool true) ∧ Below w.heap.size w w' := by
  have hx' := hide hx
  obtain ⟨la, lc, ka, kc, va, vc, rfl, -, -, -, -, -, -, htx, -⟩ := hx
  obtain ⟨W, hW⟩ : ∃ W, W = w.alloc (.cells #[.int .i64 v.kind, .int .i64 v.half, .string v.text, .slice la v.list.length lc, .slice ka v.keys.length kc, .slice va v.vals.length vc] 26) := ⟨_, rfl⟩
  have bW : Below w.heap.size w W := by rw [hW]; exact Below.alloc (Below.refl _ _) (Nat.le_refl _) _
  have kW : Blk W w.heap.size 26 #[.int .i64 v.kind, .int .i64 v.half, .string v.text, .slice la v.list.length lc, .slice ka v.keys.length kc, .slice va v.vals.length vc] := by rw [hW]; exact Blk.new w _ _
  have hB1 : B ≤ w.heap.size + 1 := by omega
  have hxW : JAt W (w.heap.size + 1) 62 _ v := JAt.keep (fun p hp => bW.cell (by omega)) hB1 62 _ _ hx'.out
  have hTW : Tabs W (w.heap.size + 1) := (hT.keep (fun p hp => bW.cell (by omega))).more hB1
  have hlt := kW.lt
  have kx : ∀ W', Below W.heap.size W W' → JAt W' (w.heap.size + 1) 62 (.agg #[.int .i64 v.kind, .int .i64 v.half, .string v.text, .slice la v.list.length lc, .slice ka v.keys.length kc, .slice va v.vals.length vc]) v := fun W' h => JAt.keep (fun p hp => h.cell (by omega)) (Nat.le_refl _) 62 _ _ hxW
  have kT : ∀ W', Below W.heap.size W W' → Tabs W' (w.heap.size + 1) := fun W' h => hTW.keep (fun p hp => h.cell (by omega))
  have kk : ∀ W', Below W.heap.size W W' → Blk W' w.heap.size 26 #[.int .i64 v.kind, .int .i64 v.half, .string v.text, .slice la v.list.length lc, .slice ka v.keys.length kc, .slice va v.vals.length vc] := fun W' h => kW.below h hlt
  clear hx' hT hTW
  replace kx := hide kx
  replace kT := hide kT
  replace kk := hide kk
  replace bW := hide bW
  replace hxW := hide hxW
  replace hli := hide hli
  obtain ⟨q0, q1, q2, q3, q4, q5⟩ := blk_six kW
  replace kW := hide kW
  go_enter Tryz.func5, Tryz.ntmps5
  go_upto_region 1 with fail
  rw [← hW]
  clear hW
  go_wp2_with fail
  refine (zzfits_any W (w.heap.size + 1) 61 _ v hlt hxW.out).mono ?_
  rintro e W1 ⟨b, rfl, b1⟩
  cases b
  · replace b1 := hide b1
    go_wp2_with fail
    go_ret
    exact ⟨rfl, bW.out.trans (b1.out.mono bW.out.size)⟩
  obtain ⟨q0, q1, q2, q3, q4, q5⟩ := blk_six (kk.out W1 b1)
  have hW1l := (kk.out W1 b1).lt
  have hs1 := b1.size
  -- fine, at the row of one
  have hf : Hid (∀ (W2 : World) (g : Nat), Below W.heap.size W W2 → Blk W2 g 26 #[.int .i64 v.kind, .int .i64 v.half, .string v.text, .slice la v.list.length lc, .slice ka v.keys.length kc, .slice va v.vals.length vc] →
      Calls Tryz.prog 7 #[.slice (some ⟨g, 0, none⟩) 1 1] W2 fun e w' => ∃ b, e = .returned (.bool b) ∧ Below W2.heap.size W2 w' ∧ (b = true → Gd v)) := hide fun W2 g b2 k2 => by
    refine (fine_any W2 W2.heap.size (some ⟨g, 0, none⟩) 1 [v] ((kT.out W2 b2).more (by have := b2.size; omega)) (Nat.le_refl _) (by simp) (by omega) (one_row k2 k2.lt (JAt.keep (fun p hp => rfl) (by have := b2.size; omega) 62 _ _ (kx.out W2 b2))) (by intro x hx; simp at hx; subst hx; exact hli.out)).mono ?_
    rintro e w' ⟨b, rfl, hb, hg⟩
    exact ⟨b, rfl, hb, fun hb => by have := hg hb v (by simp); exact ⟨this.1.1, this.1.2.2⟩⟩
  have hd : Hid (∀ W3 : World, Below W.heap.size W W3 → Gd v → Calls Tryz.prog 16 #[.agg #[.int .i64 v.kind, .int .i64 v.half, .string v.text, .slice la v.list.length lc, .slice ka v.keys.length kc, .slice va v.vals.length vc]] W3 fun e w' => DoorSays 61 v W3 w' e) := hide fun W3 b3 hgb => by
    have he := elems_of (n := 61) hgb.1 hgb.2
    exact doorCSV_any 60 W3 (w.heap.size + 1) _ v (kx.out W3 b3) hgb.1 he.1 (fun y hy => (he.2 y hy).1) (by have := b3.size; omega)
  have hm : Hid (∀ (W3 W4 : World) (r : Value), Below W.heap.size W W3 → Gd v → DoorR 61 v W3 W3.heap.size r → (∀ p : Addr, p.block < W3.heap.size → W4.cell? p = W3.cell? p) → W3.heap.size ≤ W4.heap.size →
      Calls Tryz.prog 17 #[r, .string ⟨#[99, 115, 118]⟩, .agg #[.int .i64 v.kind, .int .i64 v.half, .string v.text, .slice la v.list.length lc, .slice ka v.keys.length kc, .slice va v.vals.length vc]] W4 fun e w' => e = .returned (.bool true) ∧ Below W4.heap.size W4 w') := hide fun W3 W4 r b3 hgb hr hk hs => by
    have he := elems_of (n := 61) hgb.1 hgb.2
    refine formatted_any 60 W4 W3.heap.size r _ v ?_ (JAt.keep hk (Nat.le_refl _) 62 _ _ (JAt.keep (fun p hp => rfl) (by have := b3.size; omega) 62 _ _ (kx.out W3 b3))) hgb.1 he.1 he.2 hs
    rcases hr with ⟨h1, h2⟩ | ⟨h1, h2⟩
    · exact Or.inl ⟨h1, h2.keep hk (Nat.le_refl _)⟩
    · exact Or.inr ⟨h1, h2.keep hk (Nat.le_refl _)⟩
  replace b1 := hide b1
  go_upto_region 3 with fail
  refine wp_region_inv (by kernel_rfl) (fun listed a w' => ∃ s6 s7 s8 s9 s10 s11 s12 s13 s14 s15 s2, a = (⟨#[(.agg #[.int .i64 v.kind, .int .i64 v.half, .string v.text, .slice la v.list.length lc, .slice ka v.keys.length kc, .slice va v.vals.length vc]), .pointer (some ⟨w.heap.size, 0, none⟩), s2, (.agg #[.int .i64 v.kind, .int .i64 v.half, .string v.text, .slice la v.list.length lc, .slice ka v.keys.length kc, .slice va v.vals.length vc]), .bool true, .bool false, s6, s7, s8, s9, s10, s11, s12, s13, s14, s15], []⟩ : Act) ∧ RvC v la lc ka kc va vc W1 listed w' s6 s7 s8 s9 s10 s11 s12 s13 s14 s15 s2) ?_ ?_ ?_
  · exact ⟨_, _, _, _, _, _, _, _, _, _, _, rfl, RvC.start v la lc ka kc va vc ((Below.refl _ _).drew) _ _ _ _ _ _ _ _ _ _ _⟩
  · rintro listed a w' i ⟨s6, s7, s8, s9, s10, s11, s12, s13, s14, s15, s2, rfl, H⟩ hi
    have hun := Up.un hi
    have hlt11 : i < 11 := by
      obtain ⟨-, o, ho, -⟩ := mem_ready.1 hi
      rcases Nat.lt_or_ge i 11 with h | h
      · exact h
      · rw [Array.getElem?_eq_none (by exact h)] at ho
        cases ho
    have hbw := b1.out.trans (H.bel.mono b1.out.size)
    obtain ⟨q0, q1, q2, q3, q4, q5⟩ := blk_six (kk.out w' hbw)
    have hsz := H.bel.size
    replace hbw := hide hbw
    have hi11 : i = 0 ∨ i = 1 ∨ i = 2 ∨ i = 3 ∨ i = 4 ∨ i = 5 ∨ i = 6 ∨ i = 7 ∨ i = 8 ∨ i = 9 ∨ i = 10 := by omega
    rcases hi11 with rfl | rfl | rfl | rfl | rfl | rfl | rfl | rfl | rfl | rfl | rfl
    · replace H := hide H
      replace hi := hide hi
      replace hun := hide hun
      refine wpOp_of_list rfl ?_
      go_wp2_with fail
      refine Then.normal ⟨_, _, _, _, _, _, _, _, _, _, _, rfl, H.out.c0 hun.out rfl⟩
    · obtain rfl := H.f0 (Up.waits hi 0 (by kernel_rfl))
      replace H := hide H
      replace hi := hide hi
      replace hun := hide hun
      refine wpOp_of_list rfl ?_
      go_wp2_with fail
      refine Then.normal ⟨_, _, _, _, _, _, _, _, _, _, _, rfl, H.out.c1 hun.out (Below.alloc (Below.refl _ _) (Nat.le_refl _) _) ⟨_, rfl, Blk.new _ _ _⟩⟩
    · obtain ⟨g, rfl, hgk⟩ := H.f1 (Up.waits hi 1 (by kernel_rfl)) (Up.no hun)
      have hfc := hide (hf.out w' g hbw.out hgk)
      replace hgk := hide hgk
      replace H := hide H
      replace hi := hide hi
      replace hun := hide hun
      refine wpOp_of_list rfl ?_
      go_wp2_with (go_at_call 7; refine hfc.out.mono ?_; rintro e w2 ⟨b, rfl, hb, hgd⟩; replace hb := hide hb; replace hgd := hide hgd)
      refine Then.normal ⟨_, _, _, _, _, _, _, _, _, _, _, rfl, H.out.c2 hun.out hb.out ⟨_, rfl, hgd.out⟩⟩
    · have h2 := hide (Up.waits hi 2 (by kernel_rfl))
      obtain ⟨b, rfl, hgd⟩ := H.f2 h2.out
      replace hgd := hide hgd
      replace H := hide H
      replace hi := hide hi
      replace hun := hide hun
      refine wpOp_of_list rfl ?_
      go_wp2_with fail
      refine Then.normal ⟨_, _, _, _, _, _, _, _, _, _, _, rfl, H.out.c3 hun.out h2.out ⟨_, rfl, fun h => hgd.out (by cases b <;> simp at h ⊢)⟩⟩
    · obtain ⟨h2, b, rfl, hgd⟩ := H.f3 (Up.waits hi 3 (by kernel_rfl))
      replace h2 := hide h2
      replace hgd := hide hgd
      replace H := hide H
      replace hi := hide hi
      replace hun := hide hun
      refine wpOp_of_list rfl ?_
      go_wp2_with fail
      refine Then.normal ⟨_, _, _, _, _, _, _, _, _, _, _, rfl, H.out.c4 hun.out h2.out ⟨_, rfl, hgd.out⟩⟩
    · have h4 := hide (Up.waits hi 4 (by kernel_rfl))
      obtain ⟨h2, b, rfl, hgd⟩ := H.f4 h4.out
      replace h2 := hide h2
      cases b
      · have hgd := hide (hgd rfl)
        replace H := hide H
        replace hi := hide hi
        replace hun := hide hun
        refine wpOp_of_list rfl ?_
        go_wp2_with fail
        refine Then.normal ⟨_, _, _, _, _, _, _, _, _, _, _, rfl, H.out.c5 hun.out h4.out (fun _ => rfl)⟩
      · clear hgd
        replace H := hide H
        replace hi := hide hi
        replace hun := hide hun
        refine wpOp_of_list rfl ?_
        go_wp2_with fail
        refine Then.normal ⟨_, _, _, _, _, _, _, _, _, _, _, rfl, H.out.c5 hun.out h4.out (fun e => by cases e)⟩
    · have h4 := hide (Up.waits hi 4 (by kernel_rfl))
      obtain ⟨h2, b, rfl, hgd⟩ := H.f4 h4.out
      replace h2 := hide h2
      cases b
      · have hgd := hide (hgd rfl)
        obtain rfl := (H.f5 (Up.waits hi 5 (by kernel_rfl))).2 rfl
        have hdc := hide (hd.out w' hbw.out hgd.out)
        replace H := hide H
        replace hi := hide hi
        replace hun := hide hun
        refine wpOp_of_list rfl ?_
        go_wp2_with (go_at_call 16; refine hdc.out.mono ?_; rintro e w2 ⟨r, rfl, hb, hr⟩; replace hb := hide hb; replace hr := hide hr)
        refine Then.normal ⟨_, _, _, _, _, _, _, _, _, _, _, rfl, H.out.c6 hun.out hb.out h2.out h4.out (fun _ => hr.out)⟩
      · clear hgd
        replace H := hide H
        replace hi := hide hi
        replace hun := hide hun
        refine wpOp_of_list rfl ?_
        go_wp2_with fail
        refine Then.normal ⟨_, _, _, _, _, _, _, _, _, _, _, rfl, H.out.c6 hun.out (Below.refl _ _) h2.out h4.out (fun e => by cases e)⟩
    · have h4 := hide (Up.waits hi 4 (by kernel_rfl))
      obtain ⟨h2, b, rfl, hgd⟩ := H.f4 h4.out
      replace h2 := hide h2
      cases b
      · have hgd := hide (hgd rfl)
        replace H := hide H
        replace hi := hide hi
        replace hun := hide hun
        refine wpOp_of_list rfl ?_
        go_wp2_with fail
        refine Then.normal ⟨_, _, _, _, _, _, _, _, _, _, _, rfl, H.out.c7 hun.out h4.out (fun _ => rfl)⟩
      · clear hgd
        replace H := hide H
        replace hi := hide hi
        replace hun := hide hun
        refine wpOp_of_list rfl ?_
        go_wp2_with fail
        refine Then.normal ⟨_, _, _, _, _, _, _, _, _, _, _, rfl, H.out.c7 hun.out h4.out (fun e => by cases e)⟩
    · have h4 := hide (Up.waits hi 4 (by kernel_rfl))
      obtain ⟨h2, b, rfl, hgd⟩ := H.f4 h4.out
      replace h2 := hide h2
      cases b
      · have hgd := hide (hgd rfl)
        obtain rfl := (H.f7 (Up.waits hi 7 (by kernel_rfl))).2 rfl
        have hr := (H.f6 (Up.waits hi 6 (by kernel_rfl))).2 rfl
        have hmc := hide (hm.out w' w' _ hbw.out hgd.out hr (fun _ _ => rfl) (Nat.le_refl _))
        replace hr := hide hr
        replace H := hide H
        replace hi := hide hi
        replace hun := hide hun
        refine wpOp_of_list rfl ?_
        go_wp2_with (go_at_call 17; refine hmc.out.mono ?_; rintro e w2 ⟨rfl, hb⟩; replace hb := hide hb)
        refine Then.normal ⟨_, _, _, _, _, _, _, _, _, _, _, rfl, H.out.c8 hun.out hb.out h2.out h4.out (fun _ => rfl)⟩
      · clear hgd
        replace H := hide H
        replace hi := hide hi
        replace hun := hide hun
        refine wpOp_of_list rfl ?_
        go_wp2_with fail
        refine Then.normal ⟨_, _, _, _, _, _, _, _, _, _, _, rfl, H.out.c8 hun.out (Below.refl _ _) h2.out h4.out (fun e => by cases e)⟩
    · have h4 := Up.waits hi 4 (by kernel_rfl)
      obtain ⟨h2, b, rfl, hgd⟩ := H.f4 h4
      replace hgd := hide hgd
      replace h2 := hide h2
      replace h4 := hide h4
      cases b
      · obtain rfl := (H.f8 (Up.waits hi 8 (by kernel_rfl))).2 rfl
        replace H := hide H
        replace hi := hide hi
        replace hun := hide hun
        refine wpOp_of_list rfl ?_
        go_wp2_with fail
        refine Then.normal ⟨_, _, _, _, _, _, _, _, _, _, _, rfl, H.out.c9 hun.out rfl⟩
      · replace H := hide H
        replace hi := hide hi
        replace hun := hide hun
        refine wpOp_of_list rfl ?_
        go_wp2_with fail
        refine Then.normal ⟨_, _, _, _, _, _, _, _, _, _, _, rfl, H.out.c9 hun.out rfl⟩
    · obtain rfl := H.f9 (Up.waits hi 9 (by kernel_rfl))
      replace H := hide H
      replace hi := hide hi
      replace hun := hide hun
      refine wpOp_of_list rfl ?_
      go_wp2_with fail
      refine Then.normal ⟨_, _, _, _, _, _, _, _, _, _, _, rfl, H.out.c10 hun.out rfl⟩
  · rintro listed a w' ⟨s6, s7, s8, s9, s10, s11, s12, s13, s14, s15, s2, rfl, H⟩ hr
    have hs : listed.size = 11 := H.sz
    obtain rfl := H.f10 (Up.all hs (by kernel_rfl) hr 10 (by decide))
    have hb := hide (bW.out.trans ((b1.out.trans (H.bel.mono b1.out.size)).mono bW.out.size))
    clear H
    go_wp2
    go_ret
    exact ⟨rfl, hb.out⟩
end Go.Proofs.YtbnbemacljjimaaGreatDoor
