/- The law of @csv. -/
import Derived.Test.YtbnbemacljjimaaGreatDoorSpcE
import Derived.Test.YtbnbemacljjimaaGreatDoorValA
namespace Go.Proofs.YtbnbemacljjimaaGreatDoor
open Go.RowKit Go.Lib
set_option linter.unusedVariables false

set_option maxHeartbeats 1000000 in
set_option maxRecDepth 100000 in
theorem toldV_silent (w : World) (a0 a1 a2 a3 a4 a5 a6 c0 c1 c2 c3 c4 c5 : Value) :
    Calls Tryz.prog 40 #[.agg #[a0, a1, a2, a3, a4, a5, a6], .agg #[c0, c1, c2, c3, c4, c5], .int .i64 2] w fun e w' => e = .returned (.bool true) ∧ Below w.heap.size w w' := by
  go_enter Tryz.func40, Tryz.ntmps40
  go_wp2
  go_ret
  exact ⟨rfl, Below.alloc (Below.alloc (Below.refl _ _) (Nat.le_refl _) _) (by simp) _⟩

set_option maxHeartbeats 1000000 in
theorem specStr_any (w : World) (s : ByteArray) :
    Calls Tryz.prog 32 #[.string s] w fun e w' => e = .returned (.agg #[.int .i64 4, .int .i64 0, .string s, .slice none 0 0, .slice none 0 0, .slice none 0 0]) ∧ Below w.heap.size w w' := by
  go_enter Tryz.func32, Tryz.ntmps32
  go_wp2
  exact bodyPost_ret (v := .agg #[.int .i64 4, .int .i64 0, .string s, .slice none 0 0, .slice none 0 0, .slice none 0 0]) (by simp [results, Tryz.results32, go_sem]) rfl ⟨rfl, (Below.refl _ _).alloc (Nat.le_refl _) _⟩

theorem rowT_size (xs : List JV) (hl : xs.length ≤ 400) (he : ∀ y ∈ xs, Elem y) : (rowT xs).size ≤ 9223372036854775807 := by
  have h1 := row_len xs he
  show (Lib.join ((xs.map fld).map (·.data.toList)) [44]).toArray.size ≤ _
  rw [List.size_toArray]
  omega

/-- What the door's answer is. -/
def DoorR (n : Nat) (v : JV) (w : World) (B : Nat) (r : Value) : Prop := (CsvOk v ∧ ResAt w B n r (strJ (rowT v.list)) 0) ∨ (¬ CsvOk v ∧ ResAt w B n r zeroJ 1)

theorem DoorR.form {n : Nat} {v : JV} {w : World} {B : Nat} {r : Value} (h : DoorR n v w B r) : ∃ a0 a1 a2 a3 a4 a5 a6, r = .agg #[a0, a1, a2, a3, a4, a5, a6] := by
  rcases h with ⟨-, c0, c1, c2, c3, c4, c5, rfl, -⟩ | ⟨-, c0, c1, c2, c3, c4, c5, rfl, -⟩
  · exact ⟨_, _, _, _, _, _, _, rfl⟩
  · exact ⟨_, _, _, _, _, _, _, rfl⟩

theorem told_door {n : Nat} {v : JV} {w : World} {B : Nat} {r : Value} (h : DoorR n v w B r) (hl : v.list.length ≤ 400) (he : ∀ y ∈ v.list, Elem y) {s : ByteArray} {how : Int} (hs : (how = 0 ∧ CsvOk v ∧ s = rowT v.list) ∨ (how = 1 ∧ ¬ CsvOk v) ∨ how = 2) (W : World) (hk : ∀ p : Addr, p.block < B → W.cell? p = w.cell? p) (hB : B ≤ W.heap.size) :
    Calls Tryz.prog 40 #[r, .agg #[.int .i64 4, .int .i64 0, .string s, .slice none 0 0, .slice none 0 0, .slice none 0 0], .int .i64 how] W fun e w' => e = .returned (.bool true) ∧ Below W.heap.size W w' := by
  rcases hs with ⟨rfl, hok, rfl⟩ | ⟨rfl, hbad⟩ | rfl
  · rcases h with ⟨-, hr⟩ | ⟨hn, -⟩
    · exact toldV_same n W B r _ (strJ (rowT v.list)) (hr.keep hk (Nat.le_refl _)) (str_jat W B n _ (rowT_size _ hl he)) (str_say n _ (rowT_size _ hl he)) hB
    · exact absurd hok hn
  · rcases h with ⟨hok, -⟩ | ⟨-, hr⟩
    · exact absurd hok hbad
    · exact toldV_raise n W B r zeroJ _ _ _ _ _ _ (hr.keep hk (Nat.le_refl _))
  · obtain ⟨a0, a1, a2, a3, a4, a5, a6, rfl⟩ := h.form
    exact toldV_silent W _ _ _ _ _ _ _ _ _ _ _ _ _

set_option maxHeartbeats 4000000 in
set_option maxRecDepth 100000 in
theorem formatted_any (n : Nat) (w : World) (B : Nat) (r x : Value) (v : JV) (hr : DoorR (n + 1) v w B r) (hx : JAt w B (n + 2) x v) (hg : Good (n + 2) v) (hl : v.list.length ≤ 400) (he : ∀ y ∈ v.list, Elem y ∧ 0 ≤ y.kind ∧ y.kind ≤ 6) (hB : B ≤ w.heap.size) :
    Calls Tryz.prog 17 #[r, .string ⟨#[99, 115, 118]⟩, x] w fun e w' => e = .returned (.bool true) ∧ Below w.heap.size w w' := by
  have hx' := hide hx
  have hr' := hide hr
  obtain ⟨a0, a1, a2, a3, a4, a5, a6, rfl⟩ := hr.form
  obtain ⟨la, lc, ka, kc, va, vc, rfl, -⟩ := hx
  clear hr
  obtain ⟨W0, hW0⟩ : ∃ W0, W0 = w.alloc (.cells #[a0, a1, a2, a3, a4, a5, a6] 35) := ⟨_, rfl⟩
  have b0 : Below w.heap.size w W0 := by rw [hW0]; exact (Below.refl _ _).alloc (Nat.le_refl _) _
  have k0 := Blk.new w 35 #[a0, a1, a2, a3, a4, a5, a6]
  rw [← hW0] at k0
  have s0 : W0.heap.size = w.heap.size + 1 := by rw [hW0]; simp
  obtain ⟨W, hW⟩ : ∃ W, W = W0.alloc (.cells #[.int .i64 v.kind, .int .i64 v.half, .string v.text, .slice la v.list.length lc, .slice ka v.keys.length kc, .slice va v.vals.length vc] 26) := ⟨_, rfl⟩
  have bW : Below w.heap.size w W := by rw [hW]; exact b0.alloc b0.size _
  have kW := Blk.new W0 26 #[.int .i64 v.kind, .int .i64 v.half, .string v.text, .slice la v.list.length lc, .slice ka v.keys.length kc, .slice va v.vals.length vc]
  rw [← hW, s0] at kW
  have k0W : Blk W w.heap.size 35 #[a0, a1, a2, a3, a4, a5, a6] := by rw [hW]; exact k0.alloc _
  have hxk : ∀ W', Below W.heap.size W W' → JAt W' B (n + 2) (.agg #[.int .i64 v.kind, .int .i64 v.half, .string v.text, .slice la v.list.length lc, .slice ka v.keys.length kc, .slice va v.vals.length vc]) v := fun W' h => JAt.keep (fun p hp => (h.cell (by have := bW.size; omega)).trans (bW.cell (by omega))) (Nat.le_refl _) (n + 2) _ _ hx'.out
  have hf := hide (format_any n W B _ v (hxk W (Below.refl _ _)) hl he (Nat.le_trans hB bW.size))
  obtain ⟨q0, q1, q2, q3, q4, q5⟩ := blk_six kW
  have hkl := kW.lt
  have hkl0 := k0W.lt
  rw [hW0] at hW
  clear hW0 k0 b0
  replace bW := hide bW
  replace kW := hide kW
  replace k0W := hide k0W
  replace hxk := hide hxk
  replace he := hide he
  replace hg := hide hg
  replace s0 := hide s0
  go_enter Tryz.func17, Tryz.ntmps17
  go_upto_region 1 with fail
  rw [← hW]
  clear hW
  go_wp2_with fail
  refine hf.out.mono ?_
  rintro e W1 ⟨⟨s, how, rfl, hs⟩, b1⟩
  have k1 := kW.out.below b1 hkl
  have k01 := k0W.out.below b1 hkl0
  have hb1 := hide (bW.out.trans (b1.mono bW.out.size))
  have hsz1 := b1.size
  have hctl := hide (control_any (n + 2) W1 B _ v (hxk.out W1 b1) hg.out (by have := bW.out.size; omega))
  have htd := hide (fun (W' : World) (h : Below W1.heap.size W1 W') => told_door hr'.out hl (fun y hy => (he.out y hy).1) hs W' (fun p hp => ((h.cell (by have := hb1.out.size; omega)).trans (hb1.out.cell (by omega)))) (by have := hb1.out.size; have := h.size; omega))
  obtain ⟨q0, q1, q2, q3, q4, q5⟩ := blk_six k1
  have hk1l := k1.lt
  have hk01l := k01.lt
  replace k1 := hide k1
  replace k01 := hide k01
  replace b1 := hide b1
  replace hs := hide hs
  go_upto_region 2 with fail
  go_cut [33] from 15 to 33 (fun s33 wc => s33 = .bool false ∧ Below W1.heap.size W1 wc)
  case first =>
    by_cases hk4 : v.kind = 4
    · rw [hk4] at q0
      go_wp2_with fail
      go_meet
      exact ⟨rfl, Below.refl _ _⟩
    · have hkb : ((v.kind : Int) != 4) = true := by simp; exact hk4
      replace hk4 := hide hk4
      go_wp2_with (go_at_call 14; refine hctl.out.mono ?_; rintro e W2 ⟨⟨b, rfl⟩, b2⟩; replace b2 := hide b2)
      all_goals go_meet
      all_goals exact ⟨rfl, b2.out⟩
  case rest =>
    obtain ⟨rfl, hbc⟩ := hcut
    have kc := k01.out.below hbc hk01l
    have hcl := kc.lt
    obtain ⟨r0, r1, r2, r3, r4, r5, r6⟩ := blk_seven kc
    replace kc := hide kc
    have hbc' := hide hbc
    clear hbc q0 q1 q2 q3 q4 q5
    go_upto_region 4 with fail
    go_region_held3 (fun w' => w'.cell? ⟨w.heap.size, 0, none⟩ = some a0 ∧ w'.cell? ⟨w.heap.size, 1, none⟩ = some a1 ∧ w'.cell? ⟨w.heap.size, 2, none⟩ = some a2 ∧ w'.cell? ⟨w.heap.size, 3, none⟩ = some a3 ∧ w'.cell? ⟨w.heap.size, 4, none⟩ = some a4 ∧ w'.cell? ⟨w.heap.size, 5, none⟩ = some a5 ∧ w'.cell? ⟨w.heap.size, 6, none⟩ = some a6) (first | exact ⟨r0, r1, r2, r3, r4, r5, r6⟩ | exact ⟨z0, z1, z2, z3, z4, z5, z6⟩ | exact ⟨y0, y1, y2, y3, y4, y5, y6⟩) (first
      | (go_at_call 32; refine (specStr_any _ s).mono ?_; rintro e X1 ⟨rfl, c1⟩; obtain ⟨z0, z1, z2, z3, z4, z5, z6⟩ := blk_seven (kc.out.below (below_undrew c1) hcl); have c1' := hide (hbc'.out.trans ((below_undrew c1).mono hbc'.out.size)); have kz := hide (kc.out.below (below_undrew c1) hcl); clear c1)
      | (go_at_call 40; refine (htd.out _ c1'.out).mono ?_; rintro e X2 ⟨rfl, c2⟩; obtain ⟨y0, y1, y2, y3, y4, y5, y6⟩ := blk_seven (kz.out.below c2 kz.out.lt); have c2' := hide (c1'.out.trans (c2.mono c1'.out.size)); clear c2))
    go_wp2
    go_ret
    exact ⟨rfl, hb1.out.trans (c2'.out.mono hb1.out.size)⟩
end Go.Proofs.YtbnbemacljjimaaGreatDoor
