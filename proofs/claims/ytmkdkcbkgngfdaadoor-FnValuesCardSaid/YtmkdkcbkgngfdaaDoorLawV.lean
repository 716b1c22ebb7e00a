/- The law of Values, walked. -/
import Derived.Test.YtmkdkcbkgngfdaaDoorValS
import Derived.Test.YtmkdkcbkgngfdaaDoorLawB
namespace Go.Proofs.YtmkdkcbkgngfdaaDoor
open Go.RowKit
set_option linter.unusedVariables false

theorem list_jat {w : World} {B n : Nat} {A : Option Addr} {c : Nat} {l : List JV} (h : VecAt (JAt w B n) w B A l) (hc : l.length ≤ c) (hm : c ≤ 9223372036854775807) :
    JAt w B (n + 1) (.agg #[.int .i64 5, .int .i64 0, .string ⟨#[]⟩, .slice A l.length c, .slice none 0 0, .slice none 0 0]) (listJ l) :=
  ⟨A, c, none, 0, none, 0, rfl, hc, Nat.zero_le _, Nat.zero_le _, hm, by decide, by decide, by show (⟨#[]⟩ : ByteArray).size ≤ 9223372036854775807; decide, by show (-9223372036854775808 : Int) ≤ 5 ∧ (5 : Int) ≤ 9223372036854775807; decide, by show (-9223372036854775808 : Int) ≤ 0 ∧ (0 : Int) ≤ 9223372036854775807; decide,
    h, ⟨fun s hs => absurd hs List.not_mem_nil, fun h => absurd h (by show ¬ 0 < 0; omega)⟩, fun h => absurd h (by show ¬ 0 < 0; omega)⟩

set_option maxHeartbeats 4000000 in
set_option maxRecDepth 100000 in
theorem lawValues_any (w : World) (B : Nat) (x : Value) (v : JV) (hx : JAt w B 62 x v) (hT : Tabs w B) (hB : B ≤ w.heap.size) :
    Calls Tryd.prog 5 #[x] w fun e w' => e = .returned (.bool true) ∧ Below w.heap.size w w' := by
  have hx' := hide hx
  obtain ⟨la, lc, ka, kc, va, vc, rfl, g1, g2, g3, g4, g5, g6, -⟩ := hx
  obtain ⟨W, hW⟩ : ∃ W, W = w.alloc (.cells #[.int .i64 v.kind, .int .i64 v.half, .string v.text, .slice la v.list.length lc, .slice ka v.keys.length kc, .slice va v.vals.length vc] 26) := ⟨_, rfl⟩
  have bW : Below w.heap.size w W := by rw [hW]; exact Below.alloc (Below.refl _ _) (Nat.le_refl _) _
  have kW : Blk W w.heap.size 26 #[.int .i64 v.kind, .int .i64 v.half, .string v.text, .slice la v.list.length lc, .slice ka v.keys.length kc, .slice va v.vals.length vc] := by rw [hW]; exact Blk.new w _ _
  have hB1 : B ≤ w.heap.size + 1 := by omega
  have hxW : JAt W (w.heap.size + 1) 62 _ v := JAt.keep (fun p hp => bW.cell (by omega)) hB1 62 _ _ hx'.out
  have hTW : Tabs W (w.heap.size + 1) := (hT.keep (fun p hp => bW.cell (by omega))).more hB1
  have hlt := kW.lt
  have kx : ∀ W', Below W.heap.size W W' → JAt W' (w.heap.size + 1) 62 (.agg #[.int .i64 v.kind, .int .i64 v.half, .string v.text, .slice la v.list.length lc, .slice ka v.keys.length kc, .slice va v.vals.length vc]) v := fun W' h => JAt.keep (fun p hp => h.cell (by omega)) (Nat.le_refl _) 62 _ _ hxW
  have kT : ∀ W', Below W.heap.size W W' → Tabs W' (w.heap.size + 1) := fun W' h => hTW.keep (fun p hp => h.cell (by omega))
  have kk : ∀ W', Below W.heap.size W W' → Blk W' w.heap.size 26 #[.int .i64 v.kind, .int .i64 v.half, .string v.text, .slice la v.list.length lc, .slice ka v.keys.length kc, .slice va v.vals.length vc] := fun W' h => kW.below h hlt
  clear hx' hT hTW
  replace kx := hide kx
  replace kT := hide kT
  replace kk := hide kk
  replace bW := hide bW
  replace hxW := hide hxW
  obtain ⟨q0, q1, q2, q3, q4, q5⟩ := blk_six kW
  replace kW := hide kW
  go_enter Tryd.func5, Tryd.ntmps5
  go_upto_region 1 with fail
  rw [← hW]
  clear hW
  go_wp2_with fail
  refine (zzfits_any W (w.heap.size + 1) 61 _ v hlt hxW.out).mono ?_
  rintro e W1 ⟨b, rfl, b1⟩
  cases b
  · replace b1 := hide b1
    go_wp2_with fail
    go_ret
    exact ⟨rfl, bW.out.trans (b1.out.mono bW.out.size)⟩
  obtain ⟨q0, q1, q2, q3, q4, q5⟩ := blk_six (kk.out W1 b1)
  obtain ⟨W2, hW2⟩ : ∃ W2, W2 = W1.alloc (.cells #[.int .i64 v.kind, .int .i64 v.half, .string v.text, .slice la v.list.length lc, .slice ka v.keys.length kc, .slice va v.vals.length vc] 26) := ⟨_, rfl⟩
  have b2 : Below W.heap.size W W2 := by rw [hW2]; exact Below.alloc b1 b1.size _
  have k2 : Blk W2 W1.heap.size 26 #[.int .i64 v.kind, .int .i64 v.half, .string v.text, .slice la v.list.length lc, .slice ka v.keys.length kc, .slice va v.vals.length vc] := by rw [hW2]; exact Blk.new W1 _ _
  have hf := hide (fits_any W2 W2.heap.size (some ⟨W1.heap.size, 0, none⟩) 1 [v] ((kT.out W2 b2).more (by have := b2.size; omega)) (Nat.le_refl _) (by simp) (by omega) (one_row k2 k2.lt (JAt.keep (fun p hp => rfl) (by have := b2.size; omega) 62 _ _ (kx.out W2 b2))))
  replace b1 := hide b1
  replace b2 := hide b2
  replace k2 := hide k2
  go_wp2_with fail
  rw [← hW2]
  clear hW2
  refine hf.out.mono ?_
  rintro e W3 ⟨b', rfl, b3', hgood⟩
  have b3 := hide (b2.out.trans (b3'.mono b2.out.size))
  clear b3'
  cases b'
  · clear hgood
    go_wp2_with fail
    go_ret
    exact ⟨rfl, bW.out.trans (b3.out.mono bW.out.size)⟩
  have hgd := hgood rfl v (by simp)
  obtain ⟨q0, q1, q2, q3, q4, q5⟩ := blk_six (kk.out W3 b3.out)
  have hsay := (hgd.say 62 (kx.out W3 b3.out))
  replace hgd := hide hgd
  clear hgood
  go_wp2_with fail
  refine (each_any W3 v.kind v.half v.text la ka va v.list.length lc v.keys.length kc v.vals.length vc).mono ?_
  rintro e W4 ⟨rfl, b4'⟩
  have b4 := hide (b3.out.trans (b4'.mono b3.out.size))
  clear b4'
  -- which values, and how it is told
  have hcase : ∃ (A : Option Addr) (l c how : Nat) (res : JV) (z : Int), eachOf v.kind (.slice la v.list.length lc) (.slice va v.vals.length vc) = .tuple #[.slice A l c, .int .i64 how] ∧ (how = 0 ∨ how = 1) ∧
      (∀ X, Below W4.heap.size W4 X → Calls Tryd.prog 20 #[.agg #[.int .i64 v.kind, .int .i64 v.half, .string v.text, .slice la v.list.length lc, .slice ka v.keys.length kc, .slice va v.vals.length vc]] X fun e w' => ∃ r, e = .returned r ∧ Below X.heap.size X w' ∧ ResAt w' w'.heap.size 61 r res z) ∧
      (∀ X X' r, Below W4.heap.size W4 X → Below X.heap.size X X' → ResAt X X.heap.size 61 r res z → Calls Tryd.prog 16 #[r, .agg #[.int .i64 5, .int .i64 0, .string ⟨#[]⟩, .slice A l c, .slice none 0 0, .slice none 0 0], .int .i64 how] X' fun e w' => e = .returned (.bool true) ∧ Below X'.heap.size X' w') := by
    have hs4 := b4.out.size
    have hd : ∀ X, Below W4.heap.size W4 X → _ := fun X hX => doorValues_any 61 X (w.heap.size + 1) _ v (kx.out X (b4.out.trans (hX.mono hs4))) hgd.out (by have := hX.size; omega)
    have hsay' := hsay
    obtain ⟨-, -, -, -, -, -, -, -, s1, s2, s3, -, s4, -, -⟩ := hsay'
    have hv : ∀ X, Below W4.heap.size W4 X → VecAt (JAt X (w.heap.size + 1) 61) X (w.heap.size + 1) la v.list ∧ VecAt (JAt X (w.heap.size + 1) 61) X (w.heap.size + 1) va v.vals := fun X hX => by
      obtain ⟨la', lc', ka', kc', va', vc', e, -, -, -, -, -, -, -, -, -, h1, -, h2⟩ := kx.out X (b4.out.trans (hX.mono hs4))
      simp at e
      obtain ⟨⟨rfl, rfl⟩, ⟨rfl, rfl⟩, rfl, rfl⟩ := e
      exact ⟨h1, h2⟩
    by_cases h5 : v.kind = 5
    · refine ⟨la, v.list.length, lc, 0, listJ v.list, 0, by simp [eachOf, h5], Or.inl rfl, fun X hX => (hd X hX).mono ?_, fun X X' r hX hX' hr => ?_⟩
      · rintro e w' ⟨r, h1, h2, h3, -⟩
        have h3 := h3 (Or.inl h5)
        rw [show valsOf v = v.list from if_pos h5] at h3
        exact ⟨r, h1, h2, h3⟩
      · have hXX := hX.trans (hX'.mono hX.size)
        have hz := hXX.size
        refine toldV_same 61 X' X'.heap.size r _ (listJ v.list) (hr.keep (fun p hp => hX'.cell hp) hX'.size) (JAt.keep (fun p hp => rfl) (by omega) 62 _ _ (list_jat (hv X' hXX).1 g1 g4)) (list_say 61 _ s3 s1) (Nat.le_refl _)
    by_cases h6 : v.kind = 6
    · refine ⟨va, v.vals.length, vc, 0, listJ v.vals, 0, by simp [eachOf, h6], Or.inl rfl, fun X hX => (hd X hX).mono ?_, fun X X' r hX hX' hr => ?_⟩
      · rintro e w' ⟨r, h1, h2, h3, -⟩
        have h3 := h3 (Or.inr h6)
        rw [show valsOf v = v.vals from if_neg h5] at h3
        exact ⟨r, h1, h2, h3⟩
      · have hXX := hX.trans (hX'.mono hX.size)
        have hz := hXX.size
        refine toldV_same 61 X' X'.heap.size r _ (listJ v.vals) (hr.keep (fun p hp => hX'.cell hp) hX'.size) (JAt.keep (fun p hp => rfl) (by omega) 62 _ _ (list_jat (hv X' hXX).2 g3 g6)) (list_say 61 _ s4 s2) (Nat.le_refl _)
    · have h7 : ¬ v.kind = 7 := by have := hgd.out.1; omega
      refine ⟨none, 0, 0, 1, zeroJ, 1, by simp [eachOf, h5, h6, h7], Or.inr rfl, fun X hX => (hd X hX).mono ?_, fun X X' r hX hX' hr => ?_⟩
      · rintro e w' ⟨r, h1, h2, -, h3⟩
        exact ⟨r, h1, h2, h3 h5 h6⟩
      · exact toldV_raise 61 X' X'.heap.size r zeroJ _ _ _ _ _ _ (hr.keep (fun p hp => hX'.cell hp) hX'.size)
  obtain ⟨A, l, c, how, res, z, he, hhow, hV, hTo⟩ := hcase
  rw [he]
  replace hV := hide hV
  replace hTo := hide hTo
  clear he hsay
  obtain ⟨p0, p1, p2, p3, p4, p5⟩ := blk_six (kk.out W4 b4.out)
  clear q0 q1 q2 q3 q4 q5
  have hl4 : w.heap.size < W4.heap.size := (kk.out W4 b4.out).lt
  rcases hhow with rfl | rfl
  all_goals
    go_wp2_with (first
      | (go_at_call 20; (with_reducible refine (hV.out _ ?_).mono ?_); exact ⟨rfl, rfl, rfl, Nat.le_refl _, fun _ _ => rfl⟩; rintro e X1 ⟨a1, rfl, c1, hr1⟩; replace c1 := hide c1; replace hr1 := hide hr1)
      | (go_at_call 21; refine (array_any _ _ _ _).mono ?_; rintro e X2 ⟨rfl, c2x⟩; have c2 := hide (c1.out.trans (c2x.mono c1.out.size)); replace c2x := hide c2x)
      | (go_at_call 16; refine (hTo.out X1 _ _ c1.out c2x.out hr1.out).mono ?_; rintro e X3 ⟨rfl, c3x⟩; have c3 := hide (c2.out.trans (c3x.mono c2.out.size)); clear c3x))
    have b5 := hide (b4.out.trans (c3.out.mono b4.out.size))
    go_ret
    exact ⟨rfl, bW.out.trans (b5.out.mono bW.out.size)⟩
end Go.Proofs.YtmkdkcbkgngfdaaDoor
