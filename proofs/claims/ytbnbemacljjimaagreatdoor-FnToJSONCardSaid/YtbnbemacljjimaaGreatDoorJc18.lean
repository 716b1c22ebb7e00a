/- The reader's commas and pipes. -/
import Derived.Test.YtbnbemacljjimaaGreatDoorJc13
import Derived.Test.YtbnbemacljjimaaGreatDoorJc09
import Derived.Test.YtbnbemacljjimaaGreatDoorJc17
namespace Go.Proofs.YtbnbemacljjimaaGreatDoor
open Go.RowKit Go.Lib
set_option linter.unusedVariables false

/-- The token is no word def. -/
def NoDef (l : List UInt8) : Prop := (((nxK l).toList == [110, 97, 109, 101]) && ((nxT l).toList == [100, 101, 102])) = false

set_option maxHeartbeats 2000000 in
set_option maxRecDepth 100000 in
theorem pipe_step {r : Nat} {s : ByteArray} {l rest : List UInt8} {q : QV} (hs : s.size ≤ 1000000) (hf : Fol rest) (hnd : NoDef l) (h : FnSays 53 r s l rest q) : FnSays 26 r s l rest q := by
  intro w hR
  have hrw := hR.lt
  replace h := hide h
  obtain ⟨W0, hW0⟩ : ∃ W0, W0 = w.alloc (.cells zC 41) := ⟨_, rfl⟩
  have o0 : Only (· = r) w W0 := by rw [hW0]; exact (Only.refl _ w).alloc _
  have k0 : Blk W0 w.heap.size 41 zC := by rw [hW0]; exact Blk.new w _ _
  have s0 : W0.heap.size = w.heap.size + 1 := by rw [hW0]; simp
  have hR0 : Ready W0 r s l := by rw [hW0]; exact hR.only ((Only.refl (fun _ => False) w).alloc _) (fun h => h)
  obtain ⟨-, -, c2, c3, c4⟩ := hR0.cells
  unfold NoDef at hnd
  replace o0 := hide o0
  replace s0 := hide s0
  replace hR0 := hide hR0
  replace k0 := hide k0
  replace hf := hide hf
  clear hR
  unfold zC at hW0
  obtain ⟨K, hK⟩ : ∃ K, nxK l = K := ⟨_, rfl⟩
  obtain ⟨X, hX⟩ : ∃ X, nxT l = X := ⟨_, rfl⟩
  rw [hK] at c2 hnd
  rw [hX] at c3 hnd
  replace hK := hide hK
  replace hX := hide hX
  obtain ⟨b1, h1⟩ : ∃ b, (K.toList == [110, 97, 109, 101]) = b := ⟨_, rfl⟩
  obtain ⟨b2, h2⟩ : ∃ b, (X.toList == [100, 101, 102]) = b := ⟨_, rfl⟩
  rw [h1, h2] at hnd
  cases b1 <;> cases b2 <;> first
    | (exact absurd hnd (by decide))
    | (clear hnd
       go_enter Tryz.func26, Tryz.ntmps26
       go_upto_region 1 with fail
       rw [← hW0]
       clear hW0
       go_wp2_with fail
       refine (h.out W0 hR0.out).mono ?_
       rintro e W1 ⟨y, rfl, hy, hR1, o1⟩
       have k1 := hide (o1.blk k0.out (by omega))
       have hlt1 := o1.size
       have hys := hy.sz
       have hya := hy.all
       replace hys := hide hys
       replace hya := hide hya
       replace hy := hide hy
       replace hR1 := hide hR1
       replace o1 := hide o1
       go_wp2_with (first
         | (go_at_call 54; refine (is_fol W3 r s _ rest (hR1.out.only o3.out (fun h => h)) hf.out (by decide)).mono ?_; rintro e w2 ⟨rfl, rfl⟩; have k13 := hide (o3.out.blk k1.out (fun h => h)))
         | (refine wpList_load_row rfl _ _ rfl W1.heap.size rfl 41 y.toArray (0, 0) _ k3.out Tryz.underlying41 rfl (by rw [hys.out]; exact q_size) ?_)
         | (refine wpList_store_blk rfl _ _ _ rfl W1.heap.size y.toArray rfl rfl 41 _ (Blk.new W1 _ _) (by rw [hys.out]; exact q_size) (by rw [hys.out]; rfl) hya.out ?_; intro W3 k3 o3 s3; replace k3 := hide k3; replace o3 := hide (only_new o3); clear s3)
         | (refine wpList_store_blk rfl _ _ _ rfl w.heap.size y.toArray rfl rfl 41 _ k13.out (by rw [hys.out]; exact q_size) (by rw [hys.out]; rfl) hya.out ?_; intro W5 k5 o5 s5; replace k5 := hide k5; replace o5 := hide o5; clear s5))
       (try simp only [Exit.inBlock, Exit.then])
       refine ret_q Tryz.results26 w.heap.size y.toArray rfl rfl k5.out hys.out ⟨y, rfl, ?_, ?_, ?_⟩
       · have l3 := o3.out.size
         have l5 := o5.out.size
         have e0 := s0.out
         exact (hy.out.only o3.out (fun _ _ _ h => h) (fun b _ h => h)).only o5.out (fun b h1 h2 => by omega) (fun b _ h => by omega)
       · exact (hR1.out.only o3.out (fun h => h)).only o5.out (by omega)
       · exact ((o0.out.trans o1.out).trans o3.out.no).back o5.out (fun b h => Or.inr (by omega)))

/-- Further elements, each behind a comma, ahead of what follows. -/
def tailJ : List (List UInt8) → List UInt8 → List UInt8
  | [], rest => rest
  | t :: ts, rest => 44 :: (t ++ tailJ ts rest)
theorem tailJ_fol {rest : List UInt8} (h : Fol rest) : ∀ ts, Fol (tailJ ts rest)
  | [] => h
  | t :: ts => Or.inr ⟨44, _, rfl, Or.inl rfl⟩
theorem rqC_snoc : ∀ (q : QV) (l : List QV) (x : QV), rqC q (l ++ [x]) = ofQ opCom [rqC q l, x]
  | q, [], x => rfl
  | q, y :: l, x => rqC_snoc (ofQ opCom [q, y]) l x

/-- The reader's place. -/
def posOf (w : World) (r : Nat) : Nat := match w.cell? ⟨r, 1, none⟩ with | some v => (RowKit.intOf v).toNat | none => 0
theorem Ready.pos {w : World} {r : Nat} {s : ByteArray} {l : List UInt8} (h : Ready w r s l) : posOf w r + (l.drop (nxN l)).length = s.size := by
  obtain ⟨a, h1, h2⟩ := h
  have c1 := h1.cell 1
  simp at c1
  unfold posOf
  rw [c1]
  have := h2.room
  simpa [RowKit.intOf] using this

theorem notcom {l : List UInt8} (hf : Fol l) (h : ∀ m, l ≠ 44 :: m) : (nxK l = kEnd ∨ nxK l = kStr ∨ nxK l = kNum) ∨ nxT l ≠ ⟨#[44]⟩ := by
  rcases hf with rfl | ⟨c, r, rfl, hc⟩
  · exact Or.inl (Or.inl rfl)
  · refine Or.inr ?_
    have ho : opc c := by
      unfold opc
      rcases hc with rfl | rfl | rfl | rfl <;> simp
    rw [(nx_op (m := r) ho).2.1]
    intro e
    have h1 : c = 44 := by
      have := congrArg (fun z => z.data.toList) e
      simpa using this
    exact h r (by rw [h1])

/-- Blocks that are not the loop's own. -/
abbrev Pq (R G : Nat) : Nat → Prop := fun b => R < b ∧ b ≠ G
/-- The state of comma's region, whatever order is drawn. -/
structure RgC (W4 : World) (r G R : Nat) (s : ByteArray) (u : List Value) (q1 q2 : QV) (l1 l2 : List UInt8) (listed : Array Bool) (w : World) (s8 s9 s10 s11 s12 : Value) : Prop where
  sz : listed.size = 6
  onl : Only (fun k => k = r ∨ k = G) W4 w
  kR : Blk w R 41 zC
  kG : ¬ Up listed 5 → Blk w G 41 u.toArray
  qu : QAt w (Pq R G) u q1
  f0 : Up listed 0 → s8 = .agg u.toArray
  f1 : Up listed 1 → s9 = .pointer (some ⟨r, 0, none⟩)
  p2 : ¬ Up listed 2 → Ready w r s l1
  f2 : Up listed 2 → ∃ z, s10 = .agg z.toArray ∧ QAt w (Pq R G) z q2 ∧ Ready w r s l2
  f3 : Up listed 3 → Up listed 0 ∧ Up listed 2 ∧ ∃ K, s11 = .slice (some ⟨K, 0, none⟩) 2 2 ∧ VecQ w (Pq R G) (some ⟨K, 0, none⟩) [q1, q2]
  f4 : Up listed 4 → Up listed 3 ∧ ∃ K, s12 = .agg (ofC opCom (some ⟨K, 0, none⟩) 2 2).toArray ∧ VecQ w (Pq R G) (some ⟨K, 0, none⟩) [q1, q2]
  f5 : Up listed 5 → Up listed 4 ∧ ∃ K, Blk w G 41 (ofC opCom (some ⟨K, 0, none⟩) 2 2).toArray ∧ VecQ w (Pq R G) (some ⟨K, 0, none⟩) [q1, q2]

section
variable {W4 : World} {r G R : Nat} {s : ByteArray} {u : List Value} {q1 q2 : QV} {l1 l2 : List UInt8} {listed : Array Bool} {w : World} {s8 s9 s10 s11 s12 : Value}
theorem RgC.c0 (H : RgC W4 r G R s u q1 q2 l1 l2 listed w s8 s9 s10 s11 s12) (hun : listed.getD 0 true = false) {t : Value} (ht : t = .agg u.toArray) : RgC W4 r G R s u q1 q2 l1 l2 (listed.setIfInBounds 0 true) w t s9 s10 s11 s12 :=
  ⟨by rw [Array.size_setIfInBounds]; exact H.sz, H.onl, H.kR, fun hn => H.kG (fun h => hn (Up.more h)), H.qu, fun _ => ht, fun h => H.f1 (Up.set_ne (by decide) h), fun hn => H.p2 (fun h => hn (Up.more h)), fun h => H.f2 (Up.set_ne (by decide) h),
    fun h => absurd (H.f3 (Up.set_ne (by decide) h)).1 (Up.no hun), fun h => absurd (H.f3 (H.f4 (Up.set_ne (by decide) h)).1).1 (Up.no hun), fun h => absurd (H.f3 (H.f4 (H.f5 (Up.set_ne (by decide) h)).1).1).1 (Up.no hun)⟩
theorem RgC.c1 (H : RgC W4 r G R s u q1 q2 l1 l2 listed w s8 s9 s10 s11 s12) (hun : listed.getD 1 true = false) {t : Value} (ht : t = .pointer (some ⟨r, 0, none⟩)) : RgC W4 r G R s u q1 q2 l1 l2 (listed.setIfInBounds 1 true) w s8 t s10 s11 s12 :=
  ⟨by rw [Array.size_setIfInBounds]; exact H.sz, H.onl, H.kR, fun hn => H.kG (fun h => hn (Up.more h)), H.qu, fun h => H.f0 (Up.set_ne (by decide) h), fun _ => ht, fun hn => H.p2 (fun h => hn (Up.more h)), fun h => H.f2 (Up.set_ne (by decide) h),
    fun h => ⟨Up.more (H.f3 (Up.set_ne (by decide) h)).1, Up.more (H.f3 (Up.set_ne (by decide) h)).2.1, (H.f3 (Up.set_ne (by decide) h)).2.2⟩, fun h => ⟨Up.more (H.f4 (Up.set_ne (by decide) h)).1, (H.f4 (Up.set_ne (by decide) h)).2⟩, fun h => ⟨Up.more (H.f5 (Up.set_ne (by decide) h)).1, (H.f5 (Up.set_ne (by decide) h)).2⟩⟩
theorem RgC.c2 (H : RgC W4 r G R s u q1 q2 l1 l2 listed w s8 s9 s10 s11 s12) (hun : listed.getD 2 true = false) (hr : r < R) (hRG : R < G) (hGW : G < W4.heap.size) {z : List Value} {w2 : World} (ho : Only (· = r) w w2) (hz : QAt w2 (w.heap.size ≤ ·) z q2) (hR : Ready w2 r s l2) : RgC W4 r G R s u q1 q2 l1 l2 (listed.setIfInBounds 2 true) w2 s8 s9 (.agg z.toArray) s11 s12 := by
  have hsz := H.onl.size
  have h3 : ¬ Up listed 3 := fun h => Up.no hun (H.f3 h).2.1
  have h4 : ¬ Up listed 4 := fun h => h3 (H.f4 h).1
  have h5 : ¬ Up listed 5 := fun h => h4 (H.f5 h).1
  exact ⟨by rw [Array.size_setIfInBounds]; exact H.sz, H.onl.trans (ho.mono (fun k h => Or.inl h)), ho.blk H.kR (by omega), fun hn => ho.blk (H.kG (fun h => hn (Up.more h))) (by omega), H.qu.only ho (fun b h1 h2 => by have := h1.1; omega) (fun b _ h => h), fun h => H.f0 (Up.set_ne (by decide) h), fun h => H.f1 (Up.set_ne (by decide) h),
    fun hn => absurd (Up.self hun) hn, fun _ => ⟨z, rfl, hz.only (Only.refl (fun _ => False) w2) (fun _ _ _ h => h) (fun b _ (h : w.heap.size ≤ b) => ⟨by omega, by omega⟩), hR⟩, fun h => absurd (Up.set_ne (by decide) h) h3, fun h => absurd (Up.set_ne (by decide) h) h4, fun h => absurd (Up.set_ne (by decide) h) h5⟩
theorem RgC.c3 (H : RgC W4 r G R s u q1 q2 l1 l2 listed w s8 s9 s10 s11 s12) (hun : listed.getD 3 true = false) (hRG : R < G) (hGW : G < W4.heap.size) (h0 : Up listed 0) (h2 : Up listed 2) {z : List Value} (hz : s10 = .agg z.toArray) (hqz : QAt w (Pq R G) z q2) {w2 : World} (ho : Only (fun _ => False) w w2) (hk : Blk w2 w.heap.size 41 (u ++ z).toArray) :
    RgC W4 r G R s u q1 q2 l1 l2 (listed.setIfInBounds 3 true) w2 s8 s9 s10 (.slice (some ⟨w.heap.size, 0, none⟩) 2 2) s12 := by
  have hsz := H.onl.size
  have h4 : ¬ Up listed 4 := fun h => Up.no hun (H.f4 h).1
  have h5 : ¬ Up listed 5 := fun h => h4 (H.f5 h).1
  have hqu2 : QAt w2 (Pq R G) u q1 := H.qu.only ho (fun _ _ _ h => h) (fun b _ h => h)
  have hqz2 : QAt w2 (Pq R G) z q2 := hqz.only ho (fun _ _ _ h => h) (fun b _ h => h)
  exact ⟨by rw [Array.size_setIfInBounds]; exact H.sz, H.onl.trans (ho.no), ho.blk H.kR (fun h => h), fun hn => ho.blk (H.kG (fun h => hn (Up.more h))) (fun h => h), hqu2, fun h => H.f0 (Up.set_ne (by decide) h), fun h => H.f1 (Up.set_ne (by decide) h),
    fun hn => (H.p2 (fun h => hn (Up.more h))).only ho (fun h => h), fun h => by
      obtain ⟨z', e, h1, h2⟩ := H.f2 (Up.set_ne (by decide) h)
      exact ⟨z', e, h1.only ho (fun _ _ _ h => h) (fun b _ h => h), h2.only ho (fun h => h)⟩,
    fun _ => ⟨Up.more h0, Up.more h2, _, rfl, QRow.blk ((QRow.one hqu2).append (QRow.one hqz2)) hk ⟨by omega, by omega⟩⟩, fun h => absurd (Up.set_ne (by decide) h) h4, fun h => absurd (Up.set_ne (by decide) h) h5⟩
theorem RgC.c4 (H : RgC W4 r G R s u q1 q2 l1 l2 listed w s8 s9 s10 s11 s12) (hun : listed.getD 4 true = false) (h3 : Up listed 3) {K : Nat} (hK : VecQ w (Pq R G) (some ⟨K, 0, none⟩) [q1, q2]) {w2 : World} (ho : Only (fun _ => False) w w2) :
    RgC W4 r G R s u q1 q2 l1 l2 (listed.setIfInBounds 4 true) w2 s8 s9 s10 s11 (.agg (ofC opCom (some ⟨K, 0, none⟩) 2 2).toArray) := by
  have h5 : ¬ Up listed 5 := fun h => Up.no hun (H.f5 h).1
  exact ⟨by rw [Array.size_setIfInBounds]; exact H.sz, H.onl.trans (ho.no), ho.blk H.kR (fun h => h), fun hn => ho.blk (H.kG (fun h => hn (Up.more h))) (fun h => h), H.qu.only ho (fun _ _ _ h => h) (fun b _ h => h), fun h => H.f0 (Up.set_ne (by decide) h), fun h => H.f1 (Up.set_ne (by decide) h),
    fun hn => (H.p2 (fun h => hn (Up.more h))).only ho (fun h => h), fun h => by
      obtain ⟨z', e, h1, h2⟩ := H.f2 (Up.set_ne (by decide) h)
      exact ⟨z', e, h1.only ho (fun _ _ _ h => h) (fun b _ h => h), h2.only ho (fun h => h)⟩,
    fun h => by
      obtain ⟨g0, g2, K', e, hv⟩ := H.f3 (Up.set_ne (by decide) h)
      exact ⟨Up.more g0, Up.more g2, K', e, hv.only ho (fun _ _ _ h => h) (fun b _ h => h)⟩, fun _ => ⟨Up.more h3, K, rfl, hK.only ho (fun _ _ _ h => h) (fun b _ h => h)⟩, fun h => absurd (Up.set_ne (by decide) h) h5⟩
theorem RgC.c5 (H : RgC W4 r G R s u q1 q2 l1 l2 listed w s8 s9 s10 s11 s12) (hun : listed.getD 5 true = false) (hr : r < R) (hRG : R < G) (h4 : Up listed 4) {K : Nat} (hK : VecQ w (Pq R G) (some ⟨K, 0, none⟩) [q1, q2]) {w2 : World} (ho : Only (· = G) w w2) (hk : Blk w2 G 41 (ofC opCom (some ⟨K, 0, none⟩) 2 2).toArray) :
    RgC W4 r G R s u q1 q2 l1 l2 (listed.setIfInBounds 5 true) w2 s8 s9 s10 s11 s12 := by
  have hP : ∀ b, Pq R G b → b < w.heap.size → ¬ b = G := fun b h _ => h.2
  exact ⟨by rw [Array.size_setIfInBounds]; exact H.sz, H.onl.trans (ho.mono (fun k h => Or.inr h)), ho.blk H.kR (by omega), fun hn => absurd (Up.self hun) hn, H.qu.only ho hP (fun b _ h => h), fun h => H.f0 (Up.set_ne (by decide) h), fun h => H.f1 (Up.set_ne (by decide) h),
    fun hn => (H.p2 (fun h => hn (Up.more h))).only ho (by omega), fun h => by
      obtain ⟨z', e, h1, h2⟩ := H.f2 (Up.set_ne (by decide) h)
      exact ⟨z', e, h1.only ho hP (fun b _ h => h), h2.only ho (by omega)⟩,
    fun h => by
      obtain ⟨g0, g2, K', e, hv⟩ := H.f3 (Up.set_ne (by decide) h)
      exact ⟨Up.more g0, Up.more g2, K', e, hv.only ho hP (fun b _ h => h)⟩,
    fun h => by
      obtain ⟨g3, K', e, hv⟩ := H.f4 (Up.set_ne (by decide) h)
      exact ⟨Up.more g3, K', e, hv.only ho hP (fun b _ h => h)⟩, fun _ => ⟨Up.more h4, K, hk, hK.only ho hP (fun b _ h => h)⟩⟩
end

/-- An element: its text, and the query that is read of it. -/
def ElemSays (r : Nat) (s : ByteArray) (t : List UInt8) (q : QV) : Prop := 0 < t.length ∧ ∀ rest, Fol rest → OkTok (t ++ rest) ∧ FnSays 75 r s (t ++ rest) rest q

set_option maxHeartbeats 4000000 in
set_option maxRecDepth 100000 in
theorem comma_all {r : Nat} {s : ByteArray} {t0 : List UInt8} {q0 : QV} {es : List (List UInt8 × QV)} {rest : List UInt8} (hs : s.size ≤ 1000000) (hf : Fol rest) (hnc : ∀ m, rest ≠ 44 :: m) (h0 : ElemSays r s t0 q0) (hE : ∀ e ∈ es, ElemSays r s e.1 e.2) :
    FnSays 53 r s (t0 ++ tailJ (es.map (·.1)) rest) rest (rqC q0 (es.map (·.2))) := by
  intro w hR
  have hrw := hR.lt
  have h := hide ((h0.2 _ (tailJ_fol hf (es.map (·.1)))).2)
  have hnot := hide (notcom hf hnc)
  obtain ⟨W0, hW0⟩ : ∃ W0, W0 = w.alloc (.cells zC 41) := ⟨_, rfl⟩
  have o0 : Only (· = r) w W0 := by rw [hW0]; exact (Only.refl _ w).alloc _
  have k0 : Blk W0 w.heap.size 41 zC := by rw [hW0]; exact Blk.new w _ _
  have s0 : W0.heap.size = w.heap.size + 1 := by rw [hW0]; simp
  have hR0 : Ready W0 r s (t0 ++ tailJ (es.map (·.1)) rest) := by rw [hW0]; exact hR.only ((Only.refl (fun _ => False) w).alloc _) (fun h => h)
  replace o0 := hide o0
  replace s0 := hide s0
  replace hR0 := hide hR0
  replace k0 := hide k0
  replace hf := hide hf
  replace hnc := hide hnc
  replace hE := hide hE
  clear hR h0
  unfold zC at hW0
  go_enter Tryz.func53, Tryz.ntmps53
  go_wp2_with fail
  rw [← hW0]
  clear hW0
  refine (h.out W0 hR0.out).mono ?_
  rintro e W1 ⟨y, rfl, hy, hR1, o1⟩
  have k1 := hide (o1.blk k0.out (by omega))
  have hlt1 := o1.size
  have hys := hy.sz
  have hya := hy.all
  replace hys := hide hys
  replace hya := hide hya
  replace hy := hide hy
  replace hR1 := hide hR1
  replace o1 := hide o1
  go_wp2_with (refine wpList_store_blk rfl _ _ _ rfl W1.heap.size y.toArray rfl rfl 41 _ (Blk.new W1 _ _) (by rw [hys.out]; exact q_size) (by rw [hys.out]; rfl) hya.out ?_; intro W3 k3 o3 s3; replace k3 := hide k3; replace o3 := hide (only_new o3); clear s3)
  go_frame
  obtain ⟨G, hG⟩ : ∃ G, W1.heap.size = G := ⟨_, rfl⟩
  rw [hG] at k3 ⊢
  have hRG : w.heap.size < G := by have := s0.out; omega
  go_loopw [] (fun wr => ∃ (j : Nat) (y : List Value), j ≤ es.length ∧ QAt wr (fun b => w.heap.size < b ∧ b ≠ G) y (rqC q0 ((es.map (·.2)).take j)) ∧ Blk wr G 41 y.toArray ∧ Blk wr w.heap.size 41 zC ∧ Ready wr r s (tailJ ((es.map (·.1)).drop j) rest) ∧ Only (· = r) w wr) (fun wr => s.size - posOf wr r)
  case atStart =>
    refine ⟨0, y, Nat.zero_le _, ?_, k3.out, o3.out.blk k1.out (fun h => h), hR1.out.only o3.out (fun h => h), (o0.out.trans o1.out).trans o3.out.no⟩
    have e0 := s0.out
    exact hy.out.only o3.out (fun _ _ _ h => h) (fun b hb h => ⟨by omega, by omega⟩)
  case round =>
    clear hys hya hy k3 k1 hR1 o1 o3
    obtain ⟨j, u, hj, hy, kG, kR, hRj, oj⟩ := hrel
    have hys := hide hy.sz
    have hya := hide hy.all
    have hjr := hRj.lt
    have hGl := kG.lt
    rcases Nat.lt_or_ge j es.length with hlt | hge
    · obtain ⟨e, he⟩ : ∃ e, es[j]? = some e := ⟨_, List.getElem?_eq_getElem hlt⟩
      have hEe := hE.out e (List.mem_of_getElem? he)
      have hd1 : (es.map (·.1)).drop j = e.1 :: (es.map (·.1)).drop (j + 1) := by
        rw [List.drop_eq_getElem_cons (by simpa using hlt)]
        congr 1
        have := (List.getElem?_eq_some_iff.1 he).2
        simp [this]
      have ht1 : (es.map (·.2)).take (j + 1) = (es.map (·.2)).take j ++ [e.2] := by
        rw [List.take_add_one]
        congr 1
        simp [he]
      have hpos := hRj.pos
      rw [hd1] at hRj hpos
      have hok := (hEe.2 _ (tailJ_fol hf.out ((es.map (·.1)).drop (j + 1)))).1
      have hal := hide ((hEe.2 _ (tailJ_fol hf.out ((es.map (·.1)).drop (j + 1)))).2)
      have htl := hEe.1
      clear hd1 hEe
      unfold tailJ at hRj hpos
      have hpos2 : ∀ W, Ready W r s (tailJ ((es.map (·.1)).drop (j + 1)) rest) → s.size - posOf W r < s.size - posOf wr r := by
        intro W hW
        have h1 := hW.pos
        have h2 := List.length_drop (i := nxN (tailJ ((es.map (·.1)).drop (j + 1)) rest)) (l := tailJ ((es.map (·.1)).drop (j + 1)) rest)
        rw [h2] at h1
        rw [(nx_op (m := e.1 ++ tailJ ((es.map (·.1)).drop (j + 1)) rest) (c := 44) (by unfold opc; simp)).2.2] at hpos
        simp only [List.drop_succ_cons, List.drop_zero, List.length_append] at hpos
        have h3 := nxN_le (tailJ ((es.map (·.1)).drop (j + 1)) rest)
        omega
      replace hpos2 := hide hpos2
      replace hpos := hide hpos
      replace ht1 := hide ht1
      replace htl := hide htl
      go_wp2_with fail
      refine (is_this wr r s 44 _ hRj (by unfold opc; simp) hs hok).mono ?_
      rintro e2 W4 ⟨rfl, hR4, o4⟩
      have kG4 := hide (o4.blk kG (by omega))
      have kR4 := hide (o4.blk kR (by omega))
      have hy4 := hide (hy.only (P' := fun b => w.heap.size < b ∧ b ≠ G) o4 (fun b h1 h2 => by omega) (fun b _ h => h))
      have l4 := o4.size
      have oj4 := hide (oj.trans o4)
      replace hR4 := hide hR4
      clear hRj hy kG kR
      replace o4 := hide o4
      go_upto_region 3 with fail
      have hG4 : G < W4.heap.size := by have := kG4.out.lt; exact this
      refine wp_region_inv (by kernel_rfl) (fun listed a w' => ∃ s8 s9 s10 s11 s12, a = ⟨#[.pointer (some ⟨r, 0, none⟩), undef, .pointer (some ⟨w.heap.size, 0, none⟩), .pointer (some ⟨G, 0, none⟩), .pointer (some ⟨r, 0, none⟩), .agg y.toArray, .pointer (some ⟨r, 0, none⟩), .bool true, s8, s9, s10, s11, s12, undef], []⟩ ∧ RgC W4 r G w.heap.size s u (rqC q0 ((es.map (·.2)).take j)) e.2 (e.1 ++ tailJ ((es.map (·.1)).drop (j + 1)) rest) (tailJ ((es.map (·.1)).drop (j + 1)) rest) listed w' s8 s9 s10 s11 s12) ?start ?step ?stop
      case start => exact ⟨_, _, _, _, _, rfl, by rfl, (Only.refl _ W4).drew, kR4.out, fun _ => kG4.out, hy4.out.only ((Only.refl (fun _ => False) W4).drew) (fun _ _ _ h => h) (fun b _ h => h), fun h => (Up.start h).elim, fun h => (Up.start h).elim, fun _ => hR4.out, fun h => (Up.start h).elim, fun h => (Up.start h).elim, fun h => (Up.start h).elim, fun h => (Up.start h).elim⟩
      case step =>
        rintro listed a w' i ⟨s8, s9, s10, s11, s12, rfl, H⟩ hi
        have hun := Up.un hi
        have hlt6 : i < 6 := by
          obtain ⟨-, o, ho, -⟩ := mem_ready.1 hi
          rcases Nat.lt_or_ge i 6 with h | h
          · exact h
          · rw [Array.getElem?_eq_none (by exact h)] at ho
            cases ho
        have hi6 : i = 0 ∨ i = 1 ∨ i = 2 ∨ i = 3 ∨ i = 4 ∨ i = 5 := by omega
        rcases hi6 with rfl | rfl | rfl | rfl | rfl | rfl
        · have n5 : ¬ Up listed 5 := fun h => Up.no hun (H.f3 (H.f4 (H.f5 h).1).1).1
          have kk := hide (H.kG n5)
          replace H := hide H
          replace hi := hide hi
          replace hun := hide hun
          refine wpOp_of_list rfl ?_
          go_wp2_with (refine wpList_load_row rfl _ _ rfl G rfl 41 u.toArray (0, 0) _ kk.out Tryz.underlying41 rfl (by rw [hys.out]; exact q_size) ?_)
          exact Then.normal ⟨_, _, _, _, _, rfl, H.out.c0 hun.out rfl⟩
        · replace H := hide H
          replace hi := hide hi
          replace hun := hide hun
          refine wpOp_of_list rfl ?_
          go_wp2_with fail
          exact Then.normal ⟨_, _, _, _, _, rfl, H.out.c1 hun.out rfl⟩
        · obtain rfl := H.f1 (Up.waits hi 1 (by kernel_rfl))
          have hRw := H.p2 (Up.no hun)
          replace H := hide H
          replace hi := hide hi
          replace hun := hide hun
          refine wpOp_of_list rfl ?_
          go_wp2_with (go_at_call 75; refine (hal.out w' hRw).mono ?_; rintro e5 W5 ⟨z, rfl, hz, hR5, o5⟩)
          exact Then.normal ⟨_, _, _, _, _, rfl, H.out.c2 hun.out hrw hRG hG4 o5 hz hR5⟩
        · have w0 := Up.waits hi 0 (by kernel_rfl)
          have w2 := Up.waits hi 2 (by kernel_rfl)
          obtain rfl := H.f0 w0
          obtain ⟨z, rfl, hz, -⟩ := H.f2 w2
          have hzs := hide hz.sz
          replace H := hide H
          replace hz := hide hz
          replace hi := hide hi
          replace hun := hide hun
          replace w0 := hide w0
          replace w2 := hide w2
          refine wpOp_of_list rfl ?_
          go_wp2_with (refine wpList_bs2 rfl _ _ rfl u z rfl rfl hys.out hzs.out ?_; intro W6 k6 o6 s6)
          exact Then.normal ⟨_, _, _, _, _, rfl, H.out.c3 hun.out hRG hG4 w0.out w2.out rfl hz.out o6 k6⟩
        · have w3 := Up.waits hi 3 (by kernel_rfl)
          obtain ⟨-, -, K, rfl, hK⟩ := H.f3 w3
          replace H := hide H
          replace hK := hide hK
          replace hi := hide hi
          replace hun := hide hun
          replace w3 := hide w3
          refine wpOp_of_list rfl ?_
          go_wp2_with (go_at_call 33; refine (of_any w' opCom _ 2 2).mono ?_; rintro e7 W7 ⟨rfl, b7⟩)
          exact Then.normal ⟨_, _, _, _, _, rfl, H.out.c4 hun.out w3.out hK.out (Only.of_below b7 (fun k hk _ => hk))⟩
        · have w4 := Up.waits hi 4 (by kernel_rfl)
          obtain ⟨-, K, rfl, hK⟩ := H.f4 w4
          have kk := hide (H.kG (Up.no hun))
          replace H := hide H
          replace hK := hide hK
          replace hi := hide hi
          replace hun := hide hun
          replace w4 := hide w4
          refine wpOp_of_list rfl ?_
          go_wp2_with (refine wpList_store_blk rfl _ _ _ rfl G (ofC opCom (some ⟨K, 0, none⟩) 2 2).toArray rfl rfl 41 _ kk.out q_size (by rw [hys.out]; rfl) (by simp [ofC, Value.oneCell']) ?_; intro W8 k8 o8 s8)
          exact Then.normal ⟨_, _, _, _, _, rfl, H.out.c5 hun.out hrw hRG w4.out hK.out o8 k8⟩
      case stop =>
        rintro listed a w' ⟨s8, s9, s10, s11, s12, rfl, H⟩ hi
        have hall := Up.all H.sz (by kernel_rfl) hi
        obtain ⟨-, K, kG8, hK⟩ := H.f5 (hall 5 (by decide))
        obtain ⟨z, -, -, hR8⟩ := H.f2 (hall 2 (by decide))
        have o8 := H.onl
        have kR8 := H.kR
        clear H hi hall
        have hfin := hide (show ∃ (j : Nat) (y : List Value), j ≤ es.length ∧ QAt w' (fun b => w.heap.size < b ∧ b ≠ G) y (rqC q0 ((es.map (·.2)).take j)) ∧ Blk w' G 41 y.toArray ∧ Blk w' w.heap.size 41 zC ∧ Ready w' r s (tailJ ((es.map (·.1)).drop j) rest) ∧ Only (· = r) w w' from by
          refine ⟨j + 1, ofC opCom (some ⟨K, 0, none⟩) 2 2, hlt, ?_, kG8, kR8, hR8, oj4.out.back o8 (fun b h => by omega)⟩
          rw [ht1.out, rqC_snoc]
          exact QAt.of rfl (by decide) (by decide) (by decide) hK)
        have hm := hide (hpos2.out w' hR8)
        clear kG8 hK hR8 o8 kR8
        go_wp2
        go_roundw
        case rel => exact hfin.out
        case measure => exact hm.out
    · obtain rfl : j = es.length := by omega
      rw [List.take_of_length_le (by simp)] at hy
      rw [List.drop_of_length_le (by simp)] at hRj
      replace hy := hide hy
      replace kG := hide kG
      replace kR := hide kR
      replace hRj := hide hRj
      replace oj := hide oj
      go_wp2_with (first
        | (go_at_call 54; refine (is_not wr r s _ rest hRj.out hnot.out).mono ?_; rintro e w2 ⟨rfl, rfl⟩)
        | (refine wpList_load_row rfl _ _ rfl G rfl 41 u.toArray (0, 0) _ kG.out Tryz.underlying41 rfl (by rw [hys.out]; exact q_size) ?_)
        | (refine wpList_store_blk rfl _ _ _ rfl w.heap.size u.toArray rfl rfl 41 _ kR.out (by rw [hys.out]; exact q_size) (by rw [hys.out]; rfl) hya.out ?_; intro W5 k5 o5 s5; replace k5 := hide k5; replace o5 := hide o5; clear s5))
      (try simp only [Exit.inBlock, Exit.then])
      refine ret_q Tryz.results53 w.heap.size u.toArray rfl rfl k5.out hys.out ⟨u, rfl, ?_, ?_, ?_⟩
      · exact hy.out.only o5.out (fun b h1 h2 => by omega) (fun b _ h => Nat.le_of_lt h.1)
      · exact hRj.out.only o5.out (by omega)
      · exact oj.out.back o5.out (fun b h => Or.inr (by omega))
end Go.Proofs.YtbnbemacljjimaaGreatDoor
