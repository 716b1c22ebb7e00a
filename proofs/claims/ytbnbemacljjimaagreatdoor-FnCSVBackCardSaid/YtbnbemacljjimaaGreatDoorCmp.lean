/- A value is the same as itself. -/
import Derived.Test.YtbnbemacljjimaaGreatDoorSame
namespace Go.Proofs.YtbnbemacljjimaaGreatDoor
open Go.RowKit
set_option linter.unusedVariables false

set_option maxHeartbeats 2000000 in
set_option maxRecDepth 100000 in
theorem cmp_step (n : Nat) (hL : ListsSays n) : CmpSays (n + 1) := by
  intro w B x y v hx hy hs hB
  obtain ⟨⟨hk0, hk6⟩, -, -, -, -, -, -, -, hln, hvn, hsl, -, hsv, -, -⟩ := hs
  obtain ⟨la, lc, ka, kc, va, vc, rfl, hl1, hl2, hl3, hl4, hl5, hl6, hl7, hl8, hl9, hla, hka, hva⟩ := hx
  obtain ⟨la', lc', ka', kc', va', vc', rfl, hl1', hl2', hl3', hl4', hl5', hl6', hl7', hl8', hl9', hla', hka', hva'⟩ := hy
  obtain ⟨W, hW⟩ : ∃ W, W = (w.alloc (.cells #[.int .i64 v.kind, .int .i64 v.half, .string v.text, .slice la v.list.length lc, .slice ka v.keys.length kc, .slice va v.vals.length vc] 26)).alloc (.cells #[.int .i64 v.kind, .int .i64 v.half, .string v.text, .slice la' v.list.length lc', .slice ka' v.keys.length kc', .slice va' v.vals.length vc'] 26) := ⟨_, rfl⟩
  have bW : Below w.heap.size w W := by rw [hW]; exact Below.alloc (Below.alloc (Below.refl _ _) (Nat.le_refl _) _) (by simp) _
  have hk1 : Blk W w.heap.size 26 #[.int .i64 v.kind, .int .i64 v.half, .string v.text, .slice la v.list.length lc, .slice ka v.keys.length kc, .slice va v.vals.length vc] := by rw [hW]; exact (Blk.new w _ _).alloc _
  have hk2 : Blk W (w.heap.size + 1) 26 #[.int .i64 v.kind, .int .i64 v.half, .string v.text, .slice la' v.list.length lc', .slice ka' v.keys.length kc', .slice va' v.vals.length vc'] := by
    rw [hW]
    have h2 := Blk.new (w.alloc (.cells #[.int .i64 v.kind, .int .i64 v.half, .string v.text, .slice la v.list.length lc, .slice ka v.keys.length kc, .slice va v.vals.length vc] 26)) 26 #[.int .i64 v.kind, .int .i64 v.half, .string v.text, .slice la' v.list.length lc', .slice ka' v.keys.length kc', .slice va' v.vals.length vc']
    have hsz : (w.alloc (.cells #[.int .i64 v.kind, .int .i64 v.half, .string v.text, .slice la v.list.length lc, .slice ka v.keys.length kc, .slice va v.vals.length vc] 26)).heap.size = w.heap.size + 1 := by simp
    rw [hsz] at h2
    exact h2
  have hsW := bW.size
  have hBW := Nat.le_trans hB hsW
  have hlt1 := hk1.lt
  have hlt2 := hk2.lt
  have hfr : ∀ p : Addr, p.block < B → W.cell? p = w.cell? p := fun p hp => bW.cell (by omega)
  replace hla := hide (hla.keep hfr (Nat.le_refl _) (fun x v h => JAt.keep hfr (Nat.le_refl _) n x v h))
  replace hla' := hide (hla'.keep hfr (Nat.le_refl _) (fun x v h => JAt.keep hfr (Nat.le_refl _) n x v h))
  replace hva := hide (hva.keep hfr (Nat.le_refl _) (fun x v h => JAt.keep hfr (Nat.le_refl _) n x v h))
  replace hva' := hide (hva'.keep hfr (Nat.le_refl _) (fun x v h => JAt.keep hfr (Nat.le_refl _) n x v h))
  replace hka := hide (hka.keep hfr (Nat.le_refl _))
  replace hka' := hide (hka'.keep hfr (Nat.le_refl _))
  replace hsl := hide hsl
  replace hsv := hide hsv
  have k10 := hk1.cell 0
  have k11 := hk1.cell 1
  have k12 := hk1.cell 2
  have k13 := hk1.cell 3
  have k14 := hk1.cell 4
  have k20 := hk2.cell 0
  have k21 := hk2.cell 1
  have k22 := hk2.cell 2
  have k23 := hk2.cell 3
  have k24 := hk2.cell 4
  simp at k10 k11 k12 k13 k14 k20 k21 k22 k23 k24
  replace bW := hide bW
  replace hk1 := hide hk1
  replace hk2 := hide hk2
  clear hfr
  have hkk : v.kind = 0 ∨ v.kind = 1 ∨ v.kind = 2 ∨ v.kind = 3 ∨ v.kind = 4 ∨ v.kind = 5 ∨ v.kind = 6 := by omega
  have hw0 : IntKind.i64.wrap (v.half - v.half) = 0 := by rw [Int.sub_self]; decide
  have hz : v.half - v.half = 0 := Int.sub_self _
  go_enter Tryz.func55, Tryz.ntmps55
  go_upto_region 1 with fail
  rw [← hW]
  clear hW
  rcases hkk with hk | hk | hk | hk | hk | hk | hk
  · rw [hk] at k10 k20
    go_wp2
    go_ret
    exact ⟨rfl, bW.out⟩
  · rw [hk] at k10 k20
    go_wp2
    go_ret
    exact ⟨rfl, bW.out⟩
  · rw [hk] at k10 k20
    go_wp2
    go_ret
    exact ⟨rfl, bW.out⟩
  · rw [hk] at k10 k20
    go_wp2_with (go_at_call 76; refine (sign_zero W).mono ?_; rintro e W2 ⟨rfl, rfl⟩)
    go_ret
    exact ⟨rfl, bW.out⟩
  · rw [hk] at k10 k20
    go_wp2_with (go_at_call 77; refine (texts_same W v.text).mono ?_; rintro e W2 ⟨rfl, rfl⟩)
    go_ret
    exact ⟨rfl, bW.out⟩
  · rw [hk] at k10 k20
    go_wp2_with (first
      | (go_at_call 78; refine (hL W B la la' lc lc' v.list hla.out hla'.out hsl.out hl1 hl1' hl4 hl4' hBW).mono ?_; rintro e W2 ⟨rfl, hb2⟩; have hb3 := hide (bW.out.trans (hb2.mono hsW)); clear hb2)
      | (go_at_call 76; refine (sign_zero _).mono ?_; rintro e W3 ⟨rfl, rfl⟩))
    go_ret
    exact ⟨rfl, hb3.out⟩
  · rw [hk] at k10 k20
    have hva2 : ∀ W2 : World, Below W.heap.size W W2 → VecAt (JAt W2 B n) W2 B va v.vals := fun W2 h => hva.out.keep (fun p hp => h.cell (by omega)) (Nat.le_refl _) (fun x v k => JAt.keep (fun p hp => h.cell (by omega)) (Nat.le_refl _) n x v k)
    have hva2' : ∀ W2 : World, Below W.heap.size W W2 → VecAt (JAt W2 B n) W2 B va' v.vals := fun W2 h => hva'.out.keep (fun p hp => h.cell (by omega)) (Nat.le_refl _) (fun x v k => JAt.keep (fun p hp => h.cell (by omega)) (Nat.le_refl _) n x v k)
    replace hva2 := hide hva2
    replace hva2' := hide hva2'
    go_wp2_with (first
      | (go_at_call 79; refine (keys_same W B ka ka' kc kc' v.keys hka.out hka'.out hl2 hl2' hl5 hl5' hBW).mono ?_; rintro e W2 ⟨rfl, hb2⟩; have r20 := (hk1.out.below hb2 hlt1).cell 5; have r21 := (hk2.out.below hb2 hlt2).cell 5; simp at r20 r21; have hs2 := hb2.size; have hz2 := hide (hva2.out _ hb2); have hz3 := hide (hva2'.out _ hb2); have hb3 := hide (bW.out.trans (hb2.mono hsW)); clear hb2)
      | (go_at_call 78; refine (hL _ B va va' vc vc' v.vals hz2.out hz3.out hsv.out hl3 hl3' hl6 hl6' (by omega)).mono ?_; rintro e W4 ⟨rfl, hb4⟩; have hb5 := hide (hb3.out.trans (hb4.mono hb3.out.size)); clear hb4)
      | (go_at_call 76; refine (sign_zero _).mono ?_; rintro e W3 ⟨rfl, rfl⟩))
    go_ret
    exact ⟨rfl, hb5.out⟩

theorem cmp_same : ∀ n : Nat, CmpSays n
  | 0 => fun w B x y v _ _ hs _ => absurd hs (fun h => h)
  | n + 1 => cmp_step n (lists_step n (cmp_same n))

set_option maxHeartbeats 1000000 in
set_option maxRecDepth 100000 in
theorem same_any (n : Nat) (w : World) (B : Nat) (x y : Value) (v : JV) (hx : JAt w B n x v) (hy : JAt w B n y v) (hs : Say n v) (hB : B ≤ w.heap.size) :
    Calls Tryz.prog 27 #[x, y] w fun e w' => e = .returned (.bool true) ∧ Below w.heap.size w w' := by
  rcases n with _ | n
  · exact hs.elim
  have hx' := hide hx
  have hy' := hide hy
  obtain ⟨la, lc, ka, kc, va, vc, rfl, -⟩ := hx
  obtain ⟨la', lc', ka', kc', va', vc', rfl, -⟩ := hy
  obtain ⟨W, hW⟩ : ∃ W, W = (w.alloc (.cells #[.int .i64 v.kind, .int .i64 v.half, .string v.text, .slice la v.list.length lc, .slice ka v.keys.length kc, .slice va v.vals.length vc] 26)).alloc (.cells #[.int .i64 v.kind, .int .i64 v.half, .string v.text, .slice la' v.list.length lc', .slice ka' v.keys.length kc', .slice va' v.vals.length vc'] 26) := ⟨_, rfl⟩
  have bW : Below w.heap.size w W := by rw [hW]; exact Below.alloc (Below.alloc (Below.refl _ _) (Nat.le_refl _) _) (by simp) _
  have hfr : ∀ p : Addr, p.block < B → W.cell? p = w.cell? p := fun p hp => bW.cell (by omega)
  have hBW := Nat.le_trans hB bW.size
  replace hx' := hide (JAt.keep hfr (Nat.le_refl _) (n + 1) _ _ hx'.out)
  replace hy' := hide (JAt.keep hfr (Nat.le_refl _) (n + 1) _ _ hy'.out)
  replace bW := hide bW
  replace hs := hide hs
  clear hfr
  go_enter Tryz.func27, Tryz.ntmps27
  go_wp2_with fail
  rw [← hW]
  clear hW
  refine (cmp_same (n + 1) W B _ _ v hx'.out hy'.out hs.out hBW).mono ?_
  rintro e W2 ⟨rfl, hb2⟩
  replace hb2 := hide (bW.out.trans (hb2.mono bW.out.size))
  go_wp2
  go_ret
  exact ⟨rfl, hb2.out⟩
end Go.Proofs.YtbnbemacljjimaaGreatDoor
