/- A value as a query: those without parts (printed by mknqc.py). -/
import Derived.Test.YtbnbemacljjimaaGreatDoorJc25
namespace Go.Proofs.YtbnbemacljjimaaGreatDoor
open Go.RowKit Go.Lib
set_option linter.unusedVariables false

/-- A query that is new. -/
def NewQ (W : World) (q : QV) (e : Ending) (w' : World) : Prop := ∃ y : List Value, e = .returned (.agg y.toArray) ∧ QAt w' (W.heap.size ≤ ·) y q ∧ Below W.heap.size W w'
/-- normalValue gives the right form. -/
def NvSays (n : Nat) (v : JV) : Prop := ∀ (w : World) (B : Nat) (x : Value), B ≤ w.heap.size → JAt w B n x v → Calls Tryz.prog 30 #[x] w (NewQ w (nq n v))

theorem only_below {w w' : World} (h : Below w.heap.size w w') : Only (fun _ => False) w w' := Only.of_below h (fun k hk _ => hk)

set_option maxHeartbeats 4000000 in
set_option maxRecDepth 100000 in
theorem nv_val {n : Nat} {v : JV} (hg : Good (n + 1) v) (h3 : ¬ (v.kind = 3 ∧ v.half < 0)) (h5 : ¬ v.kind = 5) (h6 : ¬ v.kind = 6) : NvSays (n + 1) v := by
  intro w B x hB hx
  have hnq : nq (n + 1) v = valQ v := by
    show (if v.kind = 3 ∧ v.half < 0 then _ else if v.kind = 5 then _ else if v.kind = 6 then _ else valQ v) = valQ v
    rw [if_neg h3, if_neg h5, if_neg h6]
  rw [hnq]
  have e1 : v.list = [] := hg.2.2.2.1.resolve_left h5
  have e2 : v.keys = [] := hg.2.2.2.2.1.resolve_left h6
  have e3 : v.vals = [] := List.eq_nil_of_length_eq_zero (by rw [← hg.2.2.2.2.2.1, e2]; rfl)
  obtain ⟨la, lc, ka, kc, va, vc, rfl, -, -, -, k1, k2, k3, k4, k5, k6, -⟩ := hx
  rw [e1, e2, e3]
  have hcl : Cln v lc kc vc := ⟨e1, e2, e3, k1, k2, k3, k4, k5, k6⟩
  have hb3 : (decide (v.kind = 3) = true ∧ decide (v.half < 0) = false) ∨ decide (v.kind = 3) = false := by
    by_cases h : v.kind = 3
    · left
      exact ⟨by simpa using h, by simpa using fun k => h3 ⟨h, k⟩⟩
    · right
      simpa using h
  have hb5 : decide (v.kind = 5) = false := by simpa using h5
  have hb6 : decide (v.kind = 6) = false := by simpa using h6
  obtain ⟨kd, hkd⟩ : ∃ kd, v.kind = kd := ⟨_, rfl⟩
  obtain ⟨hf, hhf⟩ : ∃ hf, v.half = hf := ⟨_, rfl⟩
  rw [hkd] at hb3 hb5 hb6 h5 h6 ⊢
  rw [hhf] at hb3 ⊢
  replace hkd := hide hkd
  replace hhf := hide hhf
  replace hcl := hide hcl
  clear hnq e1 e2 e3 k1 k2 k3 k4 k5 k6 h3 hg
  have h5' : (kd == 5) = false := by simpa using h5
  have h6' : (kd == 6) = false := by simpa using h6
  obtain ⟨W0, hW0⟩ : ∃ W0, W0 = (w.alloc (.cells #[.int .i64 kd, .int .i64 hf, .string v.text, .slice la 0 lc, .slice ka 0 kc, .slice va 0 vc] 26)).alloc (.cells zC 41) := ⟨_, rfl⟩
  have o0 : Only (fun _ => False) w W0 := by rw [hW0]; exact ((Only.refl _ w).alloc _).alloc _
  have k0 : Blk W0 (w.heap.size + 1) 41 zC := by rw [hW0]; exact Blk.new2 w _ _ _
  have z0 : Blk W0 w.heap.size 26 #[.int .i64 kd, .int .i64 hf, .string v.text, .slice la 0 lc, .slice ka 0 kc, .slice va 0 vc] := by rw [hW0]; exact (Blk.new w _ _).alloc _
  have s0 : W0.heap.size = w.heap.size + 2 := by rw [hW0]; simp
  obtain ⟨c0, c1, c2, c3, c4, c5⟩ := blk_six z0
  replace z0 := hide z0
  replace o0 := hide o0
  replace k0 := hide k0
  replace s0 := hide s0
  unfold zC at hW0
  go_enter Tryz.func30, Tryz.ntmps30
  go_upto_region 1 with fail
  rw [← hW0]
  clear hW0
  have hend : ∀ (e : Ending) (w' : World), e = .returned (.agg #[.string opVal, .string ⟨#[]⟩, .int .i64 kd, .int .i64 hf, .string v.text, .slice la 0 lc, .slice ka 0 kc, .slice va 0 vc, .slice none 0 0, .slice none 0 0, .slice none 0 0, .slice none 0 0]) → Below w.heap.size w w' → NewQ w (valQ v) e w' := by
    rintro e w' rfl hb
    refine ⟨[.string opVal, .string ⟨#[]⟩, .int .i64 kd, .int .i64 hf, .string v.text, .slice la 0 lc, .slice ka 0 kc, .slice va 0 vc, .slice none 0 0, .slice none 0 0, .slice none 0 0, .slice none 0 0], rfl, ?_, hb⟩
    rw [← hkd.out, ← hhf.out]
    exact QAt.make (q := valQ v) (A := none) (c := 0) hcl.out (show opVal.size ≤ 100 by decide) (Nat.zero_le _) (by decide) (fun h => absurd h (by simp [valQ, QV.kids]))
  replace hend := hide hend
  have hvl := hide (val_any W0 kd hf v.text la ka va 0 lc 0 kc 0 vc)
  rcases hb3 with ⟨hb, hb'⟩ | hb
  · have hb2 : (kd == 3) = true := by simpa using hb
    go_wp2_with (first
      | (go_at_call 31; refine hvl.out.mono ?_; rintro e W1 ⟨rfl, b1⟩; have o1 := hide (only_below b1); have k1 := hide (o1.out.blk k0.out (fun h => h)); clear b1)
      | (refine wpList_store_blk rfl _ _ _ rfl (w.heap.size + 1) _ rfl rfl 41 _ k1.out q_size rfl (by simp [Value.oneCell']) ?_; intro W2 k2 o2 s2; replace k2 := hide k2; replace o2 := hide o2; clear s2))
    (try simp only [Exit.inBlock, Exit.then])
    refine ret_q Tryz.results30 (w.heap.size + 1) _ rfl rfl k2.out rfl (hend.out _ _ rfl ?_)
    exact (((o0.out.trans o1.out).mono (Q := fun k => k = w.heap.size + 1) (fun _ h => h.elim)).trans o2.out).below (by intro k hk; omega) (Nat.le_refl _)
  · have hb2 : (kd == 3) = false := by simpa using hb
    go_wp2_with (first
      | (go_at_call 31; refine hvl.out.mono ?_; rintro e W1 ⟨rfl, b1⟩; have o1 := hide (only_below b1); have k1 := hide (o1.out.blk k0.out (fun h => h)); clear b1)
      | (refine wpList_store_blk rfl _ _ _ rfl (w.heap.size + 1) _ rfl rfl 41 _ k1.out q_size rfl (by simp [Value.oneCell']) ?_; intro W2 k2 o2 s2; replace k2 := hide k2; replace o2 := hide o2; clear s2))
    (try simp only [Exit.inBlock, Exit.then])
    refine ret_q Tryz.results30 (w.heap.size + 1) _ rfl rfl k2.out rfl (hend.out _ _ rfl ?_)
    exact (((o0.out.trans o1.out).mono (Q := fun k => k = w.heap.size + 1) (fun _ h => h.elim)).trans o2.out).below (by intro k hk; omega) (Nat.le_refl _)

set_option maxHeartbeats 4000000 in
set_option maxRecDepth 100000 in
theorem nv_neg {n : Nat} {v : JV} (hg : Good (n + 1) v) (h3 : v.kind = 3) (h4 : v.half < 0) : NvSays (n + 1) v := by
  intro w B x hB hx
  have hnq : nq (n + 1) v = ofQ opNeg [valQ (.mk 3 (-v.half) ⟨#[]⟩ [] [] [])] := by
    show (if v.kind = 3 ∧ v.half < 0 then _ else if v.kind = 5 then _ else if v.kind = 6 then _ else valQ v) = _
    rw [if_pos ⟨h3, h4⟩]
  rw [hnq]
  have hh := hg.2.2.2.2.2.2.1.1
  obtain ⟨la, lc, ka, kc, va, vc, rfl, -⟩ := hx
  clear hnq hg
  rw [h3]
  obtain ⟨hf, hhf⟩ : ∃ hf, v.half = hf := ⟨_, rfl⟩
  rw [hhf] at hh h4 ⊢
  replace hhf := hide hhf
  have hfs : -9223372036854775808 ≤ -hf ∧ -hf ≤ 9223372036854775807 := by omega
  replace hfs := hide hfs
  obtain ⟨W0, hW0⟩ : ∃ W0, W0 = (w.alloc (.cells #[.int .i64 3, .int .i64 hf, .string v.text, .slice la v.list.length lc, .slice ka v.keys.length kc, .slice va v.vals.length vc] 26)).alloc (.cells zC 41) := ⟨_, rfl⟩
  have o0 : Only (fun _ => False) w W0 := by rw [hW0]; exact ((Only.refl _ w).alloc _).alloc _
  have k0 : Blk W0 (w.heap.size + 1) 41 zC := by rw [hW0]; exact Blk.new2 w _ _ _
  have z0 : Blk W0 w.heap.size 26 #[.int .i64 3, .int .i64 hf, .string v.text, .slice la v.list.length lc, .slice ka v.keys.length kc, .slice va v.vals.length vc] := by rw [hW0]; exact (Blk.new w _ _).alloc _
  have s0 : W0.heap.size = w.heap.size + 2 := by rw [hW0]; simp
  obtain ⟨c0, c1, c2, c3, c4, c5⟩ := blk_six z0
  replace z0 := hide z0
  replace o0 := hide o0
  replace k0 := hide k0
  replace s0 := hide s0
  unfold zC at hW0
  go_enter Tryz.func30, Tryz.ntmps30
  go_upto_region 1 with fail
  rw [← hW0]
  clear hW0
  have hvl := hide (val_any W0 3 (-hf) ⟨#[]⟩ none none none 0 0 0 0 0 0)
  go_wp2_with (first
    | (go_at_call 31; refine hvl.out.mono ?_; rintro e W1 ⟨rfl, b1⟩; have o1 := hide (only_below b1); have k1 := hide (o1.out.blk k0.out (fun h => h)); have l1 := b1.size; clear b1)
    | (refine wpList_bs1 rfl _ rfl _ rfl rfl ?_; intro W2 kb o2 s2; have k2 := hide (o2.blk k1.out (fun h => h)); replace kb := hide kb; replace o2 := hide o2; replace s2 := hide s2)
    | (go_at_call 33; refine (of_any W2 opNeg (some ⟨W1.heap.size, 0, none⟩) 1 1).mono ?_; rintro e W3 ⟨rfl, b3⟩; have o3 := hide (only_below b3); have k3 := hide (o3.out.blk k2.out (fun h => h)); have kc := hide (o3.out.blk kb.out (fun h => h)); clear b3)
    | (refine wpList_store_blk rfl _ _ _ rfl (w.heap.size + 1) _ rfl rfl 41 _ k3.out q_size rfl (by simp [ofC, Value.oneCell']) ?_; intro W4 k4 o4 s4; replace k4 := hide k4; replace o4 := hide o4; clear s4))
  (try simp only [Exit.inBlock, Exit.then])
  have s0' := s0.out
  have hqv : QAt W4 (w.heap.size ≤ ·) [.string opVal, .string ⟨#[]⟩, .int .i64 3, .int .i64 (-hf), .string ⟨#[]⟩, .slice none 0 0, .slice none 0 0, .slice none 0 0, .slice none 0 0, .slice none 0 0, .slice none 0 0, .slice none 0 0] (valQ (.mk 3 (-hf) ⟨#[]⟩ [] [] [])) :=
    QAt.ofVal (v := .mk 3 (-hf) ⟨#[]⟩ [] [] []) rfl rfl rfl (show (0 : Nat) ≤ 9223372036854775807 by decide) (show (-9223372036854775808 : Int) ≤ 3 ∧ (3 : Int) ≤ 9223372036854775807 by decide) hfs.out
  have hkb : Blk W4 W1.heap.size 41 _ := o4.out.blk kc.out (by omega)
  refine ret_q Tryz.results30 (w.heap.size + 1) _ rfl rfl k4.out rfl ⟨ofC opNeg (some ⟨W1.heap.size, 0, none⟩) 1 1, rfl, ?_, ?_⟩
  · exact QAt.of rfl (by decide) (by decide) (by decide) (QRow.blk (QRow.one hqv) hkb (by omega))
  · exact ((((o0.out.trans o1.out).trans o2.out).trans o3.out).no.trans o4.out).below (by intro k hk; omega) (Nat.le_refl _)

set_option maxHeartbeats 4000000 in
set_option maxRecDepth 100000 in
theorem nv_none {n : Nat} {v : JV} (h3 : v.kind = 5) (h4 : v.list = []) : NvSays (n + 1) v := by
  intro w B x hB hx
  have hnq : nq (n + 1) v = ofQ opList [] := by
    show (if v.kind = 3 ∧ v.half < 0 then _ else if v.kind = 5 then _ else if v.kind = 6 then _ else valQ v) = _
    rw [if_neg (by omega), if_pos h3, h4]
    rfl
  rw [hnq]
  obtain ⟨la, lc, ka, kc, va, vc, rfl, -⟩ := hx
  clear hnq
  rw [h3, h4]
  obtain ⟨hf, hhf⟩ : ∃ hf, v.half = hf := ⟨_, rfl⟩
  rw [hhf]
  replace hhf := hide hhf
  obtain ⟨W0, hW0⟩ : ∃ W0, W0 = (w.alloc (.cells #[.int .i64 5, .int .i64 hf, .string v.text, .slice la 0 lc, .slice ka v.keys.length kc, .slice va v.vals.length vc] 26)).alloc (.cells zC 41) := ⟨_, rfl⟩
  have o0 : Only (fun _ => False) w W0 := by rw [hW0]; exact ((Only.refl _ w).alloc _).alloc _
  have k0 : Blk W0 (w.heap.size + 1) 41 zC := by rw [hW0]; exact Blk.new2 w _ _ _
  have z0 : Blk W0 w.heap.size 26 #[.int .i64 5, .int .i64 hf, .string v.text, .slice la 0 lc, .slice ka v.keys.length kc, .slice va v.vals.length vc] := by rw [hW0]; exact (Blk.new w _ _).alloc _
  have s0 : W0.heap.size = w.heap.size + 2 := by rw [hW0]; simp
  obtain ⟨c0, c1, c2, c3, c4, c5⟩ := blk_six z0
  replace z0 := hide z0
  replace o0 := hide o0
  replace k0 := hide k0
  replace s0 := hide s0
  unfold zC at hW0
  go_enter Tryz.func30, Tryz.ntmps30
  go_upto_region 1 with fail
  rw [← hW0]
  clear hW0
  go_wp2_with (first
    | (go_at_call 33; refine (of_any W0 opList none 0 0).mono ?_; rintro e W3 ⟨rfl, b3⟩; have o3 := hide (only_below b3); have k3 := hide (o3.out.blk k0.out (fun h => h)); clear b3)
    | (refine wpList_store_blk rfl _ _ _ rfl (w.heap.size + 1) _ rfl rfl 41 _ k3.out q_size rfl (by simp [ofC, Value.oneCell']) ?_; intro W4 k4 o4 s4; replace k4 := hide k4; replace o4 := hide o4; clear s4))
  (try simp only [Exit.inBlock, Exit.then])
  refine ret_q Tryz.results30 (w.heap.size + 1) _ rfl rfl k4.out rfl ⟨ofC opList none 0 0, rfl, ?_, ?_⟩
  · exact QAt.of rfl (by decide) (by decide) (by decide) (fun h => absurd h (by decide))
  · exact ((o0.out.trans o3.out).no.trans o4.out).below (by intro k hk; omega) (Nat.le_refl _)

end Go.Proofs.YtbnbemacljjimaaGreatDoor

namespace Go.Proofs.YtbnbemacljjimaaGreatDoor
open Go.RowKit Go.Lib
set_option linter.unusedVariables false

/-- A list's right form, from its i-th element on. -/
def nqD : List QV → Nat → QV
  | [], _ => valQ (.mk 0 0 ⟨#[]⟩ [] [] [])
  | x :: xs, 0 => nqC x xs
  | _ :: xs, i + 1 => nqD xs i
theorem nqD_last : ∀ (l : List QV) (i : Nat) (x : QV), l[i]? = some x → i + 1 = l.length → nqD l i = x
  | [], _, _, h, _ => by simp at h
  | [y], 0, x, h, _ => by simp at h; subst h; rfl
  | y :: z :: l, 0, x, h, e => by simp at e
  | _ :: l, i + 1, x, h, e => nqD_last l i x (by simpa using h) (by simpa using e)
theorem nqD_step : ∀ (l : List QV) (i : Nat) (x : QV), l[i]? = some x → i + 1 < l.length → nqD l i = ofQ opCom [x, nqD l (i + 1)]
  | [], _, _, h, _ => by simp at h
  | [y], 0, x, h, e => by simp at e
  | y :: z :: l, 0, x, h, e => by simp at h; subst h; rfl
  | _ :: l, i + 1, x, h, e => nqD_step l i x (by simpa using h) (by simpa using e)
theorem val_six : (Tryz.prog.info? 26).map (·.size) = some 6 := val_size

set_option maxHeartbeats 8000000 in
set_option maxRecDepth 100000 in
theorem nv_list {n m : Nat} {v : JV} (hS : ∀ x ∈ v.list, NvSays n x) (h3 : v.kind = 5) (hm : v.list.length = m + 1) : NvSays (n + 1) v := by
  intro w B x hB hx
  have hnq : nq (n + 1) v = ofQ opList [nqD (v.list.map (nq n)) 0] := by
    show (if v.kind = 3 ∧ v.half < 0 then _ else if v.kind = 5 then _ else if v.kind = 6 then _ else valQ v) = _
    rw [if_neg (by omega), if_pos h3]
    obtain ⟨a, l, hl⟩ : ∃ a l, v.list = a :: l := by
      cases h : v.list with
      | nil => rw [h] at hm; simp at hm
      | cons a l => exact ⟨a, l, rfl⟩
    rw [hl]
    rfl
  rw [hnq]
  obtain ⟨la, lc, ka, kc, va, vc, rfl, q1, -, -, q2, -, -, -, -, -, hvl, -⟩ := hx
  clear hnq
  have hrow : ∀ (i : Nat) (u : JV), v.list[i]? = some u → ∃ (b o : Nat) (ys : List Value), la = some ⟨b, o, none⟩ ∧ b < B ∧ ys.length = 6 ∧ JAt w B n (.agg ys.toArray) u ∧ ∀ j z, ys[j]? = some z → w.cell? ⟨b, o + i * 6 + j, none⟩ = some z := fun i u hi => hvl.row6 hi
  obtain ⟨um, hum⟩ : ∃ u, v.list[m]? = some u := ⟨_, List.getElem?_eq_getElem (by omega)⟩
  obtain ⟨b, o, ym, hla, hbB, -⟩ := hrow m um hum
  subst hla
  have hrow' : ∀ (i : Nat) (u : JV), v.list[i]? = some u → ∃ (ys : List Value), ys.length = 6 ∧ JAt w B n (.agg ys.toArray) u ∧ ∀ j z, ys[j]? = some z → w.cell? ⟨b, o + i * 6 + j, none⟩ = some z := fun i u hi => by
    obtain ⟨b', o', ys, e, -, h2, h3, h4⟩ := hrow i u hi
    cases e
    exact ⟨ys, h2, h3, h4⟩
  clear hrow hvl
  rw [h3, hm]
  have hbw : b < w.heap.size := by omega
  have hlc : m + 1 ≤ lc := by omega
  obtain ⟨hf, hhf⟩ : ∃ hf, v.half = hf := ⟨_, rfl⟩
  rw [hhf]
  replace hhf := hide hhf
  replace hm := hide hm
  replace hum := hide hum
  replace hrow := hide hrow'
  replace hS := hide hS
  clear hrow' q1
  obtain ⟨W0, hW0⟩ : ∃ W0, W0 = (w.alloc (.cells #[.int .i64 5, .int .i64 hf, .string v.text, .slice (some ⟨b, o, none⟩) (m + 1) lc, .slice ka v.keys.length kc, .slice va v.vals.length vc] 26)).alloc (.cells zC 41) := ⟨_, rfl⟩
  have o0 : Only (fun _ => False) w W0 := by rw [hW0]; exact ((Only.refl _ w).alloc _).alloc _
  have k0 : Blk W0 (w.heap.size + 1) 41 zC := by rw [hW0]; exact Blk.new2 w _ _ _
  have z0 : Blk W0 w.heap.size 26 #[.int .i64 5, .int .i64 hf, .string v.text, .slice (some ⟨b, o, none⟩) (m + 1) lc, .slice ka v.keys.length kc, .slice va v.vals.length vc] := by rw [hW0]; exact (Blk.new w _ _).alloc _
  have s0 : W0.heap.size = w.heap.size + 2 := by rw [hW0]; simp
  obtain ⟨c0, c1, c2, c3, c4, c5⟩ := blk_six z0
  replace z0 := hide z0
  replace o0 := hide o0
  replace k0 := hide k0
  replace s0 := hide s0
  unfold zC at hW0
  obtain ⟨ym, hy6, hjm, hcm⟩ := hrow.out m um hum.out
  have hw0 : ∀ p : Addr, p.block < w.heap.size → W0.cell? p = w.cell? p := fun p hp => only_cell o0.out p (fun h => h) hp
  have hjm0 := hide (JAt.keep (B := B) (fun p hp => hw0 p (by omega)) (Nat.le_refl _) n _ _ hjm)
  have hcm0 : ∀ j z, ym[j]? = some z → W0.cell? ((⟨b, o + m * 6, none⟩ : Addr).add j) = some z := fun j z hz => by rw [add_flat, hw0 _ hbw]; exact hcm j z hz
  replace hcm0 := hide hcm0
  replace hy6 := hide hy6
  clear hjm hcm hw0
  have hBW0 : B ≤ W0.heap.size := by have := s0.out; omega
  go_enter Tryz.func30, Tryz.ntmps30
  go_upto_region 1 with fail
  rw [← hW0]
  clear hW0
  go_upto_region 6 with fail
  go_upto_region 7 with (first
    | (refine wpList_load_at rfl _ _ rfl ⟨b, o + m * 6, none⟩ rfl ym _ hcm0.out Tryz.underlying26 rfl (by rw [hy6.out]; exact val_size) ?_)
    | (go_at_call 30; refine (hS.out um (List.mem_of_getElem? hum.out) W0 B _ hBW0 hjm0.out).mono ?_; rintro e W1 ⟨y, rfl, hy, b1⟩; have o1 := hide (only_below b1); have hys := hide hy.sz; have hya := hide hy.all; replace hy := hide hy; clear b1)
    | (refine wpList_store_blk rfl _ _ _ rfl W1.heap.size y.toArray rfl rfl 41 _ (Blk.new W1 _ _) (by rw [hys.out]; exact q_size) (by rw [hys.out]; rfl) hya.out ?_; intro W2 k2 o2 s2; replace k2 := hide k2; replace o2 := hide (only_new o2); clear s2))
  obtain ⟨G, hG⟩ : ∃ G, W1.heap.size = G := ⟨_, rfl⟩
  have hGw : w.heap.size + 1 < G := by have := s0.out; have := o1.out.size; omega
  rw [hG] at k2 ⊢
  have hy2 := hide (hy.out.only o2.out (fun _ _ _ h => h) (P' := Pf (w.heap.size + 2) G) (fun b hb h => ⟨by have h' : W0.heap.size ≤ b := h; have := s0.out; omega, by omega⟩))
  have z2 := hide (o2.out.blk (o1.out.blk z0.out (fun h => h)) (fun h => h))
  have r2 := hide (o2.out.blk (o1.out.blk k0.out (fun h => h)) (fun h => h))
  have d3 := z2.out.cell 3
  simp at d3
  go_wp2_with fail
  go_loopw [4] (fun s4 wr => ∃ (j : Nat) (u : List Value), s4 = .int .i64 ((j : Int) - 1) ∧ j ≤ m ∧ Blk wr G 41 u.toArray ∧ QAt wr (Pf (w.heap.size + 2) G) u (nqD (v.list.map (nq n)) j) ∧ Only (· = G) W2 wr) (fun i _ => (Lib.intOf i + 1).toNat)
  case atStart => exact ⟨m, y, by go_num, Nat.le_refl _, k2.out, by rw [nqD_last (v.list.map (nq n)) m (nq n um) (by rw [List.getElem?_map, hum.out]; rfl) (by rw [List.length_map, hm.out])]; exact hy2.out, Only.refl _ _⟩
  case round =>
    obtain ⟨j, u, rfl, hj, kG, hu, ho⟩ := hrel
    have hcw := hide (((o0.out.trans o1.out).trans o2.out).no.trans ho)
    have hzr := hide (ho.blk z2.out (by omega))
    have hrr := hide (ho.blk r2.out (by omega))
    have hus := hide hu.sz
    have hua := hide hu.all
    have hGwr := kG.lt
    have hBwr : w.heap.size ≤ wr.heap.size := hcw.out.size
    have hBwr2 : w.heap.size + 2 ≤ wr.heap.size := by omega
    rcases Nat.eq_zero_or_pos j with rfl | hjp
    · replace ho := hide ho
      replace kG := hide kG
      replace hu := hide hu
      rw [show (((0 : Nat) : Int) - 1) = -1 from rfl]
      go_wp2_with (first
        | (refine wpList_load_row rfl _ _ rfl G rfl 41 u.toArray (0, 0) _ kG.out Tryz.underlying41 rfl (by rw [hus.out]; exact q_size) ?_)
        | (refine wpList_bs1 rfl _ rfl _ rfl hus.out ?_; intro W3 kb o3 s3; have k3 := hide (o3.blk hrr.out (fun h => h)); replace kb := hide kb; replace o3 := hide o3; replace s3 := hide s3)
        | (go_at_call 33; refine (of_any W3 opList (some ⟨wr.heap.size, 0, none⟩) 1 1).mono ?_; rintro e W4 ⟨rfl, b4⟩; have o4 := hide (only_below b4); have k4 := hide (o4.out.blk k3.out (fun h => h)); have kc := hide (o4.out.blk kb.out (fun h => h)); clear b4)
        | (refine wpList_store_blk rfl _ _ _ rfl (w.heap.size + 1) _ rfl rfl 41 _ k4.out q_size rfl (by simp [ofC, Value.oneCell']) ?_; intro W5 k5 o5 s5; replace k5 := hide k5; replace o5 := hide o5; clear s5))
      (try simp only [Exit.inBlock, Exit.then])
      have hb5 : Blk W5 wr.heap.size 41 u.toArray := o5.out.blk kc.out (by omega)
      have hu5 : QAt W5 (w.heap.size ≤ ·) u (nqD (v.list.map (nq n)) 0) := by
        refine hu.out.only ((o3.out.trans o4.out).no.trans o5.out) (fun b' hb1 _ e => by have h1 : w.heap.size + 2 ≤ b' := hb1.1; have h2 : b' = w.heap.size + 1 := e; omega) (fun b' _ h => by have h1 : w.heap.size + 2 ≤ b' := h.1; show w.heap.size ≤ b'; omega)
      refine ret_q Tryz.results30 (w.heap.size + 1) _ rfl rfl k5.out rfl ⟨ofC opList (some ⟨wr.heap.size, 0, none⟩) 1 1, rfl, ?_, ?_⟩
      · exact QAt.of rfl (by decide) (by decide) (by decide) (QRow.blk (QRow.one hu5) hb5 (by omega))
      · exact ((hcw.out.below (B := w.heap.size) (by intro k hk; omega) (Nat.le_refl _)).trans (((o3.out.trans o4.out).no.trans o5.out).below (by intro k hk; omega) hBwr))
    · obtain ⟨i, rfl⟩ : ∃ i, j = i + 1 := ⟨j - 1, by omega⟩
      have hji : ((i + 1 : Nat) : Int) - 1 = (i : Int) := by omega
      rw [hji]
      replace hji := hide hji
      have him : i < v.list.length := by rw [hm.out]; omega
      obtain ⟨xi, hxi⟩ : ∃ u, v.list[i]? = some u := ⟨_, List.getElem?_eq_getElem him⟩
      obtain ⟨ys, hy6', hji', hcc⟩ := hrow.out i xi hxi
      have hSi := hide (hS.out xi (List.mem_of_getElem? hxi))
      have d3r := hzr.out.cell 3
      simp at d3r
      replace hxi := hide hxi
      replace hji' := hide hji'
      replace hcc := hide hcc
      replace hy6' := hide hy6'
      replace kG := hide kG
      replace hu := hide hu
      clear him d3 c0 c1 c2 c3 c4 c5
      replace ho := hide ho
      go_upto_region 10 with fail
      refine wp_region_inv (by kernel_rfl) (fun listed a w' => ∃ (s55 s56 s57 s58 s59 s60 s61 s62 s63 : Value), a = ⟨#[.agg #[.int .i64 5, .int .i64 hf, .string v.text, .slice (some ⟨b, o, none⟩) (m + 1) lc, .slice ka v.keys.length kc, .slice va v.vals.length vc], .pointer (some ⟨w.heap.size, 0, none⟩), .pointer (some ⟨w.heap.size + 1, 0, none⟩), .pointer (some ⟨G, 0, none⟩), .int .i64 ↑i, undef, undef, .bool false, .pointer (some ⟨w.heap.size, 0, none⟩), .int .i64 5, .bool false, .bool false, undef, undef, undef, .bool false, undef, undef, undef, undef, undef, undef, undef, .bool false, .pointer (some ⟨w.heap.size, 0, none⟩), .int .i64 5, .bool true, .bool true, .pointer (some ⟨w.heap.size, 3, none⟩), .slice (some ⟨b, o, none⟩) (m + 1) lc, .int .i64 (↑m + 1), .bool false, .bool false, undef, .bool true, .pointer (some ⟨w.heap.size, 0, none⟩), .int .i64 5, .bool true, .pointer (some ⟨w.heap.size, 3, none⟩), .slice (some ⟨b, o, none⟩) (m + 1) lc, .pointer (some ⟨w.heap.size, 3, none⟩), .slice (some ⟨b, o, none⟩) (m + 1) lc, .int .i64 (↑m + 1), .int .i64 ↑m, .pointer (some ⟨b, o + m * 6, none⟩), .agg ym.toArray, .agg y.toArray, .pointer (some ⟨w.heap.size, 3, none⟩), .slice (some ⟨b, o, none⟩) (m + 1) lc, .int .i64 (↑m + 1), .int .i64 (↑m + 1 - 2), .int .i64 ↑i, .bool true, u53, u54, s55, s56, s57, s58, s59, s60, s61, s62, s63, undef, undef, undef, undef, undef, undef, undef, undef, undef, undef, undef, undef, undef, undef, undef, undef, undef, undef, undef, undef, undef, undef, undef, undef, undef, undef, undef, undef, undef, undef, undef, undef, undef, undef, undef, undef], []⟩ ∧ listed.size = 10 ∧ Lv listed [s55, s56, s57, s58, s59, .bool true, s61, .bool true, .bool true, .bool true] [.pointer (some ⟨w.heap.size, 3, none⟩), .slice (some ⟨b, o, none⟩) (m + 1) lc, .int .i64 ↑i, .pointer (some ⟨b, o + i * 6, none⟩), .agg ys.toArray, .bool true, .agg u.toArray, .bool true, .bool true, .bool true] ∧ OfW wr G (w.heap.size + 2) u (nqD (v.list.map (nq n)) (i + 1)) (nq n xi) opCom 5 6 7 8 9 listed w' s60 s62 s63) ?start ?step ?stop
      case start => exact ⟨_, _, _, _, _, _, _, _, _, rfl, rfl, Lv.start, OfW.start kG.out hu.out⟩
      case step =>
        rintro listed a w' i ⟨s55, s56, s57, s58, s59, s60, s61, s62, s63, rfl, hsz, HL, H⟩ hi
        have hun := Up.un hi
        have hltn : i < 10 := by
          obtain ⟨-, o, ho, -⟩ := mem_ready.1 hi
          rcases Nat.lt_or_ge i 10 with h | h
          · exact h
          · rw [Array.getElem?_eq_none (by exact h)] at ho
            cases ho
        have hsz2 : ∀ i, (listed.setIfInBounds i true).size = 10 := fun i => by rw [Array.size_setIfInBounds]; exact hsz
        replace hsz2 := hide hsz2
        have hin : i = 0 ∨ i = 1 ∨ i = 2 ∨ i = 3 ∨ i = 4 ∨ i = 5 ∨ i = 6 ∨ i = 7 ∨ i = 8 ∨ i = 9 := by omega
        clear hltn
        rcases hin with rfl | rfl | rfl | rfl | rfl | rfl | rfl | rfl | rfl | rfl
        · replace H := hide H
          replace HL := hide HL
          replace hi := hide hi
          replace hun := hide hun
          replace hsz := hide hsz
          refine wpOp_of_list rfl ?_
          go_wp2_with fail
          exact Then.normal ⟨_, _, _, _, _, _, _, _, _, rfl, (by first | exact hsz2.out _ | exact hsz.out), HL.out.put 0 rfl, H.out.put 0 rfl rfl rfl rfl⟩
        · obtain rfl := HL.get 0 rfl rfl (Up.waits hi 0 (by kernel_rfl))
          have d3 := (only_cell H.onl (⟨w.heap.size, 3, none⟩ : Addr) (fun h => by have h' : w.heap.size = G := h; omega) (by show w.heap.size < wr.heap.size; omega)).trans d3r
          replace H := hide H
          replace HL := hide HL
          replace hi := hide hi
          replace hun := hide hun
          replace hsz := hide hsz
          refine wpOp_of_list rfl ?_
          go_wp2_with fail
          exact Then.normal ⟨_, _, _, _, _, _, _, _, _, rfl, (by first | exact hsz2.out _ | exact hsz.out), HL.out.put 1 rfl, H.out.put 1 rfl rfl rfl rfl⟩
        · replace H := hide H
          replace HL := hide HL
          replace hi := hide hi
          replace hun := hide hun
          replace hsz := hide hsz
          refine wpOp_of_list rfl ?_
          go_wp2_with fail
          exact Then.normal ⟨_, _, _, _, _, _, _, _, _, rfl, (by first | exact hsz2.out _ | exact hsz.out), HL.out.put 2 rfl, H.out.put 2 rfl rfl rfl rfl⟩
        · obtain rfl := HL.get 1 rfl rfl (Up.waits hi 1 (by kernel_rfl))
          obtain rfl := HL.get 2 rfl rfl (Up.waits hi 2 (by kernel_rfl))
          replace H := hide H
          replace HL := hide HL
          replace hi := hide hi
          replace hun := hide hun
          replace hsz := hide hsz
          refine wpOp_of_list rfl ?_
          go_wp2_with fail
          exact Then.normal ⟨_, _, _, _, _, _, _, _, _, rfl, (by first | exact hsz2.out _ | exact hsz.out), HL.out.put 3 rfl, H.out.put 3 rfl rfl rfl rfl⟩
        · obtain rfl := HL.get 3 rfl rfl (Up.waits hi 3 (by kernel_rfl))
          have hcl : ∀ j z, ys[j]? = some z → w'.cell? ((⟨b, o + i * 6, none⟩ : Addr).add j) = some z := fun j z hz => by rw [add_flat, only_cell (hcw.out.trans H.onl) (⟨b, o + i * 6 + j, none⟩ : Addr) (fun h => by have h' : b = G := h; omega) hbw]; exact hcc.out j z hz
          replace hcl := hide hcl
          replace H := hide H
          replace HL := hide HL
          replace hi := hide hi
          replace hun := hide hun
          replace hsz := hide hsz
          refine wpOp_of_list rfl ?_
          go_wp2_with (refine wpList_load_at rfl _ _ rfl ⟨b, o + i * 6, none⟩ rfl ys _ hcl.out Tryz.underlying26 rfl (by rw [hy6'.out]; exact val_size) ?_)
          exact Then.normal ⟨_, _, _, _, _, _, _, _, _, rfl, (by first | exact hsz2.out _ | exact hsz.out), HL.out.put 4 rfl, H.out.put 4 rfl rfl rfl rfl⟩
        · obtain rfl := HL.get 4 rfl rfl (Up.waits hi 4 (by kernel_rfl))
          have hjx := hide (JAt.keep (B := B) (w' := w') (fun p hp => only_cell (hcw.out.trans H.onl) p (fun h => by have h' : p.block = G := h; omega) (by omega)) (Nat.le_refl _) n _ _ hji'.out)
          have hBw' : B ≤ w'.heap.size := by have := H.onl.size; omega
          replace H := hide H
          replace HL := hide HL
          replace hi := hide hi
          replace hun := hide hun
          replace hsz := hide hsz
          refine wpOp_of_list rfl ?_
          go_wp2_with (go_at_call 30; refine (hSi.out w' B _ hBw' hjx.out).mono ?_; rintro e5 W5 ⟨z, rfl, hz, b5⟩)
          exact Then.normal ⟨_, _, _, _, _, _, _, _, _, rfl, (by first | exact hsz2.out _ | exact hsz.out), HL.out.put 5 rfl, H.out.cc hun.out rfl rfl rfl hGwr hBwr2 (only_below b5) hz⟩
        · have kk := hide (H.kg (fun h => Up.no hun (H.ex (H.e2 (H.e3 h)))))
          replace H := hide H
          replace HL := hide HL
          replace hi := hide hi
          replace hun := hide hun
          replace hsz := hide hsz
          refine wpOp_of_list rfl ?_
          go_wp2_with (refine wpList_load_row rfl _ _ rfl G rfl 41 u.toArray (0, 0) _ kk.out Tryz.underlying41 rfl (by rw [hus.out]; exact q_size) ?_)
          exact Then.normal ⟨_, _, _, _, _, _, _, _, _, rfl, (by first | exact hsz2.out _ | exact hsz.out), HL.out.put 6 rfl, H.out.put 6 rfl rfl rfl rfl⟩
        · obtain rfl := HL.get 6 rfl rfl (Up.waits hi 6 (by kernel_rfl))
          have u5 := hide (Up.waits hi 5 (by kernel_rfl))
          have u6 := hide (Up.waits hi 6 (by kernel_rfl))
          obtain ⟨z, rfl, hz⟩ := H.fc u5.out
          have hzs := hide hz.sz
          replace hz := hide hz
          replace H := hide H
          replace HL := hide HL
          replace hi := hide hi
          replace hun := hide hun
          replace hsz := hide hsz
          refine wpOp_of_list rfl ?_
          go_wp2_with (refine wpList_bs2 rfl _ _ rfl z u rfl rfl hzs.out hus.out ?_; intro W6 k6 o6 s6)
          exact Then.normal ⟨_, _, _, _, _, _, _, _, _, rfl, (by first | exact hsz2.out _ | exact hsz.out), HL.out.put 7 rfl, H.out.cb hun.out u5.out u6.out rfl rfl hGwr hBwr2 hz.out o6 k6⟩
        · have u7 := hide (Up.waits hi 7 (by kernel_rfl))
          obtain ⟨K, rfl, hK⟩ := H.fb u7.out
          replace hK := hide hK
          replace H := hide H
          replace HL := hide HL
          replace hi := hide hi
          replace hun := hide hun
          replace hsz := hide hsz
          refine wpOp_of_list rfl ?_
          go_wp2_with (go_at_call 33; refine (of_any w' opCom (some ⟨K, 0, none⟩) 2 2).mono ?_; rintro e7 W7 ⟨rfl, b7⟩)
          exact Then.normal ⟨_, _, _, _, _, _, _, _, _, rfl, (by first | exact hsz2.out _ | exact hsz.out), HL.out.put 8 rfl, H.out.co hun.out u7.out rfl hK.out (only_below b7)⟩
        · have u8 := hide (Up.waits hi 8 (by kernel_rfl))
          obtain ⟨K, rfl, hK⟩ := H.fo u8.out
          have kk := hide (H.kg (Up.no hun))
          replace hK := hide hK
          replace H := hide H
          replace HL := hide HL
          replace hi := hide hi
          replace hun := hide hun
          replace hsz := hide hsz
          refine wpOp_of_list rfl ?_
          go_wp2_with (refine wpList_store_blk rfl _ _ _ rfl G (ofC opCom (some ⟨K, 0, none⟩) 2 2).toArray rfl rfl 41 _ kk.out q_size (by rw [hus.out]; rfl) (by simp [ofC, Value.oneCell']) ?_; intro W8 k8 o8 s8)
          exact Then.normal ⟨_, _, _, _, _, _, _, _, _, rfl, (by first | exact hsz2.out _ | exact hsz.out), HL.out.put 9 rfl, H.out.cs hun.out u8.out hK.out o8 k8⟩
      case stop =>
        rintro listed a w' ⟨s55, s56, s57, s58, s59, s60, s61, s62, s63, rfl, hsz, HL, H⟩ hi
        have hall := Up.all hsz (by kernel_rfl) hi
        obtain ⟨K, hk, hK⟩ := H.fs (hall 9 (by decide))
        have ho9 := hide H.onl
        clear H HL hall hi
        replace hk := hide hk
        replace hK := hide hK
        go_wp2_with fail
        go_roundw
        case rel => exact ⟨i, _, by go_num, by omega, hk.out, by rw [nqD_step (v.list.map (nq n)) i (nq n xi) (by rw [List.getElem?_map, hxi.out]; rfl) (by rw [List.length_map, hm.out]; omega)]; exact QAt.of rfl (by decide) (by decide) (by decide) hK.out, ho.out.trans ho9.out⟩
        case measure => simp [Lib.intOf]
end Go.Proofs.YtbnbemacljjimaaGreatDoor
