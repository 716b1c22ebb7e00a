/- The parts of commas within each other (printed by mknqa.py). -/
import Derived.Test.YtbnbemacljjimaaGreatDoorJc24
namespace Go.Proofs.YtbnbemacljjimaaGreatDoor
open Go.RowKit Go.Lib
set_option linter.unusedVariables false

theorem run_loadVar_at {P : Program} (w : World) (p : Addr) (ty : TypeId) (cs : List Value) (d : TypeDesc) (hc : ∀ j u, cs[j]? = some u → w.cell? (p.add j) = some u) (hu : P.underlying ty = some d)
    (hd : (match d with | .struct _ | .array _ _ => true | _ => false) = true) (hi : (P.info? ty).map (·.size) = some cs.length) : (loadVar ty p).run P w = .ok (.agg cs.toArray) w := by
  have hl : (loadCells p cs.length).run P w = .ok cs.toArray w := run_loadCells_list (P := P) w p cs hc
  cases hq : P.info? ty with
  | none => simp [hq] at hi
  | some i =>
    have hs : i.size = cs.length := by simpa [hq] using hi
    have hagg : (isAgg ty).run P w = .ok true w := by
      unfold isAgg
      rw [Sem.run_bind, run_underlying hu w]
      cases d <;> simp_all
    simp [loadVar, Sem.run_bind, hagg, sizeOf, typeInfo, hq, hs, hl]
theorem wpList_load_at {P : Program} {ops : Array Oper} {rest : List Oper} {o : Oper} {a : Act} {w : World} {Q : Exit → Act → World → Prop} (hgd : o.guard = none) (ty : TypeId) (x : Operand) (ho : o.op = .load ty x)
    (p : Addr) (hx : a.eval x = .pointer (some p)) (cs : List Value) (d : TypeDesc) (hc : ∀ j u, cs[j]? = some u → w.cell? (p.add j) = some u)
    (hu : P.underlying ty = some d) (hd : (match d with | .struct _ | .array _ _ => true | _ => false) = true) (hi : (P.info? ty).map (·.size) = some cs.length)
    (h : wpList P ops Q rest (a.put o.dst (.agg cs.toArray)) w) : wpList P ops Q (o :: rest) a w :=
  wpList_plain hgd fun _ hK => by
    unfold Oper.wp execOp
    simp only [ho, hx, Instr.loadAt, Instr.sureAddr, Sem.run_bind, Sem.run_pure, Result.andThen_ok, run_loadVar_at w p ty cs d hc hu hd hi]
    exact hK _ _ h

theorem add_flat (b o j : Nat) : (⟨b, o, none⟩ : Addr).add j = ⟨b, o + j, none⟩ := by unfold Addr.add; split <;> simp_all

/-- A row of queries that is of its own, at B or above; the queries' rows lie among P. -/
def ChAt (w : World) (B : Nat) (P : Nat → Prop) (v : Value) (l : List QV) : Prop := ∃ g c xs, v = .slice (some ⟨g, 0, none⟩) l.length c ∧ B ≤ g ∧ w.ownsRow B 41 12 v l.length xs ∧ QRow w P xs l
theorem ChAt.only {w w' : World} {B : Nat} {P Z : Nat → Prop} {v : Value} {l : List QV} (h : ChAt w B P v l) (ho : Only Z w w') (hZ : ∀ k, Z k → k < B ∧ ¬ P k) : ChAt w' B P v l := by
  obtain ⟨g, c, xs, rfl, hg, h1, h2⟩ := h
  exact ⟨g, c, xs, rfl, hg, ho.own h1 (fun k hk hz => by have := hZ k hz; cases hk; exact absurd this.1 (Nat.not_lt.2 hg)), h2.only ho (fun b hb _ hz => (hZ b hz).2 hb) (fun b _ h => h)⟩
theorem own_base {w : World} {B B' size n : Nat} {e : TypeId} {v : Value} {xs : List Value} (h : w.ownsRow B e size v n xs) (hb : B' ≤ B) : w.ownsRow B' e size v n xs := by
  refine ⟨h.1, ?_⟩
  rcases h.2 with h2 | ⟨g, cap, cur, h3, h4, h5⟩
  · exact Or.inl h2
  · exact Or.inr ⟨g, cap, cur, h3, Nat.le_trans hb h4, h5⟩
theorem ChAt.base {w : World} {B B' : Nat} {P : Nat → Prop} {v : Value} {l : List QV} (h : ChAt w B P v l) (hb : B' ≤ B) : ChAt w B' P v l := by
  obtain ⟨g, c, xs, rfl, hg, h1, h2⟩ := h
  exact ⟨g, c, xs, rfl, Nat.le_trans hb hg, own_base h1 hb, h2⟩

/-- chain gives these parts. -/
def ChSays (q : QV) (l : List QV) : Prop := ∀ (w : World) (P : Nat → Prop) (x : List Value), (∀ b, P b → b < w.heap.size) → QAt w P x q →
  Calls Tryz.prog 35 #[.agg x.toArray, .string opCom] w fun e w' => ∃ v, e = .returned v ∧ ChAt w' w.heap.size P v l ∧ Below w.heap.size w w'

set_option maxHeartbeats 4000000 in
set_option maxRecDepth 100000 in
theorem chain_one {q : QV} (hq : ¬ q.op = opCom) : ChSays q [q] := by
  intro w P x hP hx
  have hx2 := hx
  obtain ⟨la, lc, ka, kc, va, vc, A, c, rfl, -⟩ := hx.parts
  have hb := ba_ne hq
  rw [show opCom.toList = [44] from Lib.toList_data _] at hb
  have hcs := hide hx2
  clear hx hx2
  replace hq := hide hq
  replace hP := hide hP
  unfold opCom
  go_enter Tryz.func35, Tryz.ntmps35
  go_wp2_with (refine wpList_bs1 rfl _ rfl _ rfl rfl ?_; intro w1 k1 o1 s1; replace k1 := hide k1; replace o1 := hide o1; replace s1 := hide s1)
  go_ret
  have k2 := k1.out
  rw [show ∀ o, (w.alloc o).heap.size = w.heap.size + 1 from fun o => by simp] at k2
  have e1 : w1.heap.size = w.heap.size + 2 := by rw [s1.out]; simp
  refine ⟨_, rfl, ⟨w.heap.size + 1, 1, _, rfl, by omega, ?_, QRow.one (hcs.out.only ((((Only.refl (fun _ => False) w).alloc _)).trans o1.out) (fun _ _ _ h => h) (fun b _ h => h))⟩, ?_⟩
  · refine ⟨rfl, Or.inr ⟨w.heap.size + 1, 1, _, rfl, by omega, k2, Nat.le_refl _, by decide, rfl, rfl⟩⟩
  · exact ((Below.refl w.heap.size w).alloc (Nat.le_refl _) _).trans (o1.out.below (by intro k hk; exact hk.elim) (by simp))

/-- Two parts of a comma, whose parts are put behind each other. -/
structure ChW (W : World) (P : Nat → Prop) (l1 l2 : List QV) (listed : Array Bool) (w : World) (s16 s22 s23 s4 : Value) : Prop where
  onl : Only (fun _ => False) W w
  e1 : Up listed 11 → Up listed 5
  e2 : Up listed 12 → Up listed 11
  e3 : Up listed 13 → Up listed 12
  f5 : Up listed 5 → ¬ Up listed 12 → ChAt w W.heap.size P s16 l1
  f11 : Up listed 11 → ¬ Up listed 12 → ChAt w W.heap.size P s22 l2
  f12 : Up listed 12 → ChAt w W.heap.size P s23 (l1 ++ l2)
  f13 : Up listed 13 → s4 = s23
section
variable {W : World} {P : Nat → Prop} {l1 l2 : List QV} {listed : Array Bool} {w : World} {s16 s22 s23 s4 : Value}
theorem ChW.put (H : ChW W P l1 l2 listed w s16 s22 s23 s4) (i : Nat) (hi : (i == 5 || i == 11 || i == 12 || i == 13) = false) : ChW W P l1 l2 (listed.setIfInBounds i true) w s16 s22 s23 s4 := by
  simp only [Bool.or_eq_false_iff, beq_eq_false_iff_ne] at hi
  obtain ⟨⟨⟨h5, h11⟩, h12⟩, h13⟩ := hi
  exact ⟨H.onl, fun h => Up.more (H.e1 (Up.set_ne (Ne.symm h11) h)), fun h => Up.more (H.e2 (Up.set_ne (Ne.symm h12) h)), fun h => Up.more (H.e3 (Up.set_ne (Ne.symm h13) h)), fun h k => H.f5 (Up.set_ne (Ne.symm h5) h) (fun x => k (Up.more x)),
    fun h k => H.f11 (Up.set_ne (Ne.symm h11) h) (fun x => k (Up.more x)), fun h => H.f12 (Up.set_ne (Ne.symm h12) h), fun h => H.f13 (Up.set_ne (Ne.symm h13) h)⟩
theorem ChW.c5 (H : ChW W P l1 l2 listed w s16 s22 s23 s4) (hun : listed.getD 5 true = false) {t : Value} {w2 : World} (ho : Only (fun _ => False) w w2) (ht : ChAt w2 w.heap.size P t l1) : ChW W P l1 l2 (listed.setIfInBounds 5 true) w2 t s22 s23 s4 := by
  have n5 := Up.no hun
  have n11 : ¬ Up listed 11 := fun h => n5 (H.e1 h)
  have n12 : ¬ Up listed 12 := fun h => n11 (H.e2 h)
  have n13 : ¬ Up listed 13 := fun h => n12 (H.e3 h)
  exact ⟨H.onl.trans ho, fun h => absurd (Up.set_ne (by decide) h) n11, fun h => absurd (Up.set_ne (by decide) h) n12, fun h => absurd (Up.set_ne (by decide) h) n13, fun _ _ => ht.base H.onl.size,
    fun h => absurd (Up.set_ne (by decide) h) n11, fun h => absurd (Up.set_ne (by decide) h) n12, fun h => absurd (Up.set_ne (by decide) h) n13⟩
theorem ChW.c11 (H : ChW W P l1 l2 listed w s16 s22 s23 s4) (hun : listed.getD 11 true = false) (u5 : Up listed 5) {t : Value} {w2 : World} (ho : Only (fun _ => False) w w2) (ht : ChAt w2 w.heap.size P t l2) : ChW W P l1 l2 (listed.setIfInBounds 11 true) w2 s16 t s23 s4 := by
  have n11 := Up.no hun
  have n12 : ¬ Up listed 12 := fun h => n11 (H.e2 h)
  have n13 : ¬ Up listed 13 := fun h => n12 (H.e3 h)
  exact ⟨H.onl.trans ho, fun _ => Up.more u5, fun h => absurd (Up.set_ne (by decide) h) n12, fun h => absurd (Up.set_ne (by decide) h) n13, fun _ _ => (H.f5 u5 n12).only ho (fun k h => h.elim),
    fun _ _ => ht.base H.onl.size, fun h => absurd (Up.set_ne (by decide) h) n12, fun h => absurd (Up.set_ne (by decide) h) n13⟩
theorem ChW.c12 (H : ChW W P l1 l2 listed w s16 s22 s23 s4) (hun : listed.getD 12 true = false) (u11 : Up listed 11) {t : Value} {w2 : World} (ho : Only (fun _ => False) W w2) (ht : ChAt w2 W.heap.size P t (l1 ++ l2)) : ChW W P l1 l2 (listed.setIfInBounds 12 true) w2 s16 s22 t s4 := by
  have n12 := Up.no hun
  have n13 : ¬ Up listed 13 := fun h => n12 (H.e3 h)
  have hsz : 12 < listed.size := by
    rcases Nat.lt_or_ge 12 listed.size with h | h
    · exact h
    · rw [Array.getD_eq_getD_getElem?, Array.getElem?_eq_none h] at hun
      cases hun
  have u12 : Up (listed.setIfInBounds 12 true) 12 := by unfold Up; rw [Array.getD_eq_getD_getElem?]; simp [hsz]
  exact ⟨ho, fun h => Up.more (H.e1 (Up.set_ne (by decide) h)), fun _ => Up.more u11, fun h => absurd (Up.set_ne (by decide) h) n13, fun _ k => absurd u12 k, fun _ k => absurd u12 k, fun _ => ht, fun h => absurd (Up.set_ne (by decide) h) n13⟩
theorem ChW.c13 (H : ChW W P l1 l2 listed w s16 s22 s23 s4) (hun : listed.getD 13 true = false) (u12 : Up listed 12) : ChW W P l1 l2 (listed.setIfInBounds 13 true) w s16 s22 s23 s23 := by
  exact ⟨H.onl, fun h => Up.more (H.e1 (Up.set_ne (by decide) h)), fun h => Up.more (H.e2 (Up.set_ne (by decide) h)), fun _ => Up.more u12, fun h k => H.f5 (Up.set_ne (by decide) h) (fun x => k (Up.more x)),
    fun h k => H.f11 (Up.set_ne (by decide) h) (fun x => k (Up.more x)), fun h => H.f12 (Up.set_ne (by decide) h), fun _ => rfl⟩
end

theorem Only.fresh {W w w2 : World} (h : Only (fun _ => False) W w) (k : Only (fun k => W.heap.size ≤ k) w w2) : Only (fun _ => False) W w2 :=
  ⟨k.os.trans h.os, k.tape.trans h.tape, k.output.trans h.output, Nat.le_trans h.size k.size, fun i hi hn => (k.block i (Nat.lt_of_lt_of_le hi h.size) (Nat.not_le.2 hi)).trans (h.block i hi hn)⟩
/-- What is put behind a row. -/
theorem chat_app {w w2 : World} {B : Nat} {P : Nat → Prop} {A : Option Addr} {n m c : Nat} {t : Value} {l1 l2 : List QV} {xs ys : List Value} (hn : n = l1.length) (hm : m = l2.length) (h0 : 0 < m) (hP : ∀ b, P b → b < B) (h1 : w.ownsRow B 41 12 (.slice A n c) n xs) (r1 : QRow w P xs l1) (r2 : QRow w P ys l2)
    (h2 : w2.ownsRow B 41 12 t (n + m) (xs ++ ys)) (hg : w.grownBy w2 (Value.slice A n c).ownBlock) (hB : B ≤ w.heap.size) : ChAt w2 B P t (l1 ++ l2) ∧ Only (fun k => B ≤ k) w w2 := by
  have ho : Only (fun k => B ≤ k) w w2 := (Only.refl _ w).grown hg (fun k hk => Or.inl (h1.lt k hk).1)
  obtain ⟨g, cap, hv, hg2, hlt⟩ := h2.form (by omega)
  refine ⟨⟨g, cap, xs ++ ys, ?_, hg2, ?_, (r1.append r2).only ho (fun b hb _ h => absurd (hP b hb) (Nat.not_lt.2 h)) (fun b _ h => h)⟩, ho⟩
  · rw [hv, List.length_append, ← hn, ← hm]
  · rw [List.length_append, ← hn, ← hm]
    exact h2

theorem QAt.com {w : World} {P : Nat → Prop} {x : List Value} {a b : QV} (h : QAt w P x (ofQ opCom [a, b])) : ∃ la lc ka kc va vc b0 p0 c y0 y1, x = [.string ⟨#[44]⟩, .string ⟨#[]⟩, .int .i64 0, .int .i64 0, .string ⟨#[]⟩, .slice la 0 lc, .slice ka 0 kc, .slice va 0 vc, .slice (some ⟨b0, p0, none⟩) 2 c, .slice none 0 0, .slice none 0 0, .slice none 0 0] ∧
    P b0 ∧ b0 < w.heap.size ∧ QAt w P y0 a ∧ QAt w P y1 b ∧ (∀ j u, y0[j]? = some u → w.cell? ⟨b0, p0 + j, none⟩ = some u) ∧ (∀ j u, y1[j]? = some u → w.cell? ⟨b0, p0 + 12 + j, none⟩ = some u) := by
  obtain ⟨la, lc, ka, kc, va, vc, A, c, rfl, -, -, -, -, hv⟩ := h.parts
  obtain ⟨b0, p0, rfl, hb0, hb0w, hrow⟩ := hv (show 0 < 2 by decide)
  obtain ⟨y0, hy0, hc0⟩ := hrow 0 a rfl
  obtain ⟨y1, hy1, hc1⟩ := hrow 1 b rfl
  exact ⟨la, lc, ka, kc, va, vc, b0, p0, c, y0, y1, rfl, hb0, hb0w, hy0, hy1, fun j u hu => by have := hc0 j u hu; rwa [Nat.zero_mul, Nat.add_zero] at this, fun j u hu => by have := hc1 j u hu; rwa [Nat.one_mul] at this⟩

set_option maxHeartbeats 8000000 in
set_option maxRecDepth 100000 in
theorem chain_two {a b : QV} {l1 l2 : List QV} (h1 : ChSays a l1) (h2 : ChSays b l2) (hl : l1.length + l2.length ≤ 1000000) (hl1 : 0 < l1.length) (hl2 : 0 < l2.length) : ChSays (ofQ opCom [a, b]) (l1 ++ l2) := by
  intro w P x hP hx
  obtain ⟨la, lc, ka, kc, va, vc, b0, p0, c, y0, y1, rfl, hb0, hb0w, hy0, hy1, hc0, hc1⟩ := hx.com
  obtain ⟨i0, hi0, hz0, hz1, hz2⟩ := info_parts Tryz.infoQ
  clear hx
  have hbw := hP b0 hb0
  replace hi0 := hide hi0
  replace hz0 := hide hz0
  replace hz1 := hide hz1
  replace hz2 := hide hz2
  replace h1 := hide h1
  replace h2 := hide h2
  replace hP := hide hP
  replace hb0 := hide hb0
  replace hc0 := hide hc0
  replace hc1 := hide hc1
  obtain ⟨W, hW⟩ : ∃ W, W = w.alloc (.cells #[.string ⟨#[44]⟩, .string ⟨#[]⟩, .int .i64 0, .int .i64 0, .string ⟨#[]⟩, .slice la 0 lc, .slice ka 0 kc, .slice va 0 vc, .slice (some ⟨b0, p0, none⟩) 2 c, .slice none 0 0, .slice none 0 0, .slice none 0 0] 41) := ⟨_, rfl⟩
  have oW : Only (fun _ => False) w W := by rw [hW]; exact (Only.refl _ w).alloc _
  have hWw : w.heap.size < W.heap.size := by rw [hW]; simp
  have sW : W.heap.size = w.heap.size + 1 := by rw [hW]; simp
  have c8 : W.cell? ⟨w.heap.size, 8, none⟩ = some (.slice (some ⟨b0, p0, none⟩) 2 c) := by rw [hW]; exact (Blk.new w _ _).cell 8
  replace hy0 := hide (hy0.only oW (fun _ _ _ h => h) (fun b _ h => h))
  replace hy1 := hide (hy1.only oW (fun _ _ _ h => h) (fun b _ h => h))
  replace oW := hide oW
  replace sW := hide sW
  unfold opCom
  go_enter Tryz.func35, Tryz.ntmps35
  go_upto_region 3 with fail
  rw [← hW]
  clear hW
  refine wp_region_inv (by kernel_rfl) (fun listed a w' => ∃ (s11 s12 s13 s14 s15 s16 s17 s18 s19 s20 s21 s22 s23 s4 : Value), a = ⟨#[.agg #[.string ⟨#[44]⟩, .string ⟨#[]⟩, .int .i64 0, .int .i64 0, .string ⟨#[]⟩, .slice la 0 lc, .slice ka 0 kc, .slice va 0 vc, .slice (some ⟨b0, p0, none⟩) 2 c, .slice none 0 0, .slice none 0 0, .slice none 0 0], .string ⟨#[44]⟩, .pointer (some ⟨w.heap.size, 0, none⟩), undef, s4, .pointer (some ⟨w.heap.size, 0, none⟩), .string ⟨#[44]⟩, .string ⟨#[44]⟩, .bool false, undef, undef, s11, s12, s13, s14, s15, s16, s17, s18, s19, s20, s21, s22, s23], []⟩ ∧ listed.size = 14 ∧ Lv listed [s11, s12, s13, s14, s15, .bool true, s17, s18, s19, s20, s21, .bool true, .bool true, .bool true] [.pointer (some ⟨w.heap.size, 8, none⟩), .slice (some ⟨b0, p0, none⟩) 2 c, .pointer (some ⟨b0, p0, none⟩), .agg y0.toArray, .string ⟨#[44]⟩, .bool true, .pointer (some ⟨w.heap.size, 8, none⟩), .slice (some ⟨b0, p0, none⟩) 2 c, .pointer (some ⟨b0, p0 + 12, none⟩), .agg y1.toArray, .string ⟨#[44]⟩, .bool true, .bool true, .bool true] ∧ ChW W P l1 l2 listed w' s16 s22 s23 s4) ?start ?step ?stop
  case start => exact ⟨_, _, _, _, _, _, _, _, _, _, _, _, _, _, rfl, rfl, Lv.start, ⟨(Only.refl _ W).drew, fun h => (Up.start h).elim, fun h => (Up.start h).elim, fun h => (Up.start h).elim, fun h => (Up.start h).elim, fun h => (Up.start h).elim, fun h => (Up.start h).elim, fun h => (Up.start h).elim⟩⟩
  case step =>
    rintro listed a w' i ⟨s11, s12, s13, s14, s15, s16, s17, s18, s19, s20, s21, s22, s23, s4, rfl, hsz, HL, H⟩ hi
    have hun := Up.un hi
    have hltn : i < 14 := by
      obtain ⟨-, o, ho, -⟩ := mem_ready.1 hi
      rcases Nat.lt_or_ge i 14 with h | h
      · exact h
      · rw [Array.getElem?_eq_none (by exact h)] at ho
        cases ho
    have hsz2 : ∀ i, (listed.setIfInBounds i true).size = 14 := fun i => by rw [Array.size_setIfInBounds]; exact hsz
    replace hsz2 := hide hsz2
    have hin : i = 0 ∨ i = 1 ∨ i = 2 ∨ i = 3 ∨ i = 4 ∨ i = 5 ∨ i = 6 ∨ i = 7 ∨ i = 8 ∨ i = 9 ∨ i = 10 ∨ i = 11 ∨ i = 12 ∨ i = 13 := by omega
    clear hltn
    rcases hin with rfl | rfl | rfl | rfl | rfl | rfl | rfl | rfl | rfl | rfl | rfl | rfl | rfl | rfl
    · replace H := hide H
      replace HL := hide HL
      replace hi := hide hi
      replace hun := hide hun
      replace hsz := hide hsz
      refine wpOp_of_list rfl ?_
      go_wp2_with fail
      exact Then.normal ⟨_, _, _, _, _, _, _, _, _, _, _, _, _, _, rfl, hsz2.out _, HL.out.put 0 rfl, H.out.put 0 (by decide)⟩
    · obtain rfl := HL.get 0 rfl rfl (Up.waits hi 0 (by kernel_rfl))
      have d8 := (only_cell H.onl (⟨w.heap.size, 8, none⟩ : Addr) (fun h => h) hWw).trans c8
      replace H := hide H
      replace HL := hide HL
      replace hi := hide hi
      replace hun := hide hun
      replace hsz := hide hsz
      refine wpOp_of_list rfl ?_
      go_wp2_with fail
      exact Then.normal ⟨_, _, _, _, _, _, _, _, _, _, _, _, _, _, rfl, hsz2.out _, HL.out.put 1 rfl, H.out.put 1 (by decide)⟩
    · obtain rfl := HL.get 1 rfl rfl (Up.waits hi 1 (by kernel_rfl))
      replace H := hide H
      replace HL := hide HL
      replace hi := hide hi
      replace hun := hide hun
      replace hsz := hide hsz
      refine wpOp_of_list rfl ?_
      go_wp2_with fail
      exact Then.normal ⟨_, _, _, _, _, _, _, _, _, _, _, _, _, _, rfl, hsz2.out _, HL.out.put 2 rfl, H.out.put 2 (by decide)⟩
    · obtain rfl := HL.get 2 rfl rfl (Up.waits hi 2 (by kernel_rfl))
      have hcc : ∀ j u, y0[j]? = some u → w'.cell? ((⟨b0, p0, none⟩ : Addr).add j) = some u := fun j u hu => by rw [add_flat, only_cell (oW.out.trans H.onl) (⟨b0, p0 + j, none⟩ : Addr) (fun h => h) hb0w]; exact hc0.out j u hu
      have hcl := hide hy0.out.len
      replace hcc := hide hcc
      replace H := hide H
      replace HL := hide HL
      replace hi := hide hi
      replace hun := hide hun
      replace hsz := hide hsz
      refine wpOp_of_list rfl ?_
      go_wp2_with (refine wpList_load_at rfl _ _ rfl ⟨b0, p0, none⟩ rfl y0 _ hcc.out Tryz.underlying41 rfl (by rw [hcl.out]; exact q_size) ?_)
      exact Then.normal ⟨_, _, _, _, _, _, _, _, _, _, _, _, _, _, rfl, hsz2.out _, HL.out.put 3 rfl, H.out.put 3 (by decide)⟩
    · replace H := hide H
      replace HL := hide HL
      replace hi := hide hi
      replace hun := hide hun
      replace hsz := hide hsz
      refine wpOp_of_list rfl ?_
      go_wp2_with fail
      exact Then.normal ⟨_, _, _, _, _, _, _, _, _, _, _, _, _, _, rfl, hsz2.out _, HL.out.put 4 rfl, H.out.put 4 (by decide)⟩
    · obtain rfl := HL.get 3 rfl rfl (Up.waits hi 3 (by kernel_rfl))
      obtain rfl := HL.get 4 rfl rfl (Up.waits hi 4 (by kernel_rfl))
      have hq0 := hide (hy0.out.only H.onl (fun _ _ _ h => h) (fun b _ h => h))
      have hPw : ∀ b, P b → b < w'.heap.size := fun b hb => by have := hP.out b hb; have := H.onl.size; omega
      replace hPw := hide hPw
      replace H := hide H
      replace HL := hide HL
      replace hi := hide hi
      replace hun := hide hun
      replace hsz := hide hsz
      refine wpOp_of_list rfl ?_
      go_wp2_with (go_at_call 35; refine (h1.out w' P y0 hPw.out hq0.out).mono ?_; rintro e5 W5 ⟨t5, rfl, ht5, b5⟩)
      exact Then.normal ⟨_, _, _, _, _, _, _, _, _, _, _, _, _, _, rfl, hsz2.out _, HL.out.put 5 rfl, H.out.c5 hun.out (Only.of_below b5 (fun k hk _ => hk)) ht5⟩
    · replace H := hide H
      replace HL := hide HL
      replace hi := hide hi
      replace hun := hide hun
      replace hsz := hide hsz
      refine wpOp_of_list rfl ?_
      go_wp2_with fail
      exact Then.normal ⟨_, _, _, _, _, _, _, _, _, _, _, _, _, _, rfl, hsz2.out _, HL.out.put 6 rfl, H.out.put 6 (by decide)⟩
    · obtain rfl := HL.get 6 rfl rfl (Up.waits hi 6 (by kernel_rfl))
      have d8 := (only_cell H.onl (⟨w.heap.size, 8, none⟩ : Addr) (fun h => h) hWw).trans c8
      replace H := hide H
      replace HL := hide HL
      replace hi := hide hi
      replace hun := hide hun
      replace hsz := hide hsz
      refine wpOp_of_list rfl ?_
      go_wp2_with fail
      exact Then.normal ⟨_, _, _, _, _, _, _, _, _, _, _, _, _, _, rfl, hsz2.out _, HL.out.put 7 rfl, H.out.put 7 (by decide)⟩
    · obtain rfl := HL.get 7 rfl rfl (Up.waits hi 7 (by kernel_rfl))
      replace H := hide H
      replace HL := hide HL
      replace hi := hide hi
      replace hun := hide hun
      replace hsz := hide hsz
      refine wpOp_of_list rfl ?_
      go_wp2_with fail
      exact Then.normal ⟨_, _, _, _, _, _, _, _, _, _, _, _, _, _, rfl, hsz2.out _, HL.out.put 8 rfl, H.out.put 8 (by decide)⟩
    · obtain rfl := HL.get 8 rfl rfl (Up.waits hi 8 (by kernel_rfl))
      have hcc : ∀ j u, y1[j]? = some u → w'.cell? ((⟨b0, p0 + 12, none⟩ : Addr).add j) = some u := fun j u hu => by rw [add_flat, only_cell (oW.out.trans H.onl) (⟨b0, p0 + 12 + j, none⟩ : Addr) (fun h => h) hb0w]; exact hc1.out j u hu
      have hcl := hide hy1.out.len
      replace hcc := hide hcc
      replace H := hide H
      replace HL := hide HL
      replace hi := hide hi
      replace hun := hide hun
      replace hsz := hide hsz
      refine wpOp_of_list rfl ?_
      go_wp2_with (refine wpList_load_at rfl _ _ rfl ⟨b0, p0 + 12, none⟩ rfl y1 _ hcc.out Tryz.underlying41 rfl (by rw [hcl.out]; exact q_size) ?_)
      exact Then.normal ⟨_, _, _, _, _, _, _, _, _, _, _, _, _, _, rfl, hsz2.out _, HL.out.put 9 rfl, H.out.put 9 (by decide)⟩
    · replace H := hide H
      replace HL := hide HL
      replace hi := hide hi
      replace hun := hide hun
      replace hsz := hide hsz
      refine wpOp_of_list rfl ?_
      go_wp2_with fail
      exact Then.normal ⟨_, _, _, _, _, _, _, _, _, _, _, _, _, _, rfl, hsz2.out _, HL.out.put 10 rfl, H.out.put 10 (by decide)⟩
    · obtain rfl := HL.get 9 rfl rfl (Up.waits hi 9 (by kernel_rfl))
      obtain rfl := HL.get 10 rfl rfl (Up.waits hi 10 (by kernel_rfl))
      have u5 := Up.waits hi 5 (by kernel_rfl)
      replace u5 := hide u5
      have hq1 := hide (hy1.out.only H.onl (fun _ _ _ h => h) (fun b _ h => h))
      have hPw : ∀ b, P b → b < w'.heap.size := fun b hb => by have := hP.out b hb; have := H.onl.size; omega
      replace hPw := hide hPw
      replace H := hide H
      replace HL := hide HL
      replace hi := hide hi
      replace hun := hide hun
      replace hsz := hide hsz
      refine wpOp_of_list rfl ?_
      go_wp2_with (go_at_call 35; refine (h2.out w' P y1 hPw.out hq1.out).mono ?_; rintro e5 W5 ⟨t5, rfl, ht5, b5⟩)
      exact Then.normal ⟨_, _, _, _, _, _, _, _, _, _, _, _, _, _, rfl, hsz2.out _, HL.out.put 11 rfl, H.out.c11 hun.out u5.out (Only.of_below b5 (fun k hk _ => hk)) ht5⟩
    · have u11 := Up.waits hi 11 (by kernel_rfl)
      have u5 := Up.waits hi 5 (by kernel_rfl)
      obtain ⟨g1, c1, xs, rfl, hg1, own1, row1⟩ := H.f5 u5 (Up.no hun)
      obtain ⟨g2, c2, ys, rfl, hg2, own2, row2⟩ := H.f11 u11 (Up.no hun)
      replace u11 := hide u11
      replace u5 := hide u5
      have hyl : ys.length = l2.length * 12 := row2.length
      have hyc : ∀ j u, ys[j]? = some u → w'.cell? ((⟨g2, 0, none⟩ : Addr).add j) = some u := own2.cells (g := g2) rfl
      have hyo := row2.ones
      have hB : W.heap.size ≤ w'.heap.size := H.onl.size
      replace hyl := hide hyl
      replace hyc := hide hyc
      replace hyo := hide hyo
      replace own1 := hide own1
      replace own2 := hide own2
      replace row1 := hide row1
      replace row2 := hide row2
      replace H := hide H
      replace HL := hide HL
      replace hi := hide hi
      replace hun := hide hun
      replace hsz := hide hsz
      refine wpOp_of_list rfl ?_
      go_wp2_with (refine wpList_append_fresh rfl _ _ 37 rfl W.heap.size 41 i0 (.agg zC) 12 232 Tryz.underlying37 hi0.out hz0.out hz1.out hz2.out rfl (by decide) (.slice (some ⟨g1, 0, none⟩) l1.length c1) l1.length xs rfl own1.out ⟨g2, 0, none⟩ l2.length _ ys rfl hyl.out hl2 hyc.out hyo.out (by unfold maxLen; omega) (by omega) hB ?_; intro v7 W7 own7 g7 f7'; obtain ⟨hc7, ho7⟩ := chat_app rfl rfl hl2 (fun b hb => Nat.lt_of_lt_of_le (hP.out b hb) (by omega)) own1.out row1.out row2.out own7 g7 hB; clear own7 g7 f7'; replace hc7 := hide hc7; replace ho7 := hide ho7)
      exact Then.normal ⟨_, _, _, _, _, _, _, _, _, _, _, _, _, _, rfl, hsz2.out _, HL.out.put 12 rfl, H.out.c12 hun.out u11.out ((H.out.onl.fresh ho7.out)) hc7.out⟩
    · have u12 := hide (Up.waits hi 12 (by kernel_rfl))
      replace H := hide H
      replace HL := hide HL
      replace hi := hide hi
      replace hun := hide hun
      replace hsz := hide hsz
      refine wpOp_of_list rfl ?_
      go_wp2_with fail
      exact Then.normal ⟨_, _, _, _, _, _, _, _, _, _, _, _, _, _, rfl, hsz2.out _, HL.out.put 13 rfl, H.out.c13 hun.out u12.out⟩
  case stop =>
    rintro listed a w' ⟨s11, s12, s13, s14, s15, s16, s17, s18, s19, s20, s21, s22, s23, s4, rfl, hsz, HL, H⟩ hi
    have hall := Up.all hsz (by kernel_rfl) hi
    obtain rfl := H.f13 (hall 13 (by decide))
    have hc := H.f12 (hall 12 (by decide))
    have ho := H.onl
    have hB : W.heap.size ≤ w'.heap.size := H.onl.size
    clear H HL hall hi
    go_wp2_with fail
    go_ret
    have sW2 := sW.out
    exact ⟨_, rfl, hc.base (by omega), (oW.out.trans ho).below (by intro k hk; exact hk.elim) (Nat.le_refl _)⟩
end Go.Proofs.YtbnbemacljjimaaGreatDoor

namespace Go.Proofs.YtbnbemacljjimaaGreatDoor
open Go.RowKit Go.Lib
set_option linter.unusedVariables false

theorem Up.selfUn {listed : Array Bool} {i : Nat} (hun : listed.getD i true = false) : Up (listed.setIfInBounds i true) i := by
  have hsz : i < listed.size := by
    rcases Nat.lt_or_ge i listed.size with h | h
    · exact h
    · rw [Array.getD_eq_getD_getElem?, Array.getElem?_eq_none h] at hun
      cases hun
  unfold Up
  rw [Array.getD_eq_getD_getElem?]
  simp [hsz]
theorem Up.ne_put {listed : Array Bool} {i j : Nat} (hi : (i == j) = false) (h : Up (listed.setIfInBounds i true) j) : Up listed j := Up.set_ne (by intro e; subst e; simp at hi) h

/-- Blocks at B or above, but for g. -/
abbrev Pf (B g : Nat) : Nat → Prop := fun b => B ≤ b ∧ b ≠ g

/-- x = of(op, new, x): the operations call, load of x, row, of, store. -/
structure OfW (W : World) (g B : Nat) (u : List Value) (qx qn : QV) (op : ByteArray) (c x b o s : Nat) (listed : Array Bool) (w : World) (sc sb so : Value) : Prop where
  onl : Only (· = g) W w
  e1 : Up listed b → Up listed c
  ex : Up listed b → Up listed x
  e2 : Up listed o → Up listed b
  e3 : Up listed s → Up listed o
  kg : ¬ Up listed s → Blk w g 41 u.toArray
  qu : QAt w (Pf B g) u qx
  fc : Up listed c → ∃ z, sc = .agg z.toArray ∧ QAt w (Pf B g) z qn
  fb : Up listed b → ∃ K, sb = .slice (some ⟨K, 0, none⟩) 2 2 ∧ VecQ w (Pf B g) (some ⟨K, 0, none⟩) [qn, qx]
  fo : Up listed o → ∃ K, so = .agg (ofC op (some ⟨K, 0, none⟩) 2 2).toArray ∧ VecQ w (Pf B g) (some ⟨K, 0, none⟩) [qn, qx]
  fs : Up listed s → ∃ K, Blk w g 41 (ofC op (some ⟨K, 0, none⟩) 2 2).toArray ∧ VecQ w (Pf B g) (some ⟨K, 0, none⟩) [qn, qx]

section
variable {W : World} {g B : Nat} {u : List Value} {qx qn : QV} {op : ByteArray} {c x b o s : Nat} {listed : Array Bool} {w : World} {sc sb so : Value}
theorem OfW.start (k : Blk W g 41 u.toArray) (q : QAt W (Pf B g) u qx) {n : Nat} : OfW W g B u qx qn op c x b o s (Array.replicate n false) W.drew sc sb so :=
  ⟨(Only.refl _ W).drew, fun h => (Up.start h).elim, fun h => (Up.start h).elim, fun h => (Up.start h).elim, fun h => (Up.start h).elim, fun _ => k.drew, q.only ((Only.refl (fun _ => False) W).drew) (fun _ _ _ h => h) (fun b _ h => h),
    fun h => (Up.start h).elim, fun h => (Up.start h).elim, fun h => (Up.start h).elim, fun h => (Up.start h).elim⟩
theorem OfW.put (H : OfW W g B u qx qn op c x b o s listed w sc sb so) (i : Nat) (hc : (i == c) = false) (hb : (i == b) = false) (ho : (i == o) = false) (hs : (i == s) = false) : OfW W g B u qx qn op c x b o s (listed.setIfInBounds i true) w sc sb so :=
  ⟨H.onl, fun h => Up.more (H.e1 (Up.ne_put hb h)), fun h => Up.more (H.ex (Up.ne_put hb h)), fun h => Up.more (H.e2 (Up.ne_put ho h)), fun h => Up.more (H.e3 (Up.ne_put hs h)), fun h => H.kg (fun k => h (Up.more k)), H.qu,
    fun h => H.fc (Up.ne_put hc h), fun h => H.fb (Up.ne_put hb h), fun h => H.fo (Up.ne_put ho h), fun h => H.fs (Up.ne_put hs h)⟩
theorem OfW.cc (H : OfW W g B u qx qn op c x b o s listed w sc sb so) (hun : listed.getD c true = false) (hb : (c == b) = false) (ho : (c == o) = false) (hs : (c == s) = false) (hgW : g < W.heap.size) (hB : B ≤ W.heap.size) {z : List Value} {w2 : World} (hw : Only (fun _ => False) w w2) (hz : QAt w2 (w.heap.size ≤ ·) z qn) :
    OfW W g B u qx qn op c x b o s (listed.setIfInBounds c true) w2 (.agg z.toArray) sb so := by
  have nc := Up.no hun
  have nb : ¬ Up listed b := fun h => nc (H.e1 h)
  have no : ¬ Up listed o := fun h => nb (H.e2 h)
  have ns : ¬ Up listed s := fun h => no (H.e3 h)
  have hsz := H.onl.size
  exact ⟨H.onl.trans hw.no, fun h => absurd (Up.ne_put hb h) nb, fun h => absurd (Up.ne_put hb h) nb, fun h => absurd (Up.ne_put ho h) no, fun h => absurd (Up.ne_put hs h) ns, fun _ => hw.blk (H.kg ns) (fun h => h),
    H.qu.only hw (fun _ _ _ h => h) (fun b _ h => h), fun _ => ⟨z, rfl, hz.only (Only.refl (fun _ => False) w2) (fun _ _ _ h => h) (fun b _ h => ⟨by omega, by omega⟩)⟩,
    fun h => absurd (Up.ne_put hb h) nb, fun h => absurd (Up.ne_put ho h) no, fun h => absurd (Up.ne_put hs h) ns⟩
theorem OfW.cb (H : OfW W g B u qx qn op c x b o s listed w sc sb so) (hun : listed.getD b true = false) (uc : Up listed c) (ux : Up listed x) (ho : (b == o) = false) (hs : (b == s) = false) (hgW : g < W.heap.size) (hB : B ≤ W.heap.size) {z : List Value} (hz : QAt w (Pf B g) z qn) {w2 : World} (hw : Only (fun _ => False) w w2)
    (hk : Blk w2 w.heap.size 41 (z ++ u).toArray) : OfW W g B u qx qn op c x b o s (listed.setIfInBounds b true) w2 (.agg z.toArray) (.slice (some ⟨w.heap.size, 0, none⟩) 2 2) so := by
  have nb := Up.no hun
  have no : ¬ Up listed o := fun h => nb (H.e2 h)
  have ns : ¬ Up listed s := fun h => no (H.e3 h)
  have hsz := H.onl.size
  have hz2 : QAt w2 (Pf B g) z qn := hz.only hw (fun _ _ _ h => h) (fun b _ h => h)
  have hu2 : QAt w2 (Pf B g) u qx := H.qu.only hw (fun _ _ _ h => h) (fun b _ h => h)
  exact ⟨H.onl.trans hw.no, fun _ => Up.more uc, fun _ => Up.more ux, fun h => absurd (Up.ne_put ho h) no, fun h => absurd (Up.ne_put hs h) ns, fun _ => hw.blk (H.kg ns) (fun h => h), hu2,
    fun _ => ⟨z, rfl, hz2⟩, fun _ => ⟨_, rfl, QRow.blk ((QRow.one hz2).append (QRow.one hu2)) hk ⟨by omega, by omega⟩⟩, fun h => absurd (Up.ne_put ho h) no, fun h => absurd (Up.ne_put hs h) ns⟩
theorem OfW.co (H : OfW W g B u qx qn op c x b o s listed w sc sb so) (hun : listed.getD o true = false) (ub : Up listed b) (hs : (o == s) = false) {K : Nat} (hK : VecQ w (Pf B g) (some ⟨K, 0, none⟩) [qn, qx]) {w2 : World} (hw : Only (fun _ => False) w w2) :
    OfW W g B u qx qn op c x b o s (listed.setIfInBounds o true) w2 sc (.slice (some ⟨K, 0, none⟩) 2 2) (.agg (ofC op (some ⟨K, 0, none⟩) 2 2).toArray) := by
  have no := Up.no hun
  have ns : ¬ Up listed s := fun h => no (H.e3 h)
  have hu2 : QAt w2 (Pf B g) u qx := H.qu.only hw (fun _ _ _ h => h) (fun b _ h => h)
  have hK2 : VecQ w2 (Pf B g) (some ⟨K, 0, none⟩) [qn, qx] := hK.only hw (fun _ _ _ h => h) (fun b _ h => h)
  refine ⟨H.onl.trans hw.no, fun h => ?_, fun h => ?_, fun _ => Up.more ub, fun h => absurd (Up.ne_put hs h) ns, fun _ => hw.blk (H.kg ns) (fun h => h), hu2, fun h => ?_, fun _ => ⟨K, rfl, hK2⟩, fun _ => ⟨K, rfl, hK2⟩, fun h => absurd (Up.ne_put hs h) ns⟩
  · exact Up.more (H.e1 ub)
  · exact Up.more (H.ex ub)
  · obtain ⟨z, e, hz⟩ := H.fc (H.e1 ub)
    exact ⟨z, e, hz.only hw (fun _ _ _ h => h) (fun b _ h => h)⟩
theorem OfW.cs (H : OfW W g B u qx qn op c x b o s listed w sc sb so) (hun : listed.getD s true = false) (uo : Up listed o) {K : Nat} (hK : VecQ w (Pf B g) (some ⟨K, 0, none⟩) [qn, qx]) {w2 : World} (hw : Only (· = g) w w2)
    (hk : Blk w2 g 41 (ofC op (some ⟨K, 0, none⟩) 2 2).toArray) : OfW W g B u qx qn op c x b o s (listed.setIfInBounds s true) w2 sc sb (.agg (ofC op (some ⟨K, 0, none⟩) 2 2).toArray) := by
  have hn : ∀ b', Pf B g b' → b' < w.heap.size → ¬ b' = g := fun b' h _ => h.2
  have hK2 : VecQ w2 (Pf B g) (some ⟨K, 0, none⟩) [qn, qx] := hK.only hw hn (fun b _ h => h)
  refine ⟨H.onl.trans hw, fun _ => Up.more (H.e1 (H.e2 uo)), fun _ => Up.more (H.ex (H.e2 uo)), fun _ => Up.more (H.e2 uo), fun _ => Up.more uo, fun h => absurd (Up.selfUn hun) h, H.qu.only hw hn (fun b _ h => h), fun _ => ?_, fun _ => ?_, fun _ => ⟨K, rfl, hK2⟩, fun _ => ⟨K, hk, hK2⟩⟩
  · obtain ⟨z, e, hz⟩ := H.fc (H.e1 (H.e2 uo))
    exact ⟨z, e, hz.only hw hn (fun b _ h => h)⟩
  · obtain ⟨K', e, hz⟩ := H.fb (H.e2 uo)
    exact ⟨K', e, hz.only hw hn (fun b _ h => h)⟩
end

/-- Blocks at B or above that are neither g nor the row's. -/
abbrev Pa (B g : Nat) (v : Value) : Nat → Prop := fun b => B ≤ b ∧ b ≠ g ∧ v.ownBlock ≠ some b

/-- A row of queries that grows, of its own at Z or above. -/
structure ApS (w : World) (B Z g n c : Nat) (A : Option Addr) (xs : List Value) (qs : List QV) : Prop where
  own : w.ownsRow Z 41 12 (.slice A n c) n xs
  row : QRow w (Pa B g (.slice A n c)) xs qs
theorem ApS.move {w w' : World} {B Z g n c : Nat} {A : Option Addr} {xs : List Value} {qs : List QV} (H : ApS w B Z g n c A xs qs) (ho : Only (fun k => k = g) w w') (hg : g < Z) : ApS w' B Z g n c A xs qs :=
  ⟨ho.own H.own (fun k hk h => by have h' : k = g := h; have := (own_ge H.own hk).1; omega), H.row.only ho (fun b hb _ h => hb.2.1 h) (fun b _ h => h)⟩
theorem ApS.app {w w2 : World} {B Z g n m c : Nat} {A : Option Addr} {xs ys : List Value} {qs ks : List QV} (H : ApS w B Z g n c A xs qs) (h2 : QRow w (Pa B g (.slice A n c)) ys ks) {A' : Option Addr} {c' : Nat} (own : w2.ownsRow Z 41 12 (.slice A' (n + m) c') (n + m) (xs ++ ys))
    (hg : w.grownBy w2 (Value.slice A n c).ownBlock) (hf : (Value.slice A' (n + m) c').ownBlock = (Value.slice A n c).ownBlock ∨ (Value.slice A' (n + m) c').ownBlock = some w.heap.size) : ApS w2 B Z g (n + m) c' A' (xs ++ ys) (qs ++ ks) := by
  refine ⟨own, ?_⟩
  have ho : Only (fun k => (Value.slice A n c).ownBlock = some k) w w2 := (Only.refl _ w).grown hg (fun k hk => Or.inl hk)
  refine (H.row.append h2).only ho (fun b hb _ h => hb.2.2 h) (fun b hlt hb => ⟨hb.1, hb.2.1, ?_⟩)
  rcases hf with h | h
  · rw [h]
    exact hb.2.2
  · rw [h]
    intro e
    injection e with e
    omega

/-- x.Kids = append(x.Kids, ..): the operations load of the row, (call,) row of the new ones, append, store. -/
structure ApW (W : World) (g B Z n m cap : Nat) (A : Option Addr) (xs : List Value) (qs ns : List QV) (op : ByteArray) (l c b p s : Nat) (cq : QV) (listed : Array Bool) (w : World) (sc sb sp : Value) : Prop where
  onl : Only (fun k => k = g ∨ Z ≤ k) W w
  e1 : Up listed b → Up listed c
  e2 : Up listed p → Up listed b
  el : Up listed p → Up listed l
  e3 : Up listed s → Up listed p
  kg : ¬ Up listed s → Blk w g 41 (ofC op A n cap).toArray
  f0 : ¬ Up listed p → ApS w B Z g n cap A xs qs
  fc : Up listed c → ¬ Up listed b → ∃ z, sc = .agg z.toArray ∧ QAt w (Pa B g (.slice A n cap)) z cq
  fb : Up listed b → ¬ Up listed p → ∃ K ys, sb = .slice (some ⟨K, 0, none⟩) m m ∧ Blk w K 41 ys.toArray ∧ QRow w (Pa B g (.slice A n cap)) ys ns
  fp : Up listed p → ∃ A' c' xs', sp = .slice A' (n + m) c' ∧ ApS w B Z g (n + m) c' A' xs' (qs ++ ns) ∧ (Up listed s → Blk w g 41 (ofC op A' (n + m) c').toArray)

section
variable {W : World} {g B Z n m cap : Nat} {A : Option Addr} {xs : List Value} {qs ns : List QV} {op : ByteArray} {l c b p s : Nat} {cq : QV} {listed : Array Bool} {w : World} {sc sb sp : Value}
theorem ApW.start (k : Blk W g 41 (ofC op A n cap).toArray) (q : ApS W B Z g n cap A xs qs) {N : Nat} : ApW W g B Z n m cap A xs qs ns op l c b p s cq (Array.replicate N false) W.drew sc sb sp :=
  ⟨(Only.refl _ W).drew, fun h => (Up.start h).elim, fun h => (Up.start h).elim, fun h => (Up.start h).elim, fun h => (Up.start h).elim, fun _ => k.drew,
    fun _ => ⟨(Only.refl (fun _ => False) W).drew.own q.own (fun _ _ h => h), q.row.only ((Only.refl (fun _ => False) W).drew) (fun _ _ _ h => h) (fun b _ h => h)⟩, fun h => (Up.start h).elim, fun h => (Up.start h).elim, fun h => (Up.start h).elim⟩
theorem ApW.put (H : ApW W g B Z n m cap A xs qs ns op l c b p s cq listed w sc sb sp) (i : Nat) (hc : (i == c) = false) (hb : (i == b) = false) (hp : (i == p) = false) (hs : (i == s) = false) : ApW W g B Z n m cap A xs qs ns op l c b p s cq (listed.setIfInBounds i true) w sc sb sp :=
  ⟨H.onl, fun h => Up.more (H.e1 (Up.ne_put hb h)), fun h => Up.more (H.e2 (Up.ne_put hp h)), fun h => Up.more (H.el (Up.ne_put hp h)), fun h => Up.more (H.e3 (Up.ne_put hs h)), fun h => H.kg (fun k => h (Up.more k)), fun h => H.f0 (fun k => h (Up.more k)),
    fun h k => H.fc (Up.ne_put hc h) (fun x => k (Up.more x)), fun h k => H.fb (Up.ne_put hb h) (fun x => k (Up.more x)), fun h => by
      obtain ⟨A', c', xs', e, h1, h2⟩ := H.fp (Up.ne_put hp h)
      exact ⟨A', c', xs', e, h1, fun k => h2 (Up.ne_put hs k)⟩⟩
/-- A call that only takes new blocks, ahead of the append. -/
theorem ApW.mov (H : ApW W g B Z n m cap A xs qs ns op l c b p s cq listed w sc sb sp) (np : ¬ Up listed p) {w2 : World} (hw : Only (fun _ => False) w w2) : ApW W g B Z n m cap A xs qs ns op l c b p s cq listed w2 sc sb sp :=
  ⟨H.onl.trans hw.no, H.e1, H.e2, H.el, H.e3, fun h => hw.blk (H.kg h) (fun h => h), fun h => ⟨hw.own (H.f0 h).own (fun _ _ h => h), (H.f0 h).row.only hw (fun _ _ _ h => h) (fun b _ h => h)⟩,
    fun h k => by
      obtain ⟨z, e, hz⟩ := H.fc h k
      exact ⟨z, e, hz.only hw (fun _ _ _ h => h) (fun b _ h => h)⟩,
    fun h k => by
      obtain ⟨K, ys, e, h1, h2⟩ := H.fb h k
      exact ⟨K, ys, e, hw.blk h1 (fun h => h), h2.only hw (fun _ _ _ h => h) (fun b _ h => h)⟩, fun h => absurd h np⟩
theorem ApW.cc (H : ApW W g B Z n m cap A xs qs ns op l c b p s cq listed w sc sb sp) (hun : listed.getD c true = false) (hb : (c == b) = false) (hp : (c == p) = false) (hs : (c == s) = false) (hgW : g < Z) (hZ : Z ≤ W.heap.size) (hB : B ≤ Z) {z : List Value} {w2 : World} (hw : Only (fun _ => False) w w2) (hz : QAt w2 (w.heap.size ≤ ·) z cq) :
    ApW W g B Z n m cap A xs qs ns op l c b p s cq (listed.setIfInBounds c true) w2 (.agg z.toArray) sb sp := by
  have nc := Up.no hun
  have nb : ¬ Up listed b := fun h => nc (H.e1 h)
  have np : ¬ Up listed p := fun h => nb (H.e2 h)
  have ns' : ¬ Up listed s := fun h => np (H.e3 h)
  have hsz := H.onl.size
  have hown := (H.f0 np).own
  have H2 := H.mov np hw
  exact ⟨H2.onl, fun h => absurd (Up.ne_put hb h) nb, fun h => absurd (Up.ne_put hp h) np, fun h => absurd (Up.ne_put hp h) np, fun h => absurd (Up.ne_put hs h) ns', fun _ => H2.kg ns', fun _ => H2.f0 np,
    fun _ _ => ⟨z, rfl, hz.only (Only.refl (fun _ => False) w2) (fun _ _ _ h => h) (fun b _ h => ⟨by omega, by omega, fun e => by have := (own_ge hown e).2; omega⟩)⟩,
    fun h => absurd (Up.ne_put hb h) nb, fun h => absurd (Up.ne_put hp h) np⟩
theorem ApW.cb (H : ApW W g B Z n m cap A xs qs ns op l c b p s cq listed w sc sb sp) (hun : listed.getD b true = false) (uc : Up listed c) (hp : (b == p) = false) (hs : (b == s) = false) {ys : List Value} (hy : QRow w (Pa B g (.slice A n cap)) ys ns) {w2 : World} (hw : Only (fun _ => False) w w2)
    (hk : Blk w2 w.heap.size 41 ys.toArray) : ApW W g B Z n m cap A xs qs ns op l c b p s cq (listed.setIfInBounds b true) w2 sc (.slice (some ⟨w.heap.size, 0, none⟩) m m) sp := by
  have nb := Up.no hun
  have np : ¬ Up listed p := fun h => nb (H.e2 h)
  have ns' : ¬ Up listed s := fun h => np (H.e3 h)
  have H2 := H.mov np hw
  exact ⟨H2.onl, fun _ => Up.more uc, fun h => absurd (Up.ne_put hp h) np, fun h => absurd (Up.ne_put hp h) np, fun h => absurd (Up.ne_put hs h) ns', fun _ => H2.kg ns', fun _ => H2.f0 np,
    fun _ h => absurd (Up.selfUn hun) h, fun _ _ => ⟨_, ys, rfl, hk, hy.only hw (fun _ _ _ h => h) (fun b _ h => h)⟩, fun h => absurd (Up.ne_put hp h) np⟩
theorem ApW.cp (H : ApW W g B Z n m cap A xs qs ns op l c b p s cq listed w sc sb sp) (hun : listed.getD p true = false) (ub : Up listed b) (ul : Up listed l) (hs : (p == s) = false) (hgZ : g < Z) (hZ : Z ≤ W.heap.size) {ys : List Value} (hy : QRow w (Pa B g (.slice A n cap)) ys ns) {w2 : World} {A' : Option Addr} {c' : Nat}
    (own : w2.ownsRow Z 41 12 (.slice A' (n + m) c') (n + m) (xs ++ ys)) (hg : w.grownBy w2 (Value.slice A n cap).ownBlock) (hf : (Value.slice A' (n + m) c').ownBlock = (Value.slice A n cap).ownBlock ∨ (Value.slice A' (n + m) c').ownBlock = some w.heap.size) :
    ApW W g B Z n m cap A xs qs ns op l c b p s cq (listed.setIfInBounds p true) w2 sc sb (.slice A' (n + m) c') := by
  have np := Up.no hun
  have ns' : ¬ Up listed s := fun h => np (H.e3 h)
  have h0 := H.f0 np
  have ho : Only (fun k => k = g ∨ Z ≤ k) w w2 := (Only.refl _ w).grown hg (fun k hk => Or.inl (Or.inr (own_ge h0.own hk).1))
  have hbl : Blk w2 g 41 (ofC op A n cap).toArray := by
    have hk := H.kg ns'
    have ho2 : Only (fun k => Z ≤ k) w w2 := (Only.refl _ w).grown hg (fun k hk => Or.inl (own_ge h0.own hk).1)
    exact ho2.blk hk (Nat.not_le.2 hgZ)
  exact ⟨H.onl.trans ho, fun _ => Up.more (H.e1 ub), fun _ => Up.more ub, fun _ => Up.more ul, fun h => absurd (Up.ne_put hs h) ns', fun _ => hbl, fun h => absurd (Up.selfUn hun) h, fun _ h => absurd (Up.more ub) h, fun _ h => absurd (Up.selfUn hun) h,
    fun _ => ⟨A', c', _, rfl, h0.app hy own hg hf, fun h => absurd (Up.ne_put hs h) ns'⟩⟩
theorem ApW.cs (H : ApW W g B Z n m cap A xs qs ns op l c b p s cq listed w sc sb sp) (hun : listed.getD s true = false) (up : Up listed p) (hgZ : g < Z) {A' : Option Addr} {c' : Nat} {xs' : List Value} (h1 : ApS w B Z g (n + m) c' A' xs' (qs ++ ns)) {w2 : World} (hw : Only (· = g) w w2)
    (hk : Blk w2 g 41 (ofC op A' (n + m) c').toArray) : ApW W g B Z n m cap A xs qs ns op l c b p s cq (listed.setIfInBounds s true) w2 sc sb (.slice A' (n + m) c') :=
  ⟨H.onl.trans (hw.mono (fun k h => Or.inl h)), fun _ => Up.more (H.e1 (H.e2 up)), fun _ => Up.more (H.e2 up), fun _ => Up.more (H.el up), fun _ => Up.more up, fun h => absurd (Up.selfUn hun) h, fun h => absurd (Up.more up) h,
    fun _ h => absurd (Up.more (H.e2 up)) h, fun _ h => absurd (Up.more up) h, fun _ => ⟨A', c', xs', rfl, h1.move hw hgZ, fun _ => hk⟩⟩
end

/-- A value of a list lies as six cells. -/
theorem VecAt.row6 {R : Value → JV → Prop} {w : World} {B : Nat} {A : Option Addr} {vs : List JV} (h : VecAt R w B A vs) {i : Nat} {v : JV} (hi : vs[i]? = some v) : ∃ (b o : Nat) (ys : List Value), A = some ⟨b, o, none⟩ ∧ b < B ∧ ys.length = 6 ∧ R (.agg ys.toArray) v ∧ ∀ j u, ys[j]? = some u → w.cell? ⟨b, o + i * 6 + j, none⟩ = some u := by
  obtain ⟨b, o, rfl, hb, hc⟩ := h (by have := (List.getElem?_eq_some_iff.1 hi).1; omega)
  obtain ⟨c0, c1, c2, c3, c4, c5, h0, h1, h2, h3, h4, h5, hr⟩ := hc i v hi
  refine ⟨b, o, [c0, c1, c2, c3, c4, c5], rfl, hb, rfl, hr, fun j u hu => ?_⟩
  rcases (by have := (List.getElem?_eq_some_iff.1 hu).1; simp at this; omega : j = 0 ∨ j = 1 ∨ j = 2 ∨ j = 3 ∨ j = 4 ∨ j = 5) with rfl | rfl | rfl | rfl | rfl | rfl <;> simp at hu <;> subst hu
  · exact h0
  · exact h1
  · exact h2
  · exact h3
  · exact h4
  · exact h5
end Go.Proofs.YtbnbemacljjimaaGreatDoor
