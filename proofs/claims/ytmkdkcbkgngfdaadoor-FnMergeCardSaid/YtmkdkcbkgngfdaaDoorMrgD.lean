/- deepMergeObjects, walked: two maps merged all the way down. -/
import Derived.Test.YtmkdkcbkgngfdaaDoorMrgC
namespace Go.Proofs.YtmkdkcbkgngfdaaDoor
open Go.RowKit Go.Maps Go.Sort
set_option linter.unusedVariables false

def MD (n : Nat) : Prop := ∀ (w : World) (P : Nat → Prop) (b1 b2 : Nat) (ents1 ents2 : List Ent) (x y : JV), MPt w P n b1 ents1 (prs x) → MPt w P n b2 ents2 (prs y) → Fine (n + 1) x → Fine (n + 1) y →
  Calls Tryd.prog 69 #[.map (some b1), .map (some b2)] w fun e w' => ∃ (g : Nat) (ents : List Ent), e = .returned (.iface 55 (.map (some g))) ∧ Below w.heap.size w w' ∧ MPt w' (fun b => P b ∨ w.heap.size ≤ b) n g ents (mrgW (mvs n) (prs x) (prs y))

theorem mvs_none (n : Nat) (y : JV) : mvs n none y = y := by cases n <;> rfl
theorem mvs_one (n : Nat) (u y : JV) (h : ¬ u.kind = 6) : mvs n (some u) y = y := by
  cases n with
  | zero => rfl
  | succ m => exact if_neg (fun h2 => h h2.1)
theorem mvs_two (n : Nat) (u y : JV) (h : ¬ y.kind = 6) : mvs n (some u) y = y := by
  cases n with
  | zero => rfl
  | succ m => exact if_neg (fun h2 => h h2.2)
theorem mvs_both (m : Nat) (u y : JV) (h1 : u.kind = 6) (h2 : y.kind = 6) : mvs (m + 1) (some u) y = mapJ (mrgW (mvs m) (prs u) (prs y)) := if_pos ⟨h1, h2⟩

/-- What the merged map has at a key, as long as some keys are to come. -/
def pick (n : Nat) (b : Bool) (p q : Option JV) : Option JV :=
  match b, q with
  | false, some y => some (mvs n p y)
  | _, _ => p
def tgt (n : Nat) (ps qs : List (ByteArray × JV)) (left : Lit → Bool) (k : ByteArray) : Option JV := pick n (left (.string k.data.toList)) (lk ps k) (lk qs k)
theorem pick_true (n : Nat) (p q : Option JV) : pick n true p q = p := rfl
theorem pick_none (n : Nat) (b : Bool) (p : Option JV) : pick n b p none = p := by cases b <;> rfl

def Pn (w : World) (P : Nat → Prop) (r : Nat) : Nat → Prop := fun b => (P b ∨ w.heap.size ≤ b) ∧ b ≠ w.heap.size ∧ b ≠ r

structure DFr (w : World) (P : Nat → Prop) (r b2 n : Nat) (ents2 : List Ent) (ps qs : List (ByteArray × JV)) (wr : World) (left : Lit → Bool) (cnt : Nat) (cur : List Ent) : Prop where
  rng : wr.ranges Tryd.prog 9 Rv b2 r ents2.length (.map (ents2.map entL)) left cnt
  map : MapIs wr w.heap.size cur
  asc : Asc cur
  at_ : ∀ k : ByteArray, OptRel (GP wr (Pn w P r) n) (lk cur k) (tgt n ps qs left k)
  below : Below w.heap.size w wr

section
variable {w wr w1 w2 w3 : World} {P : Nat → Prop} {r b2 n cnt cnt1 : Nat} {ents2 cur : List Ent} {ps qs : List (ByteArray × JV)} {left : Lit → Bool}

theorem DFr.room (h : DFr w P r b2 n ents2 ps qs wr left cnt cur) : cur.length ≤ ps.length + qs.length := by
  have := asc_len h.asc (L := ps.map (·.1) ++ qs.map (·.1)) (fun p hp => by
    have h1 := mem_lk h.asc hp
    have h2 := h.at_ p.1
    rw [h1] at h2
    unfold tgt at h2
    rw [List.mem_append]
    cases e : lk qs p.1 with
    | some y => exact Or.inr (List.mem_map.2 ⟨(p.1, y), lk_mem e, rfl⟩)
    | none =>
      rw [e, pick_none] at h2
      cases e : lk ps p.1 with
      | none => rw [e] at h2; exact h2.elim
      | some u => exact Or.inl (List.mem_map.2 ⟨(p.1, u), lk_mem e, rfl⟩))
  simpa using this

theorem DFr.next (h : DFr w P r b2 n ents2 ps qs wr left cnt cur) (hr : w.heap.size < r) (hb2 : b2 < w.heap.size) {k : ByteArray} {c : Value} {y : JV} (hy : lk qs k = some y)
    (hr1 : w1.ranges Tryd.prog 9 Rv b2 r ents2.length (.map (ents2.map entL)) (fun z => left z && !z.sameKey (.string k.data.toList)) cnt1) (hg1 : wr.grownBy w1 (some r)) (hbl : Below w1.heap.size w1 w2)
    (hv : GP w2 (Pn w P r) n c (mvs n (lk ps k) y))
    (hown : w3.ownsMap Tryd.prog 9 Rv w.heap.size (cur.length + 1) ((DataW.map (cur.map entL)).put (.string k.data.toList) (.held c))) (hg3 : w2.grownBy w3 (some w.heap.size)) :
    DFr w P r b2 n ents2 ps qs w3 (fun z => left z && !z.sameKey (.string k.data.toList)) cnt1 (put cur k c) := by
  have s1 := hg1.size
  have s2 := hbl.size
  have s3 := hg3.size
  have s0 := h.below.size
  rw [put_ents cur k c h.asc] at hown
  have r2 := hr1.kept (w' := w2) (row := none) ⟨hbl.os, hbl.tape, hbl.output, hbl.size, fun k hk _ => hbl.block k hk⟩ (by simp) (by simp)
  refine ⟨r2.kept hg3 (by simp; omega) (by simp; omega), MapIs.norm hown, asc_put _ _ _ h.asc, fun k' => ?_, ?_⟩
  · rw [lk_put]
    unfold tgt
    dsimp only
    rw [same_lit]
    by_cases e : k = k'
    · subst e
      rw [if_pos rfl]
      simp only [decide_true, Bool.not_true, Bool.and_false, hy]
      show GP w3 _ n c _
      exact GP.keep (fun b _ hb => hg3.block b (by assumption) (by simpa using hb.2.1)) s3 (fun b _ hb => hb) n _ _ hv
    · rw [if_neg e]
      simp only [Ne.symm e, decide_false, Bool.not_false, Bool.and_true]
      have h2 := h.at_ k'
      unfold tgt at h2
      revert h2
      generalize pick n (left (.string k'.data.toList)) (lk ps k') (lk qs k') = t
      intro h2
      cases hc : lk cur k' with
      | none =>
        rw [hc] at h2
        cases t with
        | none => trivial
        | some z => exact h2.elim
      | some d =>
        rw [hc] at h2
        cases t with
        | none => exact h2
        | some z => exact GP.keep (fun b hb1 hb => (hg3.block b (by omega) (by simpa using hb.2.1)).trans ((hbl.block b (by omega)).trans (hg1.block b hb1 (by simpa using hb.2.2)))) (by omega) (fun b _ hb => hb) n _ _ h2
  · exact ⟨hg3.os.trans (hbl.os.trans (hg1.os.trans h.below.os)), hg3.tape.trans (hbl.tape.trans (hg1.tape.trans h.below.tape)), hg3.output.trans (hbl.output.trans (hg1.output.trans h.below.output)), by omega,
      fun b hb => (hg3.block b (by omega) (by simp; omega)).trans ((hbl.block b (by omega)).trans ((hg1.block b (by omega) (by simp; omega)).trans (h.below.block b hb)))⟩

theorem DFr.done (h : DFr w P r b2 n ents2 ps qs wr left cnt cur) (hp : Asc ps) (hq : Asc qs) (hl : ∀ kl, left kl = false) : MPt wr (fun b => P b ∨ w.heap.size ≤ b) n w.heap.size cur (mrgW (mvs n) ps qs) := by
  have ha := asc_mrgW (mvs n) qs ps hp
  obtain ⟨h1, h2⟩ := asc_match (GP wr (Pn w P r) n) cur (mrgW (mvs n) ps qs) h.asc ha (fun k => by
    have := h.at_ k
    unfold tgt at this
    rw [hl] at this
    rw [lk_mrgW _ _ _ _ hq]
    cases e : lk qs k with
    | none => rw [e] at this; exact this
    | some y => rw [e] at this; exact this)
  refine ⟨Or.inr (Nat.le_refl _), World.ownsMap.lt h.map, h.map, h1, fun i y hy => ?_⟩
  obtain ⟨e, he, _, hg⟩ := h2 i y hy
  exact ⟨e, he, GP.keep (fun b _ _ => rfl) (Nat.le_refl _) (fun b _ hb => hb.1) n _ _ hg⟩
end

set_option maxHeartbeats 4000000 in
set_option maxRecDepth 100000 in
theorem deep_step (n : Nat) (ih : ∀ m, n = m + 1 → MD m) : MD n := by
  intro w P b1 b2 ents1 ents2 x y hm1 hm2 hx hy
  have ha1 := hm1.asc hx.asc
  have ha2 := hm2.asc hy.asc
  have hl1 : ents1.length ≤ 400 := by have := congrArg List.length hm1.keys; simp at this; have := hx.len; omega
  have hl2 : ents2.length ≤ 400 := by have := congrArg List.length hm2.keys; simp at this; have := hy.len; omega
  obtain ⟨W0, hW0⟩ : ∃ W0, W0 = w.alloc (.map #[] 0) := ⟨_, rfl⟩
  have s0 : W0.heap.size = w.heap.size + 1 := by rw [hW0]; simp
  have b0 : Below w.heap.size w W0 := by rw [hW0]; exact Below.alloc (Below.refl _ _) (Nat.le_refl _) _
  have m0 : MapIs W0 w.heap.size [] := by rw [hW0]; exact World.ownsMap_made w _ _ _
  have hk0 : ∀ b, b < w.heap.size → P b → W0.heap[b]? = w.heap[b]? := fun b hb _ => b0.block b hb
  have n1 := hm1.keep hk0 b0.size (fun b _ h => h)
  have n2 := hm2.keep hk0 b0.size (fun b _ h => h)
  have hcopy := hide (copy_any W0 w.heap.size b1 ents1 m0 n1.map ha1 (by have := hm1.lt; omega) (by omega))
  have hmk := fun (z : Int) W => run_makeMap_hint (P := Tryd.prog) 55 9 20 .i64 z Tryd.underlying55 W
  have hlen1 : ∀ ty, (Builtin.len_ #[55] ty #[.map (some b1)]).run Tryd.prog w = .ok (.int .i64 ents1.length) w := fun ty => by
    have := World.ownsMap.len hm1.map Tryd.underlying55 ty
    simpa [Maps.size] using this
  have hlen2 : ∀ ty, (Builtin.len_ #[55] ty #[.map (some b2)]).run Tryd.prog w = .ok (.int .i64 ents2.length) w := fun ty => by
    have := World.ownsMap.len hm2.map Tryd.underlying55 ty
    simpa [Maps.size] using this
  have hwr : IntKind.i64.wrap ((ents1.length : Int) + (ents2.length : Int)) = (ents1.length : Int) + (ents2.length : Int) := by rw [IntKind.wrap_i64]; omega
  have hlt2 := hm2.lt
  have start : ∀ W w0, MapIs W w.heap.size ents1 → Only (· = w.heap.size) W0 W → w0.ranges Tryd.prog 9 Rv b2 W.heap.size ents2.length (.map (ents2.map entL)) (Maps.has (.map (ents2.map entL))) (Maps.size (.map (ents2.map entL))) → W.grownBy w0 none →
      DFr w P W.heap.size b2 n ents2 (prs x) (prs y) w0 (Maps.has (.map (ents2.map entL))) (Maps.size (.map (ents2.map entL))) ents1 := fun W w0 h1 h2 h3 h4 => by
    have t1 := h2.size
    have t2 := h4.size
    have hkeep : ∀ b, b < w.heap.size → w0.heap[b]? = w.heap[b]? := fun b hb => (h4.block b (by omega) (by simp)).trans ((h2.block b (by omega) (by omega)).trans (b0.block b hb))
    refine ⟨h3, ?_, ha1, fun k => ?_, ⟨h4.os.trans (h2.os.trans b0.os), h4.tape.trans (h2.tape.trans b0.tape), h4.output.trans (h2.output.trans b0.output), by omega, hkeep⟩⟩
    · obtain ⟨es, clock, hb, rr⟩ := h1
      exact ⟨es, clock, (h4.block _ (by omega) (by simp)).trans hb, rr⟩
    · have e1 : tgt n (prs x) (prs y) (Maps.has (.map (ents2.map entL))) k = lk (prs x) k := by
        unfold tgt
        rw [has_lk]
        have := hm2.rel k
        cases e : lk ents2 k with
        | none =>
          rw [e] at this
          cases e3 : lk (prs y) k with
          | none => exact pick_none _ _ _
          | some z => rw [e3] at this; exact this.elim
        | some d => exact pick_true _ _ _
      rw [e1]
      have := hm1.rel k
      cases e : lk ents1 k with
      | none =>
        rw [e] at this
        cases e3 : lk (prs x) k with
        | none => trivial
        | some z => rw [e3] at this; exact this.elim
      | some d =>
        rw [e] at this
        cases e3 : lk (prs x) k with
        | none => rw [e3] at this; exact this.elim
        | some z =>
          rw [e3] at this
          exact GP.keep (fun b hb _ => hkeep b hb) (by omega) (fun b hb hp => ⟨Or.inl hp, by omega, by omega⟩) n _ _ this
  have hr2 : ∀ W, Only (· = w.heap.size) W0 W → W.ownsMap Tryd.prog 9 Rv b2 ents2.length (.map (ents2.map entL)) := fun W h => n2.map.only h (by omega)
  have hrel2 : ∀ W, Below w.heap.size w W → ∀ (k : ByteArray) (c : Value), lk ents2 k = some c → ∃ z, lk (prs y) k = some z ∧ Fine n z ∧ ∀ r, w.heap.size < r → GP W (Pn w P r) n c z := fun W hW k c hc => by
    have := hm2.rel k
    rw [hc] at this
    cases e3 : lk (prs y) k with
    | none => rw [e3] at this; exact this.elim
    | some z =>
      rw [e3] at this
      exact ⟨z, rfl, hy.val (lk_mem e3), fun r hr => GP.keep (fun b hb _ => hW.block b hb) hW.size (fun b hb hp => ⟨Or.inl hp, by omega, by omega⟩) n _ _ this⟩
  have hfx : ∀ k u, lk (prs x) k = some u → Fine n u := fun k u h => hx.val (lk_mem h)
  have hsz : (prs x).length + (prs y).length ≤ 800 := by have := hx.len; have := hy.len; omega
  have hasc1 := hx.asc
  have hasc2 := hy.asc
  replace ih := hide ih
  replace start := hide start
  replace hr2 := hide hr2
  replace hrel2 := hide hrel2
  replace hfx := hide hfx
  clear n1 n2 hk0 m0 b0 hm1 hm2 hx hy
  go_enter Tryd.func69, Tryd.ntmps69
  go_wp2_with fail
  rw [← hW0]
  refine hcopy.out.mono ?_
  rintro e W ⟨rfl, hWm, hWo⟩
  have hlW : w.heap.size < W.heap.size := by have := hWo.size; omega
  have hrW := hr2.out W hWo
  have hst := hide fun w0 => start.out W w0 hWm hWo
  clear hWm hWo hW0 hcopy start hr2
  replace hrW := hide hrW
  go_wp2_with (at_range; refine wpList_range_own _ rfl _ 55 rfl 9 20 (string_keyed Tryd.underlying9) Tryd.underlying55 _ b2 ents2.length _ rfl hrW.out ?_; intro w0 hrg0 hg0 hs0)
  have h0 := hide (hst.out w0 hrg0 hg0)
  clear hrg0 hg0 hst hrW
  go_frame
  go_loopw [6] (fun _ wr => ∃ (left : Lit → Bool) (cnt : Nat) (cur : List Ent), DFr w P W.heap.size b2 n ents2 (prs x) (prs y) wr left cnt cur) (fun _ wr => wr.rangeLeft b2 W.heap.size)
  case atStart => exact ⟨_, _, _, h0.out⟩
  case round =>
    obtain ⟨left, cnt, cur, hD⟩ := hrel
    go_wp2_with (at_next; refine wpList_next_ranges _ rfl _ rfl 9 (string_keyed Tryd.underlying9) Rv Value.string id (fun key kl hk => by obtain ⟨x, hx, _⟩ := key_lit hk; exact ⟨x, hx⟩) (fun v _ _ => ⟨v, rfl⟩) b2 W.heap.size ents2.length _ _ _ rfl hD.rng ?_ ?_)
    · intro hc0 hl0
      go_wp2
      go_ret
      exact ⟨_, cur, rfl, hD.below, hD.done hasc1 hasc2 hl0⟩
    · intro k c kl yd yp w1 cnt1 hkey hlk hv hat hrg1 hlt hg1 hs1 hen
      obtain ⟨k', ex, rfl, hks⟩ := key_lit hkey
      cases ex
      have hyd : yd = .held c := by
        have : Rv c = some (yd, yp) := hv
        unfold Rv at this
        cases this
        rfl
      subst hyd
      have s0' := hD.below.size
      have t1 := hg1.size
      have hb1 : Below w.heap.size w w1 := ⟨hg1.os.trans hD.below.os, hg1.tape.trans hD.below.tape, hg1.output.trans hD.below.output, by omega, fun b hb => (hg1.block b (by omega) (by simp; omega)).trans (hD.below.block b hb)⟩
      have hm1 : MapIs w1 w.heap.size cur := by
        obtain ⟨es, clock, hb, rr⟩ := hD.map
        exact ⟨es, clock, (hg1.block _ (World.ownsMap.lt hD.map) (by simp; omega)).trans hb, rr⟩
      have hroom : cur.length < maxLen := by have := hD.room; unfold maxLen; omega
      have hl0 := hD.rng.left_eq
      obtain ⟨z, hz, hzf, hzg⟩ := hrel2.out w1 hb1 k c (at_lk hat)
      have hzg := hzg W.heap.size hlW
      have htg : tgt n (prs x) (prs y) left k = lk (prs x) k := by unfold tgt; rw [hlk]; rfl
      have hcur := hD.at_ k
      rw [htg] at hcur
      have hlook := lookup_ok hm1 k hks
      have hnx := hide fun (w2 w3 : World) (c' : Value) h1 h2 h3 h4 => hD.next (w2 := w2) (w3 := w3) (c := c') hlW hlt2 hz hrg1 hg1 h1 h2 h3 h4
      have hfin : ∀ w2 w3 c', c' = c → Below w1.heap.size w1 w2 → mvs n (lk (prs x) k) z = z → w3.ownsMap Tryd.prog 9 Rv w.heap.size (cur.length + 1) ((DataW.map (cur.map entL)).put (.string k.data.toList) (.held c')) → w2.grownBy w3 (some w.heap.size) → DFr w P W.heap.size b2 n ents2 (prs x) (prs y) w3 (fun zz => left zz && !zz.sameKey (.string k.data.toList)) cnt1 (put cur k c') := fun w2 w3 c' e h1 h2 h3 h4 => by
        subst e
        exact hnx.out w2 w3 c' h1 (by rw [h2]; exact GP.keep (fun b hb _ => h1.block b hb) h1.size (fun b _ h => h) n _ _ hzg) h3 h4
      have hgk : ∀ e u, GP wr (Pn w P W.heap.size) n e u → GP w1 (Pn w P W.heap.size) n e u := fun e u h => GP.keep (fun b hb hp => hg1.block b hb (by simpa using hp.2.2)) hg1.size (fun b _ h => h) n _ _ h
      have hcform := hzg.form
      replace hm1 := hide hm1
      replace hb1 := hide hb1
      replace hD := hide hD
      replace hfin := hide hfin
      clear hrg1 hg1 hat hv htg
      cases hu : lk (prs x) k with
      | none =>
        rw [hu] at hcur
        have hn : lk cur k = none := by
          cases e : lk cur k with
          | none => rfl
          | some d => rw [e] at hcur; exact hcur.elim
        rw [hn] at hlook
        simp only [Option.getD_none, Option.isSome_none] at hlook
        have hm0 : mvs n (lk (prs x) k) z = z := by rw [hu]; exact mvs_none n z
        rcases hcform with rfl | ⟨t, v, rfl⟩
        all_goals
          go_wp2_with (at_mapUpdate; refine wpList_mapUpdate_own _ rfl _ _ _ 55 rfl 9 20 (Maps.string_keyed Tryd.underlying9) Tryd.underlying55 Rv w.heap.size cur.length _ rfl hm1.out hroom _ _ (.string k.data.toList) rfl rfl hkey (.held _) [] rfl ?_; intro w3 hown2 hgrow2; have hnext := hide (hfin.out w1 w3 _ rfl (Below.refl _ _) hm0 hown2 hgrow2); clear hown2 hgrow2; go_frame)
          go_roundw
          case rel => exact ⟨_, cnt1, _, hnext.out⟩
          case measure => rw [hnext.out.rng.left_eq, hl0]; exact hlt
      | some u =>
        rw [hu] at hcur
        cases hce : lk cur k with
        | none => rw [hce] at hcur; exact hcur.elim
        | some e =>
        rw [hce] at hcur hlook
        have hge := hgk e u hcur
        simp only [Option.getD_some, Option.isSome_some] at hlook
        by_cases hu6 : u.kind = 6
        · obtain ⟨m, rfl⟩ : ∃ m, n = m + 1 := by
            cases n with
            | zero => exact hge.elim
            | succ m => exact ⟨m, rfl⟩
          have hfu := hfx.out k u hu
          obtain ⟨bu, eu, rfl, hmu⟩ := hge.mg hu6 (by obtain ⟨-, -, -, -, -, -, h, -⟩ := hfu; exact h)
          by_cases hz6 : z.kind = 6
          · obtain ⟨bz, ez, rfl, hmz⟩ := hzg.mg hz6 (by obtain ⟨-, -, -, -, -, -, h, -⟩ := hzf; exact h)
            have hcall := hide (ih.out m rfl w1 (Pn w P W.heap.size) bu bz eu ez u z hmu hmz hfu hzf)
            have hmv : mvs (m + 1) (lk (prs x) k) z = mapJ (mrgW (mvs m) (prs u) (prs z)) := by rw [hu]; exact mvs_both m u z hu6 hz6
            have hW1 : W.heap.size < w1.heap.size := Nat.lt_of_lt_of_le hD.out.rng.lt t1
            have hfin2 := hide fun (w2 w3 : World) (g' : Nat) (es' : List Ent) (h1 : Below w1.heap.size w1 w2) (h2 : MPt w2 (fun b => Pn w P W.heap.size b ∨ w1.heap.size ≤ b) m g' es' (mrgW (mvs m) (prs u) (prs z))) h3 h4 => hnx.out w2 w3 (.iface 55 (.map (some g'))) h1 (by
              rw [hmv]
              exact GP.keep (fun b _ _ => rfl) (Nat.le_refl _) (fun b _ hp => by rcases hp with hp | hp; exact hp; exact ⟨Or.inr (by omega), by omega, by omega⟩) (m + 1) _ _ h2.gp) h3 h4
            have hks2 : ∀ w2, Below w1.heap.size w1 w2 → MapIs w2 w.heap.size cur := fun w2 h => hm1.out.only (P := fun _ => False) (Only.of_below h (fun k hk _ => hk)) (fun h => h)
            replace hks2 := hide hks2
            clear hcur hge hgk hzg
            go_wp2_with (first
              | (go_at_call 69; refine hcall.out.mono ?_; rintro e w2 ⟨g', es', rfl, hbl2, hmp2⟩; replace hbl2 := hide hbl2; replace hmp2 := hide hmp2)
              | (at_mapUpdate; refine wpList_mapUpdate_own _ rfl _ _ _ 55 rfl 9 20 (Maps.string_keyed Tryd.underlying9) Tryd.underlying55 Rv w.heap.size cur.length _ rfl (hks2.out w2 hbl2.out) hroom _ _ (.string k.data.toList) rfl rfl hkey (.held _) [] rfl ?_; intro w3 hown2 hgrow2; have hnext := hide (hfin2.out w2 w3 g' es' hbl2.out hmp2.out hown2 hgrow2); clear hown2 hgrow2; go_frame))
            go_roundw
            case rel => exact ⟨_, cnt1, _, hnext.out⟩
            case measure => rw [hnext.out.rng.left_eq, hl0]; exact hlt
          · have hnm := hzg.nomap hz6
            unfold NoMap at hnm
            have hm0 : mvs (m + 1) (lk (prs x) k) z = z := by rw [hu]; exact mvs_two (m + 1) u z hz6
            clear hcur hge hgk hzg hmu
            rcases hcform with rfl | ⟨t, v, rfl⟩
            all_goals
              go_wp2_with (at_mapUpdate; refine wpList_mapUpdate_own _ rfl _ _ _ 55 rfl 9 20 (Maps.string_keyed Tryd.underlying9) Tryd.underlying55 Rv w.heap.size cur.length _ rfl hm1.out hroom _ _ (.string k.data.toList) rfl rfl hkey (.held _) [] rfl ?_; intro w3 hown2 hgrow2; have hnext := hide (hfin.out w1 w3 _ rfl (Below.refl _ _) hm0 hown2 hgrow2); clear hown2 hgrow2; go_frame)
              go_roundw
              case rel => exact ⟨_, cnt1, _, hnext.out⟩
              case measure => rw [hnext.out.rng.left_eq, hl0]; exact hlt
        · have hnm := hge.nomap hu6
          unfold NoMap at hnm
          have heform := hge.form
          have hm0 : mvs n (lk (prs x) k) z = z := by rw [hu]; exact mvs_one n u z hu6
          clear hcur hge hgk hzg
          rcases hcform with rfl | ⟨t, v, rfl⟩
          all_goals
            rcases heform with rfl | ⟨t', v', rfl⟩
            all_goals
              go_wp2_with (at_mapUpdate; refine wpList_mapUpdate_own _ rfl _ _ _ 55 rfl 9 20 (Maps.string_keyed Tryd.underlying9) Tryd.underlying55 Rv w.heap.size cur.length _ rfl hm1.out hroom _ _ (.string k.data.toList) rfl rfl hkey (.held _) [] rfl ?_; intro w3 hown2 hgrow2; have hnext := hide (hfin.out w1 w3 _ rfl (Below.refl _ _) hm0 hown2 hgrow2); clear hown2 hgrow2; go_frame)
              go_roundw
              case rel => exact ⟨_, cnt1, _, hnext.out⟩
              case measure => rw [hnext.out.rng.left_eq, hl0]; exact hlt

theorem deepMerge_any : ∀ n, MD n
  | 0 => deep_step 0 (fun m h => by omega)
  | n + 1 => deep_step (n + 1) (fun m h => by obtain rfl : m = n := by omega
                                              exact deepMerge_any m)
end Go.Proofs.YtmkdkcbkgngfdaaDoor
