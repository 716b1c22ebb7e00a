/- maps.Copy into an empty map, walked. -/
import Derived.Test.YtmkdkcbkgngfdaaDoorMrgG
import Derived.Test.YtmkdkcbkgngfdaaDoorValP
namespace Go.Proofs.YtmkdkcbkgngfdaaDoor
open Go.RowKit Go.Maps Go.Sort
set_option linter.unusedVariables false

theorem asc_len {α : Type} {cur : List (ByteArray × α)} (h : Asc cur) {L : List ByteArray} (hm : ∀ p ∈ cur, p.1 ∈ L) : cur.length ≤ L.length := by
  have hn : (cur.map (·.1)).Nodup := by
    unfold List.Nodup
    rw [List.pairwise_map]
    exact h.imp (fun hlt e => by rw [e] at hlt; exact List.lt_irrefl _ hlt)
  have := nodup_le _ L hn (fun k hk => by
    obtain ⟨p, hp, rfl⟩ := List.mem_map.1 hk
    exact hm p hp)
  simpa using this

theorem key_lit {v : Value} {kl : Lit} (h : keyOf Tryd.prog 9 v = some kl) : ∃ k : ByteArray, v = .string k ∧ kl = .string k.data.toList ∧ k.size ≤ 9223372036854775807 := by
  obtain ⟨x, hx, hl, hs⟩ := Maps.keyOf_str Tryd.underlying9 h
  refine ⟨⟨x.toArray⟩, hx, by simpa using hl, ?_⟩
  unfold maxLen at hs
  simpa [ByteArray.size] using hs

structure CFr (w : World) (g b : Nat) (ents : List Ent) (wr : World) (left : Lit → Bool) (cnt : Nat) (cur : List Ent) : Prop where
  rng : wr.ranges Tryd.prog 9 Rv b w.heap.size ents.length (.map (ents.map entL)) left cnt
  map : MapIs wr g cur
  asc : Asc cur
  at_ : ∀ k : ByteArray, lk cur k = if left (.string k.data.toList) = true then none else lk ents k
  grown : w.grownBy wr (some g)

theorem CFr.room {w wr : World} {g b cnt : Nat} {ents cur : List Ent} {left : Lit → Bool} (h : CFr w g b ents wr left cnt cur) : cur.length ≤ ents.length := by
  have := asc_len h.asc (L := ents.map (·.1)) (fun p hp => by
    have h1 := mem_lk h.asc hp
    rw [h.at_] at h1
    split at h1
    · cases h1
    · exact List.mem_map.2 ⟨(p.1, p.2), lk_mem h1, rfl⟩)
  simpa using this

theorem CFr.next {w wr w1 w2 : World} {g b cnt cnt1 : Nat} {ents cur : List Ent} {left : Lit → Bool} (h : CFr w g b ents wr left cnt cur) (hne : g ≠ b) (hg : g < w.heap.size) {k : ByteArray} {c : Value}
    (hat : ∀ zd : DataW Value, (DataW.map (ents.map entL)).atKey (.string k.data.toList) zd = .held c)
    (hr : w1.ranges Tryd.prog 9 Rv b w.heap.size ents.length (.map (ents.map entL)) (fun z => left z && !z.sameKey (.string k.data.toList)) cnt1) (hg1 : wr.grownBy w1 (some w.heap.size))
    (hown : w2.ownsMap Tryd.prog 9 Rv g (cur.length + 1) ((DataW.map (cur.map entL)).put (.string k.data.toList) (.held c))) (hg2 : w1.grownBy w2 (some g)) :
    CFr w g b ents w2 (fun z => left z && !z.sameKey (.string k.data.toList)) cnt1 (put cur k c) := by
  rw [put_ents cur k c h.asc] at hown
  refine ⟨hr.kept hg2 (by simp; exact Ne.symm hne) (by simp; omega), MapIs.norm hown, asc_put _ _ _ h.asc, fun k' => ?_, ?_⟩
  · rw [lk_put, h.at_ k', same_lit]
    by_cases e : k = k'
    · subst e
      simp [at_lk hat]
    · simp [e, Ne.symm e]
  · exact (h.grown.andThen hg1 (fun j hj => .inl (by cases hj; exact Nat.le_refl _))).andThen hg2 (fun j hj => .inr hj)

set_option maxHeartbeats 2000000 in
set_option maxRecDepth 100000 in
theorem copy_any (w : World) (g b : Nat) (ents : List Ent) (hd : MapIs w g []) (hs : MapIs w b ents) (ha : Asc ents) (hne : g ≠ b) (hl : ents.length ≤ 100000) :
    Calls Tryd.prog 85 #[.map (some g), .map (some b)] w fun e w' => e = .returned (.tuple #[]) ∧ MapIs w' g ents ∧ Only (· = g) w w' := by
  have hgl := World.ownsMap.lt hd
  have hbl := World.ownsMap.lt hs
  have start : ∀ w0, w0.ranges Tryd.prog 9 Rv b w.heap.size ents.length (.map (ents.map entL)) (Maps.has (.map (ents.map entL))) (Maps.size (.map (ents.map entL))) → w.grownBy w0 none → CFr w g b ents w0 (Maps.has (.map (ents.map entL))) (Maps.size (.map (ents.map entL))) [] := fun w0 h1 h2 => by
    refine ⟨h1, ?_, List.Pairwise.nil, fun k => ?_, h2.but _⟩
    · obtain ⟨es, clock, hb, r⟩ := hd
      exact ⟨es, clock, (h2.block _ hgl (by simp)).trans hb, r⟩
    · rw [has_lk]
      cases lk ents k <;> simp [lk]
  have hs' : w.ownsMap Tryd.prog 9 Rv b ents.length (.map (ents.map entL)) := hs
  replace start := hide start
  replace hs' := hide hs'
  clear hd hs
  go_enter Tryd.func85, Tryd.ntmps85
  go_wp2_with (at_range; refine wpList_range_own _ rfl _ 55 rfl 9 20 (string_keyed Tryd.underlying9) Tryd.underlying55 _ b ents.length _ rfl hs'.out ?_; intro w0 hrg0 hg0 hs0)
  have h0 := hide (start.out w0 hrg0 hg0)
  clear hrg0 hg0
  go_frame
  go_loopw [8] (fun _ wr => ∃ (left : Lit → Bool) (cnt : Nat) (cur : List Ent), CFr w g b ents wr left cnt cur) (fun _ wr => wr.rangeLeft b w.heap.size)
  case atStart => exact ⟨_, _, [], h0.out⟩
  case round =>
    obtain ⟨left, cnt, cur, hC⟩ := hrel
    go_wp2_with (at_next; refine wpList_next_ranges _ rfl _ rfl 9 (string_keyed Tryd.underlying9) Rv Value.string id (fun key kl hk => by obtain ⟨x, hx, _⟩ := key_lit hk; exact ⟨x, hx⟩) (fun v _ _ => ⟨v, rfl⟩) b w.heap.size ents.length _ _ _ rfl hC.rng ?_ ?_)
    · intro hc0 hl0
      go_wp2
      go_end0
      have hq : ∀ k, OptRel Eq (lk cur k) (lk ents k) := fun k => by
        rw [hC.at_ k, hl0]
        cases lk ents k <;> simp [OptRel]
      obtain ⟨e1, e2⟩ := asc_match Eq cur ents hC.asc ha hq
      have : cur = ents := by
        apply List.ext_getElem?
        intro i
        cases hi : ents[i]? with
        | none =>
          rw [List.getElem?_eq_none_iff] at hi ⊢
          have := congrArg List.length e1
          simp at this
          omega
        | some y =>
          obtain ⟨e, he, h1, h2⟩ := e2 i y hi
          rw [he]
          exact congrArg some (Prod.ext h1 h2)
      subst this
      exact ⟨rfl, hC.map, ⟨hC.grown.os, hC.grown.tape, hC.grown.output, hC.grown.size, fun k hk hn => hC.grown.block k hk (by simpa using hn)⟩⟩
    · intro x c kl yd yp w1 cnt1 hkey hlk hv hat hrg1 hlt hg1 hs1 hen
      obtain ⟨x', ex, rfl, _⟩ := key_lit hkey
      cases ex
      have hy : yd = .held c := by
        have : Rv c = some (yd, yp) := hv
        unfold Rv at this
        cases this
        rfl
      subst hy
      have hown1 : w1.ownsMap Tryd.prog 9 Rv g cur.length (.map (cur.map entL)) := by
        obtain ⟨es, clock, hb, r⟩ := hC.map
        exact ⟨es, clock, (hg1.block _ (World.ownsMap.lt hC.map) (by simp; omega)).trans hb, r⟩
      have hroom : cur.length < maxLen := by have := hC.room; unfold maxLen; omega
      have hl0 := hC.rng.left_eq
      have hnx := hide fun (w2 : World) h1 h2 => hC.next (w2 := w2) hne hgl hat hrg1 hg1 h1 h2
      replace hown1 := hide hown1
      replace hC := hide hC
      clear hrg1 hg1 hv hat
      go_wp2_with (at_mapUpdate; refine wpList_mapUpdate_own _ rfl _ _ _ 55 rfl 9 20 (Maps.string_keyed Tryd.underlying9) Tryd.underlying55 Rv g cur.length _ rfl hown1.out hroom _ _ (.string x.data.toList) rfl rfl hkey (.held _) [] rfl ?_; intro w2 hown2 hgrow2; have hnext := hide (hnx.out w2 hown2 hgrow2); clear hown2 hgrow2; go_frame)
      go_roundw
      case rel => exact ⟨_, cnt1, _, hnext.out⟩
      case measure => rw [hnext.out.rng.left_eq, hl0]; exact hlt
end Go.Proofs.YtmkdkcbkgngfdaaDoor
