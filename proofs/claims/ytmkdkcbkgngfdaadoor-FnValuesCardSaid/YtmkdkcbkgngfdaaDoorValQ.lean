/- keys of a map, walked: its keys in their order. -/
import Derived.Test.YtmkdkcbkgngfdaaDoorValP
import Derived.Sort.OwnSorted
import Derived.Maps.RangeWalk
namespace Go.Proofs.YtmkdkcbkgngfdaaDoor
open Go.RowKit Go.Maps Go.Sort Go.Shelf
set_option linter.unusedVariables false

theorem Tryd.infoStr : (Tryd.prog.info? 9).map (fun i => (i.zero, i.size, i.bytes)) = some (some (.string ⟨#[]⟩), 1, 16) := by kernel_rfl

section
variable {H : Type} {R : Value → Option (DataW H × List MemPlace)}

theorem has_mem {w : World} {b nn : Nat} {D0 : DataW H} (hown : w.ownsMap Tryd.prog 9 R b nn D0) {x : List UInt8} (h : has D0 (.string x) = true) : x ∈ strKeys D0 := by
  obtain ⟨es, rfl, hk⟩ := hown.keysOf
  rw [has_eq, List.any_eq_true] at h
  obtain ⟨p, hp, hs⟩ := h
  obtain ⟨v, hv⟩ := hk p hp
  obtain ⟨y, _, hy, _⟩ := Maps.keyOf_str Tryd.underlying9 hv
  refine List.mem_map.2 ⟨p, hp, ?_⟩
  rw [hy] at hs ⊢
  simpa [Lit.sameKey, strOf] using hs

theorem size_keys (D0 : DataW H) {w : World} {b nn : Nat} (hown : w.ownsMap Tryd.prog 9 R b nn D0) : (strKeys D0).length = Maps.size D0 := by
  obtain ⟨es, rfl, hk⟩ := hown.keysOf
  simp [strKeys, Maps.size]

structure KFr (D0 : DataW H) (R : Value → Option (DataW H × List MemPlace)) (w : World) (b nn : Nat) (wr : World) (left : Lit → Bool) (cnt : Nat) (ss : List (List UInt8)) (cs : Array Value) : Prop where
  rng : wr.ranges Tryd.prog 9 R b (w.heap.size + 1) nn D0 left cnt
  col : Collected D0 left ss
  blk : Blk wr w.heap.size 9 cs
  size : cs.size = Maps.size D0
  cells : ∀ (i : Nat) s, ss[i]? = some s → cs[i]? = some (encStr s)
  below : Below w.heap.size w wr

variable {D0 : DataW H} {w wr w2 : World} {b nn cnt cnt2 : Nat} {left : Lit → Bool} {ss : List (List UInt8)} {cs : Array Value}

theorem KFr.room (h : KFr D0 R w b nn wr left cnt ss cs) {x : List UInt8} {y : DataW H} (hlk : left (.string x) = true) (hat : ∀ zd, D0.atKey (.string x) zd = y) : ss.length < Maps.size D0 := by
  have hC := h.col.step hlk hat
  have hl := nodup_le (ss ++ [x]) (strKeys D0) hC.1 (fun z hz => has_mem h.rng.owns ((hC.2 z).1 hz).1)
  rw [size_keys D0 h.rng.owns] at hl
  simp at hl
  omega

theorem KFr.next (h : KFr D0 R w b nn wr left cnt ss cs) (hb : b < w.heap.size) {x : List UInt8} {y : DataW H} (hlk : left (.string x) = true) (hat : ∀ zd, D0.atKey (.string x) zd = y)
    (hr : w2.ranges Tryd.prog 9 R b (w.heap.size + 1) nn D0 (fun z => left z && !z.sameKey (.string x)) cnt2) (hg : wr.grownBy w2 (some (w.heap.size + 1))) :
    KFr D0 R w b nn (w2.setCell ⟨w.heap.size, ss.length, none⟩ (encStr x)) (fun z => left z && !z.sameKey (.string x)) cnt2 (ss ++ [x]) (cs.setIfInBounds ss.length (encStr x)) := by
  have hlt := h.blk.lt
  have hroom := h.room hlk hat
  have k2 : Blk w2 w.heap.size 9 cs := (hg.block _ hlt (by simp)).trans h.blk
  have g2 : w2.grownBy (w2.setCell ⟨w.heap.size, ss.length, none⟩ (encStr x)) (some w.heap.size) :=
    ⟨rfl, rfl, rfl, by simp [World.setCell], fun k hk hne => Below.heap_setCell _ _ _ k (fun e => hne (by rw [e]))⟩
  refine ⟨hr.kept g2 (by simp; omega) (by simp), h.col.step hlk hat, k2.set_ _ _, by simpa using h.size, fun i s hs => ?_, ?_⟩
  · rcases Nat.lt_or_ge i ss.length with hi | hi
    · rw [List.getElem?_append_left hi] at hs
      rw [Array.getElem?_setIfInBounds_ne (by omega)]
      exact h.cells i s hs
    · have : i = ss.length := by
        have := (List.getElem?_eq_some_iff.1 hs).1
        simp at this
        omega
      subst this
      rw [List.getElem?_append_right (Nat.le_refl _)] at hs
      simp at hs
      subst hs
      rw [Array.getElem?_setIfInBounds_self_of_lt (by rw [h.size]; exact hroom)]
  · exact ⟨g2.os.trans (hg.os.trans h.below.os), g2.tape.trans (hg.tape.trans h.below.tape), g2.output.trans (hg.output.trans h.below.output), by have := h.below.size; have := hg.size; have := g2.size; omega,
      fun k hk => (g2.block k (by have := h.below.size; have := hg.size; omega) (by simp; omega)).trans ((hg.block k (by have := h.below.size; omega) (by simp; omega)).trans (h.below.block k hk))⟩

theorem KFr.full (h : KFr D0 R w b nn wr left cnt ss cs) (hl : ∀ kl, left kl = false) : ss.Perm (strKeys D0) ∧ ss.length = Maps.size D0 ∧ cs.toList.take ss.length = ss.map encStr := by
  have hp := h.col.perm h.rng.owns (string_keyed Tryd.underlying9) Tryd.underlying9 hl
  have hlen : ss.length = Maps.size D0 := by rw [hp.length_eq, size_keys D0 h.rng.owns]
  refine ⟨hp, hlen, ?_⟩
  apply List.ext_getElem?
  intro i
  by_cases hi : i < ss.length
  · rw [List.getElem?_take_of_lt hi, Array.getElem?_toList, h.cells i _ (List.getElem?_eq_getElem hi)]
    simp [hi]
  · rw [List.getElem?_take_eq_none (by omega), List.getElem?_eq_none (by simp; omega)]
end

set_option maxHeartbeats 2000000 in
set_option maxRecDepth 100000 in
theorem keys_any {H : Type} (w : World) (b nn : Nat) (D0 : DataW H) (R : Value → Option (DataW H × List MemPlace)) (hown : w.ownsMap Tryd.prog 9 R b nn D0) (hsz : Maps.size D0 ≤ 100000) :
    Calls Tryd.prog 86 #[.map (some b)] w fun e w' => ∃ (A : Nat) (ss : List (List UInt8)), ss.Perm (strKeys D0) ∧ e = .returned (.slice (some ⟨A, 0, none⟩) ss.length ss.length) ∧ w.heap.size ≤ A ∧ A < w'.heap.size ∧ Below w.heap.size w w' ∧
      (∀ (i : Nat) s, (ss.mergeSort fun x y => decide (x ≤ y))[i]? = some s → w'.cell? ⟨A, i, none⟩ = some (encStr s)) := by
  have hbl := hown.lt
  obtain ⟨i0, hi0, hz0, hz1, hz2⟩ := info_parts Tryd.infoStr
  have hmk := fun W => run_make_rowN (P := Tryd.prog) 24 9 i0 _ Tryd.underlying24 hi0 hz0 .i64 .i64 (Maps.size D0) (Maps.size D0) (Nat.le_refl _) (by rw [hz2]; omega) (by omega) W
  rw [hz1] at hmk
  obtain ⟨cs0, hcs0⟩ : ∃ cs0, madeCells (Value.cells (.string ⟨#[]⟩)) (Maps.size D0 * 1) = cs0 := ⟨_, rfl⟩
  have hsz0 : cs0.size = Maps.size D0 := by rw [← hcs0, size_madeCells]; omega
  rw [hcs0] at hmk
  clear hcs0 hi0 hz0 hz1 hz2
  obtain ⟨W, hW⟩ : ∃ W, W = w.alloc (.cells cs0 9) := ⟨_, rfl⟩
  have sW : W.heap.size = w.heap.size + 1 := by rw [hW]; simp
  have oW : W.ownsMap Tryd.prog 9 R b nn D0 := by rw [hW]; exact hown.alloc _
  have kW : Blk W w.heap.size 9 cs0 := by rw [hW]; exact Blk.new w _ _
  have bW : Below w.heap.size w W := by rw [hW]; exact Below.alloc (Below.refl _ _) (Nat.le_refl _) _
  have start : ∀ w0, w0.ranges Tryd.prog 9 R b W.heap.size nn D0 (Maps.has D0) (Maps.size D0) → W.grownBy w0 none → KFr D0 R w b nn w0 (Maps.has D0) (Maps.size D0) [] cs0 := fun w0 h1 h2 =>
    ⟨by rw [← sW]; exact h1, Collected.start D0, (h2.block _ kW.lt (by simp)).trans kW, hsz0, fun i s hs => by simp at hs, bW.trans ⟨h2.os, h2.tape, h2.output, h2.size, fun k hk => h2.block k (by omega) (by simp)⟩⟩
  have hlen : ∀ ty, (Builtin.len_ #[55] ty #[.map (some b)]).run Tryd.prog w = .ok (.int .i64 (Maps.size D0)) w := fun ty => hown.len Tryd.underlying55 ty
  replace start := hide start
  replace oW := hide oW
  clear bW kW hown
  replace sW := hide sW
  replace hsz := hide hsz
  go_enter Tryd.func86, Tryd.ntmps86
  go_wp2_with (at_range; rw [← hW]; refine wpList_range_own _ rfl _ 55 rfl 9 20 (string_keyed Tryd.underlying9) Tryd.underlying55 _ b nn _ rfl oW.out ?_; intro w0 hrg0 hg0 hs0)
  have h0 := hide (start.out w0 hrg0 hg0)
  clear hrg0 hg0
  rw [sW.out]
  go_frame
  go_loopw [4] (fun s4 wr => ∃ (left : Lit → Bool) (cnt : Nat) (ss : List (List UInt8)) (cs : Array Value), s4 = .int .i64 ss.length ∧ KFr D0 R w b nn wr left cnt ss cs) (fun _ wr => wr.rangeLeft b (w.heap.size + 1))
  case atStart => exact ⟨_, _, [], _, rfl, h0.out⟩
  case round =>
    obtain ⟨left, cnt, ss, cs, rfl, hK⟩ := hrel
    go_wp2_with (at_next; refine wpList_next_ranges _ rfl _ rfl 9 (string_keyed Tryd.underlying9) R encStr id (fun key kl hk => by obtain ⟨x, hx, _⟩ := Maps.keyOf_str Tryd.underlying9 hk; exact ⟨x, hx⟩) (fun v _ _ => ⟨v, rfl⟩) b (w.heap.size + 1) nn _ _ _ rfl hK.rng ?_ ?_)
    · intro hc0 hl0
      obtain ⟨hp, hlen2, htk⟩ := hK.full hl0
      have hcl := sortStrings_any w.heap.size 0 (Maps.size D0) ss wr (holds_of_block hK.blk htk) hK.blk.lt (by have := hsz.out; omega)
      rw [hlen2] at hcl
      replace hcl := hide hcl
      replace hp := hide hp
      replace hK := hide hK
      clear htk
      go_wp2_with (go_at_call 102; refine hcl.out.mono ?_; rintro e w' ⟨rfl, hq⟩; have hq' := hide hq; clear hq)
      obtain ⟨m, os, hw'⟩ := hq'.out
      have hg := grownBy_sorted (w := wr) (g := w.heap.size) (n := m) (os := os) (ss.mergeSort fun x y => decide (x ≤ y)).toArray
      have hh := heap_sorted (w := wr) (g := w.heap.size) (n := m) (os := os) (ss.mergeSort fun x y => decide (x ≤ y)).toArray hK.out.blk
      rw [← hw'] at hg hh
      clear hw'
      replace hg := hide hg
      replace hh := hide hh
      go_ret
      refine ⟨w.heap.size, ss, hp.out, by rw [hlen2]; rfl, Nat.le_refl _, ?_, ?_, fun i s hs => ?_⟩
      · have := hK.out.blk.lt
        have := hg.out.size
        omega
      · exact hK.out.below.trans ⟨hg.out.os, hg.out.tape, hg.out.output, hg.out.size, fun k hk => hg.out.block k (by have := hK.out.below.size; omega) (by simp; omega)⟩
      · have hi := (List.getElem?_eq_some_iff.1 hs).1
        have hb : Blk w' w.heap.size 9 _ := hh.out
        rw [hb.cell]
        have hlt : i < cs.size := by
          rw [hK.out.size, ← hlen2]
          simpa using hi
        have hi' := hi
        simp only [List.length_mergeSort] at hi'
        have he := (List.getElem?_eq_some_iff.1 hs).2
        simp [putCells, hlt, hi', he]
    · intro x c kl yd yp w2 cnt2 hkey hlk hv hat hrg2 hlt hg2 hs2 hen
      obtain ⟨x', ex, rfl, _⟩ := Maps.keyOf_str Tryd.underlying9 hkey
      obtain rfl : x = x' := encStr_inj ex
      have hroom := hK.room hlk hat
      have hnext := hide (hK.next hbl hlk hat hrg2 hg2)
      have k2 : Blk w2 w.heap.size 9 cs := (hg2.block _ hK.blk.lt (by simp)).trans hK.blk
      have hfz := k2.frozen ss.length
      have hcl : w2.cell? ⟨w.heap.size, ss.length, none⟩ = some (cs[ss.length]'(by rw [hK.size]; exact hroom)) := (k2.cell _).trans (Array.getElem?_eq_getElem _)
      have hwrap : IntKind.i64.wrap ((ss.length : Int) + 1) = ((ss.length + 1 : Nat) : Int) := by rw [IntKind.wrap_i64]; have := hsz.out; omega
      have hl1 := hrg2.left_eq
      have hl0 := hK.rng.left_eq
      replace hK := hide hK
      replace hrg2 := hide hrg2
      replace k2 := hide k2
      clear hg2
      go_wp2
      go_roundw
      case rel => exact ⟨_, cnt2, ss ++ [x], _, by simp, hnext.out⟩
      case measure => rw [hnext.out.rng.left_eq, hl0]; exact hlt
end Go.Proofs.YtmkdkcbkgngfdaaDoor
