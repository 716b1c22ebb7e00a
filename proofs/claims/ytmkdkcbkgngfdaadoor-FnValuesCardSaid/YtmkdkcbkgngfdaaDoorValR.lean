/- values, walked: a list's elements, a map's values in the order of its keys; nothing else has any. -/
import Derived.Test.YtmkdkcbkgngfdaaDoorValQ
import Derived.Test.YtmkdkcbkgngfdaaDoorValB
import Derived.Test.YtmkdkcbkgngfdaaDoorFromZ
namespace Go.Proofs.YtmkdkcbkgngfdaaDoor
open Go.RowKit Go.Maps Go.Sort Go.Shelf
set_option linter.unusedVariables false

theorem keys_map (w : World) (b : Nat) (ents : List Ent) (hm : MapIs w b ents) (hr : Rise (ents.map (·.1))) (hl : ents.length ≤ 100000) :
    Calls Tryd.prog 86 #[.map (some b)] w fun e w' => ∃ A : Nat, e = .returned (.slice (some ⟨A, 0, none⟩) ents.length ents.length) ∧ w.heap.size ≤ A ∧ A < w'.heap.size ∧ Below w.heap.size w w' ∧
      ∀ (i : Nat) (x : Ent), ents[i]? = some x → w'.cell? ⟨A, i, none⟩ = some (.string x.1) := by
  refine (keys_any w b ents.length (.map (ents.map entL)) Rv hm (by simpa [Maps.size] using hl)).mono ?_
  rintro e w' ⟨A, ss, hp, rfl, h1, h2, h3, h4⟩
  rw [strKeys_ents] at hp
  have hs := sorted_rise hp hr.pair
  have hlen : ss.length = ents.length := by rw [hp.length_eq]; simp
  refine ⟨A, by rw [hlen], h1, h2, h3, fun i x hx => ?_⟩
  rw [hs] at h4
  have := h4 i x.1.data.toList (by simp [hx])
  rw [this]

theorem cell_lt {w : World} {p : Addr} {v : Value} (h : w.cell? p = some v) : p.block < w.heap.size := by
  rcases Nat.lt_or_ge p.block w.heap.size with hlt | hge
  · exact hlt
  · simp [World.cell?, Array.getElem?_eq_none hge] at h

/-- Neither list nor map. -/
def NoEach (x : Value) : Prop := (∀ W : World, (Instr.typeAssert x 20 59 true).run Tryd.prog W = .ok (.tuple #[.slice none 0 0, .bool false]) W) ∧
  (∀ W : World, (Instr.typeAssert x 20 55 true).run Tryd.prog W = .ok (.tuple #[.map none, .bool false]) W)

theorem GAt.noEach {w : World} {lo n : Nat} {x : Value} {v : JV} (h : GAt w lo n x v) (hk : ¬ v.kind = 5) (hk' : ¬ v.kind = 6) : NoEach x := by
  cases n with
  | zero => exact absurd h (fun h => h)
  | succ n =>
    rcases h with h | h | h | h | h | h | h | h
    · rw [h.2]; exact ⟨fun W => as_nil_list W, fun W => as_nil_map W⟩
    · rw [h.2]; exact ⟨fun W => as_bool_list _ W, fun W => as_bool_map _ W⟩
    · rw [h.2]; exact ⟨fun W => as_bool_list _ W, fun W => as_bool_map _ W⟩
    · rw [h.2.2]; exact ⟨fun W => as_int_list _ W, fun W => as_int_map _ W⟩
    · rw [h.2.2]; exact ⟨fun W => as_float_list _ W, fun W => as_float_map _ W⟩
    · rw [h.2]; exact ⟨fun W => as_str_list _ W, fun W => as_str_map _ W⟩
    · exact absurd h.1 hk
    · exact absurd h.1 hk'

set_option maxHeartbeats 1000000 in
theorem values_no (w : World) (x : Value) (hx : NoEach x) (hf : x = .nilIface ∨ ∃ t u, x = .iface t u) : Calls Tryd.prog 70 #[x] w fun e w' => e = .returned (.tuple #[.slice none 0 0, .bool false]) ∧ w = w' := by
  obtain ⟨h1, h2⟩ := hx
  rcases hf with rfl | ⟨t, u, rfl⟩
  all_goals
    go_enter Tryd.func70, Tryd.ntmps70
    go_wp2
    go_ret2
    exact ⟨rfl, rfl⟩

set_option maxHeartbeats 1000000 in
theorem values_list (w : World) (u : Value) (hu : ∃ A n c, u = .slice A n c) : Calls Tryd.prog 70 #[.iface 59 u] w fun e w' => e = .returned (.tuple #[u, .bool true]) ∧ w = w' := by
  obtain ⟨A, n, c, rfl⟩ := hu
  go_enter Tryd.func70, Tryd.ntmps70
  go_wp2
  go_ret2
  exact ⟨rfl, rfl⟩

structure VFr (w : World) (A : Nat) (b : Nat) (ents : List Ent) (wr : World) (S j : Nat) (cs : Array Value) : Prop where
  map : MapIs wr b ents
  blk : Blk wr S 20 cs
  size : cs.size = ents.length
  keys : ∀ (i : Nat) (x : Ent), ents[i]? = some x → wr.cell? ⟨A, i, none⟩ = some (.string x.1)
  cells : ∀ (i : Nat) (x : Ent), i < j → ents[i]? = some x → cs[i]? = some x.2
  below : Below w.heap.size w wr

theorem VFr.next {w wr : World} {A b S j : Nat} {ents : List Ent} {cs : Array Value} (h : VFr w A b ents wr S j cs) (hA : A ≠ S) (hb : b ≠ S) (hS : w.heap.size ≤ S) {x : Ent} (hx : ents[j]? = some x) :
    VFr w A b ents (wr.setCell ⟨S, j, none⟩ x.2) S (j + 1) (cs.setIfInBounds j x.2) := by
  have o : Only (· = S) wr (wr.setCell ⟨S, j, none⟩ x.2) := (Only.refl (· = S) wr).setCell (p := ⟨S, j, none⟩) (Or.inl rfl) _
  have hj := (List.getElem?_eq_some_iff.1 hx).1
  refine ⟨h.map.only o hb, h.blk.set_ _ _, by simpa using h.size, fun i y hy => ?_, fun i y hi hy => ?_, h.below.trans (o.below (by intro k hk; omega) h.below.size)⟩
  · exact (World.cell?_setCell_other _ _ _ _ (by intro e; injection e with e1; exact hA e1.symm)).trans (h.keys i y hy)
  · rcases Nat.lt_or_ge i j with hlt | hge
    · rw [Array.getElem?_setIfInBounds_ne (by omega)]
      exact h.cells i y hlt hy
    · obtain rfl : i = j := by omega
      rw [hx] at hy
      cases hy
      rw [Array.getElem?_setIfInBounds_self_of_lt (by rw [h.size]; exact hj)]

set_option maxHeartbeats 2000000 in
set_option maxRecDepth 100000 in
theorem values_map (w : World) (b : Nat) (ents : List Ent) (hm : MapIs w b ents) (hr : Rise (ents.map (·.1))) (hl : ents.length ≤ 100000) (hks : ∀ x ∈ ents, x.1.size ≤ 9223372036854775807) (hform : ∀ x ∈ ents, x.2 = .nilIface ∨ ∃ t u, x.2 = .iface t u) :
    Calls Tryd.prog 70 #[.iface 55 (.map (some b))] w fun e w' => ∃ S : Nat, e = .returned (.tuple #[.slice (some ⟨S, 0, none⟩) ents.length ents.length, .bool true]) ∧ w.heap.size ≤ S ∧ S < w'.heap.size ∧ Below w.heap.size w w' ∧
      ∀ (i : Nat) (x : Ent), ents[i]? = some x → w'.cell? ⟨S, i, none⟩ = some x.2 := by
  have hbl := World.ownsMap.lt hm
  obtain ⟨i0, hi0, hz0, hz1, hz2⟩ := info_parts Tryd.infoAny
  have hmk := fun W => run_make_rowN (P := Tryd.prog) 59 20 i0 _ Tryd.underlying59 hi0 hz0 .i64 .i64 ents.length ents.length (Nat.le_refl _) (by rw [hz2]; omega) (by omega) W
  rw [hz1] at hmk
  obtain ⟨cs0, hcs0⟩ : ∃ cs0, madeCells (Value.cells .nilIface) (ents.length * 1) = cs0 := ⟨_, rfl⟩
  have hsz0 : cs0.size = ents.length := by rw [← hcs0, size_madeCells]; omega
  rw [hcs0] at hmk
  clear hcs0 hi0 hz0 hz1 hz2
  obtain ⟨W, hW⟩ : ∃ W, W = w.alloc (.cells cs0 20) := ⟨_, rfl⟩
  have sW : W.heap.size = w.heap.size + 1 := by rw [hW]; simp
  have oW : Only (fun _ => False) w W := by rw [hW]; exact (Only.refl _ w).alloc _
  have mW : MapIs W b ents := hm.only oW (fun h => h)
  have kW : Blk W w.heap.size 20 cs0 := by rw [hW]; exact Blk.new w _ _
  have bW : Below w.heap.size w W := by rw [hW]; exact Below.alloc (Below.refl _ _) (Nat.le_refl _) _
  have hlen : ∀ ty, (Builtin.len_ #[55] ty #[.map (some b)]).run Tryd.prog w = .ok (.int .i64 ents.length) w := fun ty => by
    have := World.ownsMap.len hm Tryd.underlying55 ty
    simpa [Maps.size] using this
  have hK := hide (keys_map W b ents mW hr hl)
  have start : ∀ A w0, W.heap.size ≤ A → Below W.heap.size W w0 → (∀ (i : Nat) (x : Ent), ents[i]? = some x → w0.cell? ⟨A, i, none⟩ = some (.string x.1)) → VFr w A b ents w0 w.heap.size 0 cs0 := fun A w0 h1 h2 h3 =>
    ⟨mW.only (P := fun _ => False) (Only.of_below h2 (fun k hk _ => hk)) (fun h => h), kW.below h2 kW.lt, hsz0, h3, fun i x hi => absurd hi (by omega), bW.trans (h2.mono (by omega))⟩
  have hlook := hide fun (wr : World) (S j : Nat) (A : Nat) cs (h : VFr w A b ents wr S j cs) (x : Ent) (hx : ents[j]? = some x) => lookup_ent h.map hr hx (hks x (List.mem_of_getElem? hx))
  replace start := hide start
  replace hks := hide hks
  replace hform := hide hform
  replace hr := hide hr
  clear kW bW mW oW hm
  replace sW := hide sW
  go_enter Tryd.func70, Tryd.ntmps70
  go_wp2_with fail
  rw [← hW]
  refine hK.out.mono ?_
  rintro e w0 ⟨A, rfl, h1, h2, h3, h4⟩
  have h0 := hide (start.out A w0 h1 h3 h4)
  have hAS : A ≠ w.heap.size := by have := sW.out; omega
  clear h3 h4 hW
  go_wp2_with fail
  go_loopw [24] (fun s24 wr => ∃ (j : Nat) (cs : Array Value), s24 = .int .i64 j ∧ j ≤ ents.length ∧ VFr w A b ents wr w.heap.size j cs) (fun i _ => ents.length - (intOf i).toNat)
  case atStart => exact ⟨0, _, rfl, Nat.zero_le _, h0.out⟩
  case round =>
    obtain ⟨j, cs, rfl, hj, hV⟩ := hrel
    by_cases hjl : j < ents.length
    · obtain ⟨x, hx⟩ : ∃ x, ents[j]? = some x := ⟨_, List.getElem?_eq_getElem hjl⟩
      have hmem := List.mem_of_getElem? hx
      have hnext := hide (hV.next hAS (by omega) (Nat.le_refl _) hx)
      have hlk := hlook.out wr w.heap.size j A cs hV x hx
      have hkc := hV.keys j x hx
      have hfz := hV.blk.frozen j
      have hcl : wr.cell? ⟨w.heap.size, j, none⟩ = some (cs[j]'(by rw [hV.size]; exact hjl)) := (hV.blk.cell _).trans (Array.getElem?_eq_getElem _)
      have hAl : A < wr.heap.size := cell_lt hkc
      obtain ⟨xk, xv⟩ := x
      have hxf := hform.out _ hmem
      replace hV := hide hV
      simp only at hlk hkc hxf
      rcases hxf with rfl | ⟨t, u, rfl⟩
      all_goals
        go_wp2
        go_roundw
        case rel => exact ⟨j + 1, _, by go_num, by omega, hnext.out⟩
        case measure => simp [intOf]; omega
    · obtain rfl : j = ents.length := by omega
      replace hV := hide hV
      go_wp2
      go_ret2
      refine ⟨w.heap.size, by simp, Nat.le_refl _, hV.out.blk.lt, hV.out.below, fun i x hx => ?_⟩
      rw [hV.out.blk.cell]
      exact hV.out.cells i x (List.getElem?_eq_some_iff.1 hx).1 hx

set_option maxHeartbeats 1000000 in
theorem zzValues (x : Value) (w : World) (Q : Value → Value → World → Prop) (hc : Calls Tryd.prog 70 #[x] w fun e w' => ∃ y b, e = .returned (.tuple #[y, .bool b]) ∧ (∃ A n c, y = .slice A n c) ∧ Q y (.bool b) w') (hf : x = .nilIface ∨ ∃ t u, x = .iface t u) :
    Calls Tryd.prog 47 #[x] w fun e w' => ∃ y b, e = .returned (.tuple #[y, .bool b]) ∧ (∃ A n c, y = .slice A n c) ∧ Q y (.bool b) w' := by
  replace hc := hide hc
  rcases hf with rfl | ⟨t, u, rfl⟩
  all_goals
    go_enter Tryd.func47, Tryd.ntmps47
    go_wp2_with (go_at_call 70; refine hc.out.mono ?_; rintro e w' ⟨y, b, rfl, ⟨A, n, c, rfl⟩, hq⟩)
    go_ret2
    exact ⟨_, b, rfl, ⟨A, n, c, rfl⟩, hq⟩
end Go.Proofs.YtmkdkcbkgngfdaaDoor
