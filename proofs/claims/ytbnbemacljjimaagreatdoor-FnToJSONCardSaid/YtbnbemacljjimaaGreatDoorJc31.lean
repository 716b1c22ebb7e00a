/- The encoder at maps: the entries are collected, sorted by their keys, and written one behind another. -/
import Derived.Test.YtbnbemacljjimaaGreatDoorJc30
import Derived.Sort.OwnSorted
import Derived.Sort.KeysCollected
import Derived.Maps.RangeWalk
import Derived.Test.YtbnbemacljjimaaGreatDoorJc13
import Derived.Test.YtbnbemacljjimaaGreatDoorJc04
namespace Go.Proofs.YtbnbemacljjimaaGreatDoor
open Go.RowKit Go.Maps Go.Sort Go.Shelf
set_option linter.unusedVariables false

theorem Tryz.infoKv : (Tryz.prog.info? 180).map (fun i => (i.zero, i.size, i.bytes)) = some (some (.agg #[.string ⟨#[]⟩, .nilIface]), 2, 32) := by kernel_rfl
theorem kv_size : (Tryz.prog.info? 180).map (·.size) = some 2 := by kernel_rfl

theorem ents_keys (ents : List Ent) : strKeys (.map (ents.map entL)) = (ents.map (·.1)).map (fun k => k.data.toList) := by
  simp [strKeys, entL, strOf, Function.comp_def]
theorem kv_str {v : Value} {kl : Lit} (h : keyOf Tryz.prog 9 v = some kl) : ∃ k : ByteArray, v = .string k ∧ kl = .string k.data.toList ∧ k.size ≤ 9223372036854775807 := by
  obtain ⟨x, hx, hl, hs⟩ := Maps.keyOf_str Tryz.underlying9 h
  refine ⟨⟨x.toArray⟩, hx, by simpa using hl, ?_⟩
  unfold maxLen at hs
  simpa [ByteArray.size] using hs
theorem at_mem {ents : List Ent} {k : ByteArray} {c : Value} (h : ∀ zd : DataW Value, (DataW.map (ents.map entL)).atKey (.string k.data.toList) zd = .held c) : ((k, c) : Ent) ∈ ents := by
  have h1 := h .nil
  have hat : (DataW.map (ents.map entL)).atKey (.string k.data.toList) .nil = match (ents.map entL).find? (fun p => p.1.sameKey (.string k.data.toList)) with | some p => p.2 | none => .nil := by
    cases hf : (ents.map entL).find? (fun p => p.1.sameKey (.string k.data.toList)) with
    | none => simp [DataW.atKey, hf]
    | some p => simp [DataW.atKey, hf]
  rw [hat] at h1
  cases hf : (ents.map entL).find? (fun p => p.1.sameKey (.string k.data.toList)) with
  | none => rw [hf] at h1; cases h1
  | some p =>
    rw [hf] at h1
    have hm := List.mem_of_find?_eq_some hf
    have hs := List.find?_some hf
    obtain ⟨⟨k', c'⟩, he, rfl⟩ := List.mem_map.1 hm
    have h1' : DataW.held c' = .held c := h1
    cases h1'
    have hk : k'.data.toList = k.data.toList := by simpa [entL, Lit.sameKey] using hs
    have : k' = k := ByteArray.ext (Array.toList_inj.1 hk)
    subst this
    exact he

/-- The map's entries while they are collected. -/
structure KvF (ents : List Ent) (W : World) (g G : Nat) (wr : World) (left : Lit → Bool) (cnt : Nat) (ds : List Ent) (cs : Array Value) : Prop where
  rng : wr.ranges Tryz.prog 9 Rv g (G + 2) ents.length (.map (ents.map entL)) left cnt
  col : Collected (.map (ents.map entL)) left (ds.map (fun x => x.1.data.toList))
  mem : ∀ x ∈ ds, x ∈ ents
  blk : Blk wr G 180 cs
  size : cs.size = ents.length * 2
  cells : ∀ (i : Nat) x, ds[i]? = some x → cs[i * 2]? = some (.string x.1) ∧ cs[i * 2 + 1]? = some x.2
  onl : Only (fun k => k = G ∨ G + 2 ≤ k) W wr

theorem nodup_le' {α : Type} [DecidableEq α] : ∀ (l l' : List α), l.Nodup → (∀ x ∈ l, x ∈ l') → l.length ≤ l'.length
  | [], _, _, _ => Nat.zero_le _
  | a :: l, l', hn, hs => by
    have ha : a ∈ l' := hs a List.mem_cons_self
    have hn' := List.nodup_cons.1 hn
    have h := nodup_le' l (l'.erase a) hn'.2 (fun x hx => (List.mem_erase_of_ne (by intro e; subst e; exact hn'.1 hx)).2 (hs x (List.mem_cons_of_mem _ hx)))
    rw [List.length_erase_of_mem ha] at h
    have := List.length_pos_of_mem ha
    simp only [List.length_cons]
    omega

open Classical in
theorem nodup_perm {α : Type} : ∀ (l l' : List α), l.Nodup → (∀ x ∈ l, x ∈ l') → l'.length ≤ l.length → l.Perm l'
  | [], l', _, _, hl => by
    have : l' = [] := List.eq_nil_of_length_eq_zero (by simpa using hl)
    rw [this]
  | a :: l, l', hn, hs, hl => by
    have ha : a ∈ l' := hs a List.mem_cons_self
    have hn' := List.nodup_cons.1 hn
    have he := List.length_erase_of_mem ha
    have hp := nodup_perm l (l'.erase a) hn'.2 (fun x hx => (List.mem_erase_of_ne (by intro e; subst e; exact hn'.1 hx)).2 (hs x (List.mem_cons_of_mem _ hx))) (by simp only [List.length_cons] at hl; omega)
    exact (hp.cons a).trans (List.perm_cons_erase ha).symm
theorem nodup_map {α β : Type} {f : α → β} : ∀ {l : List α}, (l.map f).Nodup → l.Nodup
  | [], _ => List.nodup_nil
  | a :: l, h => by
    rw [List.map_cons, List.nodup_cons] at h
    exact List.nodup_cons.2 ⟨fun hm => h.1 (List.mem_map.2 ⟨a, hm, rfl⟩), nodup_map h.2⟩

section
variable {ents : List Ent} {W wr w2 : World} {g G cnt cnt2 : Nat} {left : Lit → Bool} {ds : List Ent} {cs : Array Value}

theorem KvF.room (h : KvF ents W g G wr left cnt ds cs) {k : ByteArray} {c : Value} (hlk : left (.string k.data.toList) = true) (hat : ∀ zd : DataW Value, (DataW.map (ents.map entL)).atKey (.string k.data.toList) zd = .held c) : ds.length < ents.length := by
  have hC := h.col.step hlk hat
  have hl := nodup_le' (ds.map (fun x => x.1.data.toList) ++ [k.data.toList]) (ents.map (fun x => x.1.data.toList)) hC.1 (fun z hz => by
    rcases List.mem_append.1 hz with hz | hz
    · obtain ⟨x, hx, rfl⟩ := List.mem_map.1 hz
      exact List.mem_map.2 ⟨x, h.mem x hx, rfl⟩
    · simp at hz
      subst hz
      exact List.mem_map.2 ⟨(k, c), at_mem hat, rfl⟩)
  simp at hl
  omega

theorem there_blk {w : World} {g : Nat} {t : TypeId} {cs : Array Value} (h : Blk w g t cs) (o n : Nat) (hn : o + n ≤ cs.size) : w.there g o n := fun j hj => by
  rw [h.cell, h.frozen]
  exact ⟨by rw [Array.getElem?_eq_getElem (by omega)]; rfl, rfl⟩

theorem KvF.next (h : KvF ents W g G wr left cnt ds cs) (hgG : g ≠ G) (hW : W.heap.size = G + 2) {k : ByteArray} {c : Value} (hlk : left (.string k.data.toList) = true) (hat : ∀ zd : DataW Value, (DataW.map (ents.map entL)).atKey (.string k.data.toList) zd = .held c)
    (hr : w2.ranges Tryz.prog 9 Rv g (G + 2) ents.length (.map (ents.map entL)) (fun z => left z && !z.sameKey (.string k.data.toList)) cnt2) (hg : wr.grownBy w2 (some (G + 2))) :
    w2.there G (ds.length * 2) 2 ∧ ∃ cs', KvF ents W g G (w2.setCells G (ds.length * 2) [.string k, c]) (fun z => left z && !z.sameKey (.string k.data.toList)) cnt2 (ds ++ [(k, c)]) cs' := by
  have hroom := h.room hlk hat
  have k2 : Blk w2 G 180 cs := (hg.block _ h.blk.lt (by simp)).trans h.blk
  obtain ⟨cs', b1, b2, b3, b4⟩ := blk_setCells [.string k, c] (ds.length * 2) w2 cs k2 (by rw [h.size]; simp; omega)
  have ho : Only (· = G) w2 (w2.setCells G (ds.length * 2) [.string k, c]) := only_setCells _ _ (Only.refl _ _)
  refine ⟨there_blk k2 _ _ (by rw [h.size]; omega), cs', hr.kept (only_grown ho) (by simpa using hgG) (by simp), by rw [List.map_append]; exact h.col.step hlk hat, fun x hx => ?_, b1, b2.trans h.size, fun i x hx => ?_, ?_⟩
  · rcases List.mem_append.1 hx with hx | hx
    · exact h.mem x hx
    · simp at hx
      subst hx
      exact at_mem hat
  · rcases Nat.lt_or_ge i ds.length with hi | hi
    · rw [List.getElem?_append_left hi] at hx
      rw [b4 _ (by omega), b4 _ (by omega)]
      exact h.cells i x hx
    · have hii : i = ds.length := by
        have := (List.getElem?_eq_some_iff.1 hx).1
        simp at this
        omega
      subst hii
      rw [List.getElem?_append_right (Nat.le_refl _)] at hx
      simp at hx
      subst hx
      exact ⟨b3 0 (.string k) rfl, b3 1 c rfl⟩
  · exact (h.onl.grown hg (fun k hk => Or.inl (by injection hk with hk; omega))).trans (ho.mono (fun k hk => Or.inl hk))

theorem KvF.full (h : KvF ents W g G wr left cnt ds cs) (hr : Rise (ents.map (·.1))) (hone : ∀ e ∈ ents, e.2.oneCell' = true) (hl : ∀ kl, left kl = false) : ds.Perm ents ∧ ds.length = ents.length ∧ HoldsK encE 2 wr G 0 ds.toArray := by
  have hp := h.col.perm h.rng.owns (string_keyed Tryz.underlying9) Tryz.underlying9 hl
  rw [ents_keys, List.map_map] at hp
  have hlen : ds.length = ents.length := by have := hp.length_eq; simpa using this
  have hnd : (ds.map (fun x => x.1.data.toList)).Nodup := h.col.1
  have hperm : ds.Perm ents := nodup_perm ds ents (nodup_map hnd) h.mem (by omega)
  refine ⟨hperm, hlen, fun j hj => ?_⟩
  rw [size_flatK] at hj
  have hj' : j < ds.length * 2 := by simpa using hj
  rw [get_flatK encE 2 ds.toArray j (by simpa using hj)]
  have hi : j / 2 < ds.length := by omega
  have hx : ds[j / 2]? = some ds[j / 2] := List.getElem?_eq_getElem hi
  have he : ds.toArray[j / 2]! = ds[j / 2] := by rw [getElem!_pos _ _ (by simpa using hi)]; simp
  rw [he, Nat.zero_add, h.blk.cell, h.blk.frozen]
  obtain ⟨c0, c1⟩ := h.cells _ _ hx
  rcases (by omega : j % 2 = 0 ∨ j % 2 = 1) with hm | hm
  · refine ⟨?_, rfl⟩
    rw [hm]
    have e : cs[j]? = cs[j / 2 * 2]? := by rw [show j / 2 * 2 = j by omega]
    rw [e, c0]
    rfl
  · refine ⟨?_, rfl⟩
    rw [hm]
    have e : cs[j]? = cs[j / 2 * 2 + 1]? := by rw [show j / 2 * 2 + 1 = j by omega]
    rw [e, c1]
    exact congrArg some (one_of (hone _ (h.mem _ (List.getElem_mem hi)))).symm
end

theorem blk_new2 (w : World) (o : Obj) (t : TypeId) (cs : Array Value) : Blk ((w.alloc o).alloc (.cells cs t)) (w.heap.size + 1) t cs := by
  have h := Blk.new (w.alloc o) t cs
  rwa [show (w.alloc o).heap.size = w.heap.size + 1 by simp] at h
theorem only_new' {W1 W3 : World} {o : Obj} (h : Only (· = W1.heap.size) (W1.alloc o) W3) : Only (fun _ => False) W1 W3 :=
  ⟨h.os, h.tape, h.output, by have := h.size; simp at this; omega, fun k hk _ => (h.block k (by simp; omega) (by intro e; have e' : k = W1.heap.size := e; omega)).trans (Below.heap_alloc W1 o k hk)⟩
theorem Oth.fresh {e b : Nat} {W w1 w2 : World} (h : Oth e b W w1) {P : Nat → Prop} (ho : Only P w1 w2) (hP : ∀ k, P k → W.heap.size ≤ k) : Oth e b W w2 := fun i o hi h1 h2 h3 => by
  have hlt := (Array.getElem?_eq_some_iff.1 hi).1
  have hi1 := h i o hi h1 h2 h3
  exact (ho.block i (Array.getElem?_eq_some_iff.1 hi1).1 (fun hp => by have := hP i hp; omega)).trans hi1
theorem itemT_size (k t : ByteArray) : (itemT k t).size = (qT k).size + 1 + t.size := by
  unfold itemT
  rw [ByteArray.size_append, ByteArray.size_append]
  rfl
theorem qT_low (s : ByteArray) : s.size ≤ (qT s).size := by
  have hl : ∀ l : List UInt8, l.length ≤ (qL l).length := by
    intro l
    induction l with
    | nil => exact Nat.le_refl _
    | cons c l ih =>
      have h1 : 1 ≤ (qC c).length := by
        unfold qC
        repeat' split
        all_goals simp
      unfold qL at *
      rw [List.flatMap_cons, List.length_append, List.length_cons]
      omega
  have := hl s.data.toList
  unfold qT
  show s.size ≤ (34 :: qL s.data.toList ++ [34]).toArray.size
  rw [List.size_toArray]
  simp
  have e : s.data.toList.length = s.size := by rw [Array.length_toList]; rfl
  omega

set_option maxHeartbeats 8000000 in
set_option maxRecDepth 100000 in
theorem encObj_any (w : World) (g : Nat) (ents : List Ent) (hm : MapIs w g ents) (hr : Rise (ents.map (·.1))) (ms : List ByteArray) (hms : ms.length = ents.length)
    (hz : ∀ (i : Nat) x, ents[i]? = some x → ∃ t, ms[i]? = some (itemT x.1 t) ∧ EncS w x.2 t) (hk : ∀ x ∈ ents, Lib.validD x.1.data.toList = true ∧ NoDel x.1) (hform : ∀ x ∈ ents, x.2 = .nilIface ∨ ∃ t u, x.2 = .iface t u)
    (hT : Tabs w w.heap.size) (hN : ents.length ≤ 100000) (W : World) (e b : Nat) (bs : List Value)
    (h1 : Below w.heap.size w W) (hb : Bl w.heap.size b bs W) (he : En e b W) (hne : e ≠ b) (hBe : w.heap.size ≤ e) (hlen : bs.length + 6 * (joinT ms).size + 140 ≤ 140737488355328) :
    Calls Tryz.prog 108 #[.pointer (some ⟨e, 0, none⟩), .map (some g)] W fun r w' => r = .returned (.tuple #[]) ∧ Ev w.heap.size e b (bs ++ Lib.strCells (⟨#[123]⟩ ++ joinT ms ++ ⟨#[125]⟩)) W w' := by
  have hone : ∀ x ∈ ents, x.2.oneCell' = true := fun x hx => by
    rcases hform x hx with h | ⟨t, u, h⟩ <;> (rw [h]; rfl)
  have hBW := h1.size
  have hgw : g < w.heap.size := World.ownsMap.lt hm
  have hbW : b < W.heap.size := by
    rcases hb with ⟨_, v, h2, -⟩ | ⟨_, v, h2, -⟩
    · exact Blk.lt h2
    · exact Blk.lt h2
  have heW := he.lt
  have c0 := he.cell
  have hW := hide (ew_byte ⟨#[]⟩ 123 123 rfl (Ev.start hb he) hne (by show _ + 0 + 1 ≤ _; omega) hBW)
  obtain ⟨N, hN'⟩ : ∃ N, ents.length = N := ⟨_, rfl⟩
  obtain ⟨S, hS⟩ : ∃ S, (joinT ms).size = S := ⟨_, rfl⟩
  rw [hS] at hlen
  rw [hN'] at hN
  obtain ⟨i0, hi0, hz0, hz1, hz2⟩ := info_parts Tryz.infoKv
  have hmk := fun W => run_make_rowN (P := Tryz.prog) 178 180 i0 _ Tryz.underlying178 hi0 hz0 .i64 .i64 N N (Nat.le_refl _) (by rw [hz2]; omega) (by omega) W
  rw [hz1] at hmk
  obtain ⟨cs0, hcs0⟩ : ∃ cs0, madeCells (Value.cells (.agg #[.string ⟨#[]⟩, .nilIface])) (N * 2) = cs0 := ⟨_, rfl⟩
  have hsz0 : cs0.size = N * 2 := by rw [← hcs0, size_madeCells]
  rw [hcs0] at hmk
  clear hcs0 hi0 hz0 hz1 hz2
  replace hS := hide hS
  replace hz := hide hz
  replace hk := hide hk
  replace hone := hide hone
  replace hform := hide hform
  replace hms := hide hms
  replace hr := hide hr
  replace hsz0 := hide hsz0
  clear hb he
  go_enter Tryz.func108, Tryz.ntmps108
  go_upto_region 1 with (go_at_call 235; refine hW.out.mono ?_; rintro r w1 ⟨rfl, k1⟩)
  have hm1 : MapIs w1 g ents := hm.only (Only.of_below (P := (w.heap.size ≤ ·)) (h1.trans k1.bel) (fun k _ hn => by omega)) (by omega)
  have hlen1 : ∀ ty, (Builtin.len_ #[86] ty #[.map (some g)]).run Tryz.prog w1 = .ok (.int .i64 (N : Int)) w1 := fun ty => by
    have := World.ownsMap.len hm1 Tryz.underlying86 ty
    rw [this]
    simp [Maps.size, hN']
  have hG1 := k1.bel.size
  obtain ⟨W3, hW3⟩ : ∃ W3, W3 = (w1.alloc (.cells cs0 180)).alloc (.cells #[.slice (some ⟨w1.heap.size, 0, none⟩) N N] 178) := ⟨_, rfl⟩
  have sW : W3.heap.size = w1.heap.size + 2 := by rw [hW3]; simp
  have o3 : Only (fun _ => False) w1 W3 := by
    rw [hW3]
    exact ((Only.refl _ w1).alloc _).alloc _
  have kW : Blk W3 w1.heap.size 180 cs0 := by
    rw [hW3]
    exact (Blk.new w1 _ _).alloc _
  have vW : Blk W3 (w1.heap.size + 1) 178 #[.slice (some ⟨w1.heap.size, 0, none⟩) N N] := by
    rw [hW3]
    exact blk_new2 w1 _ _ _
  have E3 : Ev w.heap.size e b (bs ++ Lib.strCells ⟨#[123]⟩) W W3 := ⟨bl_only (P := fun _ => False) k1.bl o3 (fun h => h) (fun _ _ _ _ h => h), k1.en.only o3 (fun h => h), k1.bel.trans (o3.below (B := w.heap.size) (by intro k hk; exact hk.elim) (by omega)), k1.oth.fresh o3 (fun _ h => h.elim)⟩
  have oW : W3.ownsMap Tryz.prog 9 Rv g ents.length (.map (ents.map entL)) := hm1.only o3 (fun h => h)
  obtain ⟨G, hG⟩ : ∃ G, w1.heap.size = G := ⟨_, rfl⟩
  have hgG : g ≠ G := by omega
  have hbG : b < G := by omega
  have heG : e < G := by omega
  have hWG : W.heap.size ≤ G := by omega
  rw [hG] at sW kW vW
  have start : ∀ w0, w0.ranges Tryz.prog 9 Rv g W3.heap.size ents.length (.map (ents.map entL)) (Maps.has (.map (ents.map entL))) (Maps.size (.map (ents.map entL))) → W3.grownBy w0 none → KvF ents W3 g G w0 (Maps.has (.map (ents.map entL))) (Maps.size (.map (ents.map entL))) [] cs0 := fun w0 h1 h2 =>
    ⟨by rw [← sW]; exact h1, Collected.start _, fun x hx => by simp at hx, (h2.block _ kW.lt (by simp)).trans kW, by rw [hsz0.out, hN'], fun i x hx => by simp at hx, (Only.refl _ W3).grown h2 (fun k hk => by cases hk)⟩
  replace start := hide start
  replace oW := hide oW
  replace E3 := hide E3
  replace kW := hide kW
  replace vW := hide vW
  replace sW := hide sW
  replace hG := hide hG
  replace hN' := hide hN'
  replace hms := hide hms
  replace h1 := hide h1
  clear hm1 o3 k1 c0 hW hm
  go_wp2_with (at_range; rw [← hW3]; refine wpList_range_own _ rfl _ 86 rfl 9 20 (string_keyed Tryz.underlying9) Tryz.underlying86 _ g ents.length _ rfl oW.out ?_; intro w0 hrg0 hg0 hs0)
  have h0 := hide (start.out w0 hrg0 hg0)
  clear hrg0 hg0 hW3 hmk hlen1
  rw [sW.out, hG.out]
  go_frame
  go_loopw [5] (fun s5 wr => ∃ (left : Lit → Bool) (cnt : Nat) (ds : List Ent) (cs : Array Value), s5 = .int .i64 (ds.length : Int) ∧ KvF ents W3 g G wr left cnt ds cs) (fun _ wr => wr.rangeLeft g (G + 2))
  case atStart => exact ⟨_, _, [], _, rfl, h0.out⟩
  case round =>
    obtain ⟨left, cnt, ds, cs, rfl, hK⟩ := hrel
    go_wp2_with (at_next; refine wpList_next_ranges _ rfl _ rfl 9 (string_keyed Tryz.underlying9) Rv Value.string id (fun key kl hk => by obtain ⟨x, hx, _⟩ := kv_str hk; exact ⟨x, hx⟩) (fun v _ _ => ⟨v, rfl⟩) g (G + 2) ents.length _ _ _ rfl hK.rng ?_ ?_)
    · intro hc0 hl0
      obtain ⟨hp, hlen2, hH⟩ := hK.full hr.out hone.out hl0
      rw [hN'.out] at hlen2
      have hvr : Blk wr (G + 1) 178 #[.slice (some ⟨G, 0, none⟩) N N] := hK.onl.blk vW.out (by omega)
      have hv0 := hvr.cell 0
      simp at hv0
      have hcl := kv_sort wr G N (G + 1) ents ds.toArray (by simpa using hp) hr.out (by rw [hN'.out]; omega) hone.out hH hK.blk.lt (by rw [show ds.toArray.size = N by simpa using hlen2]; exact hv0) hvr.lt (by omega) hK.blk
      rw [show ds.toArray.size = N by simpa using hlen2] at hcl
      have ho := hK.onl
      have hlwr := hK.blk.lt
      replace hcl := hide hcl
      replace hvr := hide hvr
      replace hK := hide hK
      replace ho := hide ho
      clear hH hp hlen2 h0
      go_upto_region 9 with (go_at_call 126; refine hcl.out.mono ?_; rintro r w4 ⟨rfl, o4, ⟨cs4, k4⟩, hc4⟩; replace o4 := hide o4; replace hc4 := hide hc4; replace k4 := hide k4)
      have o34 : Only (fun k => k = G ∨ G + 2 ≤ k) W3 w4 := ho.out.trans (o4.out.mono (fun k hk => Or.inl hk))
      have hv4 := (o4.out.blk hvr.out (by omega)).cell 0
      simp at hv4
      have b4 : Bl w.heap.size b (bs ++ Lib.strCells ⟨#[123]⟩) w4 := bl_only E3.out.bl o34 (by omega) (fun k cc fz hc hk => by
        have hlt := (Array.getElem?_eq_some_iff.1 hc).1
        rw [sW.out] at hlt
        rcases hk with hk | hk
        · subst hk
          have := kW.out
          unfold Blk at this
          rw [this] at hc
          injection hc with hc
          injection hc with _ hc
          exact absurd hc (by decide)
        · omega)
      have e4 : En e b w4 := E3.out.en.only o34 (by omega)
      have bel4 : Below w.heap.size W w4 := E3.out.bel.trans (o34.below (B := w.heap.size) (by intro k hk; omega) (by have := sW.out; omega))
      have oth4 : Oth e b W w4 := E3.out.oth.fresh o34 (by intro k hk; omega)
      have E4 : Ev w.heap.size e b (bs ++ Lib.strCells ⟨#[123]⟩) w4 w4 := ⟨b4, e4, Below.refl _ _, Oth.refl _ _ _⟩
      have hfinE : ∀ (cs : List Value) (w5 : World), Ev w.heap.size e b cs w4 w5 → Ev w.heap.size e b cs W w5 := fun cs w5 k => ⟨k.bl, k.en, bel4.trans k.bel, oth4.trans k.oth⟩
      have hBw4 : w.heap.size ≤ w4.heap.size := by have := bel4.size; omega
      have hw4 := h1.out.trans bel4
      have hT4 := hT
      have hcs4 : ∀ (i : Nat) x, ents[i]? = some x → cs4[i * 2]? = some (.string x.1) ∧ cs4[i * 2 + 1]? = some x.2 := fun i x hx => by
        obtain ⟨q0, q1⟩ := hc4.out i x hx
        rw [k4.out.cell] at q0 q1
        exact ⟨q0, q1⟩
      replace hcs4 := hide hcs4
      replace E4 := hide E4
      replace hfinE := hide hfinE
      replace hw4 := hide hw4
      clear b4 e4 bel4 oth4 o34 hv0
      go_wp2_with fail
      go_loopw [39] (fun s39 w5 => ∃ j : Nat, s39 = .int .i64 (j : Int) ∧ j ≤ N ∧ Ev w.heap.size e b (bs ++ Lib.strCells (⟨#[123]⟩ ++ joinT (ms.take j))) w4 w5) (fun i _ => N - (Lib.intOf i).toNat)
      case atStart => exact ⟨0, rfl, Nat.zero_le _, E4.out⟩
      case round =>
        clear hv4
        obtain ⟨j, rfl, hj, hE⟩ := hrel
        have c0 := hE.en.cell
        have hB5 : w.heap.size ≤ wr.heap.size := Nat.le_trans hBw4 hE.size
        have e123 : ∀ t : ByteArray, (⟨#[123]⟩ ++ t : ByteArray).size = 1 + t.size := fun t => by rw [ByteArray.size_append]; rfl
        by_cases hjN : j < N
        · obtain ⟨x, hx⟩ : ∃ x, ents[j]? = some x := ⟨_, List.getElem?_eq_getElem (by rw [hN'.out]; omega)⟩
          obtain ⟨t, ht, hzt⟩ := hz.out j x hx
          have hkx := hk.out x (List.mem_of_getElem? hx)
          have hfx := hform.out x (List.mem_of_getElem? hx)
          obtain ⟨key, val⟩ := x
          simp only at ht hzt hkx hfx
          obtain ⟨q0, q1⟩ := hcs4.out j _ hx
          simp only at q0 q1
          have k5 := hE.oth.blk k4.out (by omega) (by omega) (by decide)
          have hnx := joinT_next ht
          have hpt := joinT_part ht
          rw [hS.out, itemT_size] at hpt
          have hql := qT_low key
          have hcl : ∀ j' z, [Value.string key, val][j']? = some z → wr.cell? ((⟨G, j * 2, none⟩ : Addr).add j') = some z := fun j' z hz' => by
            rw [Addr.add_mid, k5.cell]
            rcases j' with _ | _ | j'
            · simp at hz'
              rw [← hz']
              exact q0
            · simp at hz'
              rw [← hz']
              exact q1
            · simp at hz'
          have hq0 : wr.cell? ⟨G, j * 2, none⟩ = some (.string key) := (k5.cell _).trans q0
          have hq1 : wr.cell? ⟨G, j * 2 + 1, none⟩ = some val := (k5.cell _).trans q1
          replace hcl := hide hcl
          have hGw4 := k4.out.lt
          have hvo : (#[Value.string key, val] : Array Value).all (·.oneCell') = true := by
            rcases hfx with rfl | ⟨_, _, rfl⟩ <;> simp [Value.oneCell']
          clear c0
          replace hE := hide hE
          go_upto_region 12 with (first
            | (refine wpList_load_at rfl _ _ rfl ⟨G, j * 2, none⟩ rfl [.string key, val] _ hcl.out Tryz.underlying180 rfl kv_size ?_)
            | (refine wpList_store_blk rfl _ _ _ rfl wr.heap.size #[.string key, val] rfl rfl 180 _ (Blk.new wr _ _) kv_size rfl hvo ?_; intro w6 k6 o6 s6; replace k6 := hide k6; replace o6 := hide (only_new' o6); clear s6))
          have l6 : Below wr.heap.size wr w6 := o6.out.below (by intro k hk; exact hk.elim) (Nat.le_refl _)
          replace k6 := k6.out
          replace hE := hE.out
          have E6 := hE.below hB5 l6
          have E66 : Ev w.heap.size e b (bs ++ Lib.strCells (⟨#[123]⟩ ++ joinT (ms.take j))) w6 w6 := ⟨E6.bl, E6.en, Below.refl _ _, Oth.refl _ _ _⟩
          have hbw6 : Below w.heap.size w w6 := hw4.out.trans E6.bel
          have hB6 : w.heap.size ≤ w6.heap.size := by have := l6.size; omega
          have hkc : ∀ cs w7, Ev w.heap.size e b cs w6 w7 → Blk w7 wr.heap.size 180 #[.string key, val] := fun cs w7 k => k.oth.blk k6 (by have := hE.size; omega) (by have := hE.size; omega) (by decide)
          have hk0 : ∀ cs w7, Ev w.heap.size e b cs w6 w7 → w7.cell? ⟨wr.heap.size, 0, none⟩ = some (.string key) := fun cs w7 k => by have := (hkc cs w7 k).cell 0; simpa using this
          have hk1 : ∀ cs w7, Ev w.heap.size e b cs w6 w7 → w7.cell? ⟨wr.heap.size, 1, none⟩ = some val := fun cs w7 k => by have := (hkc cs w7 k).cell 1; simpa using this
          have hT6 : ∀ cs w7, Ev w.heap.size e b cs w6 w7 → Tabs w7 w.heap.size := fun cs w7 k => hT.keep (fun p hp => (hbw6.trans k.bel).cell hp)
          -- the pieces, behind T0
          have hsK := fun (T0 : ByteArray) w7 (k : Ev w.heap.size e b (bs ++ Lib.strCells T0) w6 w7) (hl : T0.size + (qT key).size + 1 + t.size ≤ 1 + S) => encStr_any w7 w.heap.size e b (bs ++ Lib.strCells T0) key k.bl k.en hne (by rw [List.length_append, Lib.strCells_length]; omega) (Nat.le_trans hB6 k.size) (hT6 _ _ k) hkx.1 hkx.2
          have hsC := fun (T0 : ByteArray) w7 (k : Ev w.heap.size e b (bs ++ Lib.strCells T0) w6 w7) (hl : T0.size + 1 + t.size ≤ 1 + S) => ew_byte T0 58 58 rfl k hne (by omega) hB6
          have hsV := fun (T0 : ByteArray) w7 (k : Ev w.heap.size e b (bs ++ Lib.strCells T0) w6 w7) (hl : T0.size + t.size ≤ 1 + S) => hzt w7 e b (bs ++ Lib.strCells T0) (hbw6.trans k.bel) k.bl k.en hne hBe (by rw [List.length_append, Lib.strCells_length]; omega)
          have hcat : ∀ (T0 T1 : ByteArray) w7 w8, Ev w.heap.size e b (bs ++ Lib.strCells T0) w6 w7 → Ev w.heap.size e b (bs ++ Lib.strCells T0 ++ Lib.strCells T1) w7 w8 → Ev w.heap.size e b (bs ++ Lib.strCells (T0 ++ T1)) w6 w8 := fun T0 T1 w7 w8 k k' => by
            have := k.trans k'
            rw [List.append_assoc, ← strCells_app] at this
            exact this
          have hback : ∀ (T0 : ByteArray) w7, Ev w.heap.size e b (bs ++ Lib.strCells T0) w6 w7 → Ev w.heap.size e b (bs ++ Lib.strCells T0) w4 w7 := fun T0 w7 k => ⟨k.bl, k.en, E6.bel.trans k.bel, E6.oth.trans k.oth⟩
          have hqk := Lib.strCells_length
          rcases Nat.eq_zero_or_pos j with rfl | hj0
          · rw [if_pos rfl] at hnx hpt
            have c6 := E66.en.cell
            have hA := hide (hsK (⟨#[123]⟩ ++ joinT (ms.take 0)) w6 E66 (by rw [e123]; omega))
            have hB := fun w7 (k : Ev w.heap.size e b (bs ++ Lib.strCells (⟨#[123]⟩ ++ joinT (ms.take 0) ++ qT key)) w6 w7) => hsC _ w7 k (by rw [ByteArray.size_append, e123]; omega)
            have hC := fun w7 (k : Ev w.heap.size e b (bs ++ Lib.strCells (⟨#[123]⟩ ++ joinT (ms.take 0) ++ qT key ++ ⟨#[58]⟩)) w6 w7) => hsV _ w7 k (by rw [ByteArray.size_append, ByteArray.size_append, e123]; show _ + _ + 1 + _ ≤ _; omega)
            have hfin : ∀ w7 w8, Ev w.heap.size e b (bs ++ Lib.strCells (⟨#[123]⟩ ++ joinT (ms.take 0) ++ qT key ++ ⟨#[58]⟩)) w6 w7 → Ev w.heap.size e b (bs ++ Lib.strCells (⟨#[123]⟩ ++ joinT (ms.take 0) ++ qT key ++ ⟨#[58]⟩) ++ Lib.strCells t) w7 w8 → Ev w.heap.size e b (bs ++ Lib.strCells (⟨#[123]⟩ ++ joinT (ms.take (0 + 1)))) w4 w8 := fun w7 w8 k k' => by
              have := hback _ _ (hcat _ _ _ _ k k')
              rw [hnx]
              exact this
            have hk00 := hk0 _ _ E66
            have hkA := fun w7 (k : Ev w.heap.size e b (bs ++ Lib.strCells (⟨#[123]⟩ ++ joinT (ms.take 0)) ++ Lib.strCells (qT key)) w6 w7) => hcat _ _ _ _ E66 k
            have hk0' := hk0 _ _ E66
            replace hB := hide hB
            replace hC := hide hC
            replace hfin := hide hfin
            replace hkA := hide hkA
            replace hk1 := hide hk1
            replace hE := hide hE
            clear hnx hpt e123 hsK hsC hsV hback hcat hk0 hkc hT6 hqk
            rw [show ((0 : Nat) : Int) = 0 from rfl]
            go_wp2_with (first
              | (go_at_call 106; refine hA.out.mono ?_; rintro r w7 ⟨rfl, k7⟩; replace k7 := hkA.out w7 k7; have c7 := k7.en.cell; replace k7 := hide k7)
              | (go_at_call 235; refine (hB.out w7 k7.out).mono ?_; rintro r w8 ⟨rfl, k8⟩; have c8 := hk1.out _ _ k8; replace k8 := hide k8)
              | (go_at_call 92; refine (hC.out w8 k8.out).mono ?_; rintro r w9 ⟨rfl, k9⟩; replace k9 := hide k9))
            go_roundw
            case rel => exact ⟨1, rfl, by omega, hfin.out _ _ k8.out k9.out⟩
            case measure => simp [Lib.intOf]; omega
          · rw [if_neg (by omega)] at hnx hpt
            have hK0 := ew_byte (⟨#[123]⟩ ++ joinT (ms.take j)) 44 44 rfl E66 hne (by rw [e123]; omega) hB6
            have c6 := E66.en.cell
            have hA := fun w7 (k : Ev w.heap.size e b (bs ++ Lib.strCells (⟨#[123]⟩ ++ joinT (ms.take j) ++ ⟨#[44]⟩)) w6 w7) => hsK (⟨#[123]⟩ ++ joinT (ms.take j) ++ ⟨#[44]⟩) w7 k (by rw [ByteArray.size_append, e123]; show _ + 1 + _ + 1 + _ ≤ _; omega)
            have hB := fun w7 (k : Ev w.heap.size e b (bs ++ Lib.strCells (⟨#[123]⟩ ++ joinT (ms.take j) ++ ⟨#[44]⟩ ++ qT key)) w6 w7) => hsC _ w7 k (by rw [ByteArray.size_append, ByteArray.size_append, e123]; show _ + 1 + _ + 1 + _ ≤ _; omega)
            have hC := fun w7 (k : Ev w.heap.size e b (bs ++ Lib.strCells (⟨#[123]⟩ ++ joinT (ms.take j) ++ ⟨#[44]⟩ ++ qT key ++ ⟨#[58]⟩)) w6 w7) => hsV _ w7 k (by rw [ByteArray.size_append, ByteArray.size_append, ByteArray.size_append, e123]; show _ + 1 + _ + 1 + _ ≤ _; omega)
            have hfin : ∀ w7 w8, Ev w.heap.size e b (bs ++ Lib.strCells (⟨#[123]⟩ ++ joinT (ms.take j) ++ ⟨#[44]⟩ ++ qT key ++ ⟨#[58]⟩)) w6 w7 → Ev w.heap.size e b (bs ++ Lib.strCells (⟨#[123]⟩ ++ joinT (ms.take j) ++ ⟨#[44]⟩ ++ qT key ++ ⟨#[58]⟩) ++ Lib.strCells t) w7 w8 → Ev w.heap.size e b (bs ++ Lib.strCells (⟨#[123]⟩ ++ joinT (ms.take (j + 1)))) w4 w8 := fun w7 w8 k k' => by
              have := hback _ _ (hcat _ _ _ _ k k')
              rw [hnx]
              have e2 : (⟨#[123]⟩ ++ (joinT (ms.take j) ++ ⟨#[44]⟩ ++ itemT key t) : ByteArray) = ⟨#[123]⟩ ++ joinT (ms.take j) ++ ⟨#[44]⟩ ++ qT key ++ ⟨#[58]⟩ ++ t := by
                unfold itemT
                simp only [app_assoc]
              rw [e2]
              exact this
            have hkA := fun w7 w8 (k0 : Ev w.heap.size e b (bs ++ Lib.strCells (⟨#[123]⟩ ++ joinT (ms.take j) ++ ⟨#[44]⟩)) w6 w7) (k : Ev w.heap.size e b (bs ++ Lib.strCells (⟨#[123]⟩ ++ joinT (ms.take j) ++ ⟨#[44]⟩) ++ Lib.strCells (qT key)) w7 w8) => hcat _ _ _ _ k0 k
            replace hA := hide hA
            replace hK0 := hide hK0
            replace hk0 := hide hk0
            replace hB := hide hB
            replace hC := hide hC
            replace hfin := hide hfin
            replace hkA := hide hkA
            replace hk1 := hide hk1
            replace hE := hide hE
            clear hnx hpt e123 hsK hsC hsV hback hcat hkc hT6 hqk
            go_wp2_with (first
              | (go_at_call 106; refine (hA.out w7 k7.out).mono ?_; rintro r w8 ⟨rfl, k8⟩; replace k8 := hkA.out w7 w8 k7.out k8; have c8 := k8.en.cell; replace k8 := hide k8)
              | (go_at_call 235; (with_reducible refine hK0.out.mono ?_); rintro r w7 ⟨rfl, k7⟩; have c7 := hk0.out _ _ k7; replace k7 := hide k7)
              | (go_at_call 235; refine (hB.out w8 k8.out).mono ?_; rintro r w9 ⟨rfl, k9⟩; have c9 := hk1.out _ _ k9; replace k9 := hide k9)
              | (go_at_call 92; refine (hC.out w9 k9.out).mono ?_; rintro r w10 ⟨rfl, k10⟩; replace k10 := hide k10))
            go_roundw
            case rel => exact ⟨j + 1, by go_num, by omega, hfin.out _ _ k9.out k10.out⟩
            case measure => simp [Lib.intOf]; omega
        · have hjN' : j = N := by omega
          subst hjN'
          have hta : ms.take j = ms := List.take_of_length_le (by rw [hms.out, hN'.out]; exact Nat.le_refl _)
          rw [hta] at hE
          have hK2 := hide (ew_byte (⟨#[123]⟩ ++ joinT ms) 125 125 rfl (hfinE.out _ _ hE) hne (by rw [e123, hS.out]; omega) hBW)
          replace hE := hide hE
          clear hta e123
          go_wp2_with (go_at_call 235; refine hK2.out.mono ?_; rintro r w6 ⟨rfl, k6⟩; replace k6 := hide k6)
          go_end0
          exact ⟨rfl, k6.out⟩
    · intro k c kl yd yp w2 cnt2 hkey hlk hv hat hrg2 hlt hg2 hs2 hen
      obtain ⟨k', ex, rfl, hks⟩ := kv_str hkey
      cases ex
      have hyd : yd = .held c := by
        have : Rv c = some (yd, yp) := hv
        unfold Rv at this
        cases this
        rfl
      subst hyd
      have hroom := hK.room hlk hat
      rw [hN'.out] at hroom
      obtain ⟨hth, cs', hnx⟩ := hK.next hgG sW.out hlk hat hrg2 hg2
      have hv2 : Blk w2 (G + 1) 178 #[.slice (some ⟨G, 0, none⟩) N N] := (hg2.block _ (hK.onl.blk vW.out (by omega)).lt (by simp)).trans (hK.onl.blk vW.out (by omega))
      have hv0 := hv2.cell 0
      simp at hv0
      have hl0 := hK.rng.left_eq
      have hcf := hform.out _ (at_mem hat)
      have hlt' := hide hlt
      have hwrap : IntKind.i64.wrap ((ds.length : Int) + 1) = ((ds.length + 1 : Nat) : Int) := by rw [IntKind.wrap_i64]; omega
      replace hnx := hide hnx
      replace hth := hide hth
      replace hK := hide hK
      replace hl0 := hide hl0
      clear hrg2 hg2 hat hv hlt hv2
      simp only at hcf
      rcases hcf with rfl | ⟨t, u, rfl⟩
      all_goals
        go_wp2_with (refine wpList_store_mid rfl _ _ _ rfl G (ds.length * 2) #[.string k, _] rfl rfl hth.out kv_size (by simp [Value.oneCell']) ?_)
        go_roundw
        case rel => exact ⟨_, cnt2, ds ++ [(k, _)], _, by simp, hnx.out⟩
        case measure => rw [hnx.out.rng.left_eq, hl0.out]; exact hlt'.out
end Go.Proofs.YtbnbemacljjimaaGreatDoor

namespace Go.Proofs.YtbnbemacljjimaaGreatDoor
open Go.RowKit Go.Lib
set_option linter.unusedVariables false

section
variable (w : World) (B e b : Nat) (bs : List Value)

set_option maxHeartbeats 1000000 in
set_option maxRecDepth 100000 in
theorem encode_str (s : ByteArray) {R : Ending → World → Prop} (h : Calls Tryz.prog 106 #[.pointer (some ⟨e, 0, none⟩), .string s] w fun r w' => r = .returned (.tuple #[]) ∧ R r w') :
    Calls Tryz.prog 92 #[.pointer (some ⟨e, 0, none⟩), .iface 9 (.string s)] w R := by
  have hW := hide h
  clear h
  go_enter Tryz.func92, Tryz.ntmps92
  go_wp2_with (go_at_call 106; refine hW.out.mono ?_; rintro r w1 ⟨rfl, h1⟩; replace h1 := hide h1)
  go_end0
  exact h1.out

set_option maxHeartbeats 1000000 in
set_option maxRecDepth 100000 in
theorem encode_list (a : Addr) (n c : Nat) {R : Ending → World → Prop} (h : Calls Tryz.prog 107 #[.pointer (some ⟨e, 0, none⟩), .slice (some a) n c] w fun r w' => r = .returned (.tuple #[]) ∧ R r w') :
    Calls Tryz.prog 92 #[.pointer (some ⟨e, 0, none⟩), .iface 83 (.slice (some a) n c)] w R := by
  have hW := hide h
  clear h
  go_enter Tryz.func92, Tryz.ntmps92
  go_wp2_with (go_at_call 107; refine hW.out.mono ?_; rintro r w1 ⟨rfl, h1⟩; replace h1 := hide h1)
  go_end0
  exact h1.out

set_option maxHeartbeats 1000000 in
set_option maxRecDepth 100000 in
theorem encode_map (g : Nat) {R : Ending → World → Prop} (h : Calls Tryz.prog 108 #[.pointer (some ⟨e, 0, none⟩), .map (some g)] w fun r w' => r = .returned (.tuple #[]) ∧ R r w') :
    Calls Tryz.prog 92 #[.pointer (some ⟨e, 0, none⟩), .iface 86 (.map (some g))] w R := by
  have hW := hide h
  clear h
  go_enter Tryz.func92, Tryz.ntmps92
  go_wp2_with (go_at_call 108; refine hW.out.mono ?_; rintro r w1 ⟨rfl, h1⟩; replace h1 := hide h1)
  go_end0
  exact h1.out
end

theorem encS_list {w : World} {g o c : Nat} {ts : List ByteArray} (hg : g < w.heap.size) (hz : ∀ (i : Nat) t, ts[i]? = some t → ∃ z, w.cell? ⟨g, o + i, none⟩ = some z ∧ EncS w z t) (hN : ts.length ≤ 1000000) :
    EncS w (.iface 83 (.slice (some ⟨g, o, none⟩) ts.length c)) (⟨#[91]⟩ ++ joinT ts ++ ⟨#[93]⟩) := by
  intro W e b bs h1 hb he hne hBe hlen
  rw [ByteArray.size_append, ByteArray.size_append] at hlen
  have hl2 : bs.length + 6 * (1 + (joinT ts).size + 1) + 128 ≤ 140737488355328 := hlen
  refine encode_list W e ⟨g, o, none⟩ ts.length c ((encArr_any w g o c ts hg hz hN W e b bs h1 hb he hne hBe (by omega)).mono ?_)
  rintro r w' ⟨rfl, k⟩
  exact ⟨rfl, rfl, k⟩

theorem encS_map {w : World} {g : Nat} {ents : List Ent} (hm : MapIs w g ents) (hr : Rise (ents.map (·.1))) (ms : List ByteArray) (hms : ms.length = ents.length)
    (hz : ∀ (i : Nat) x, ents[i]? = some x → ∃ t, ms[i]? = some (itemT x.1 t) ∧ EncS w x.2 t) (hk : ∀ x ∈ ents, Lib.validD x.1.data.toList = true ∧ NoDel x.1) (hform : ∀ x ∈ ents, x.2 = .nilIface ∨ ∃ t u, x.2 = .iface t u)
    (hT : Tabs w w.heap.size) (hN : ents.length ≤ 100000) : EncS w (.iface 86 (.map (some g))) (⟨#[123]⟩ ++ joinT ms ++ ⟨#[125]⟩) := by
  intro W e b bs h1 hb he hne hBe hlen
  rw [ByteArray.size_append, ByteArray.size_append] at hlen
  have hl2 : bs.length + 6 * (1 + (joinT ms).size + 1) + 128 ≤ 140737488355328 := hlen
  refine encode_map W e g ((encObj_any w g ents hm hr ms hms hz hk hform hT hN W e b bs h1 hb he hne hBe (by omega)).mono ?_)
  rintro r w' ⟨rfl, k⟩
  exact ⟨rfl, rfl, k⟩

theorem encS_str {w : World} {s : ByteArray} (hv : Lib.validD s.data.toList = true) (hd : NoDel s) (hT : Tabs w w.heap.size) : EncS w (.iface 9 (.string s)) (qT s) := by
  intro W e b bs h1 hb he hne hBe hlen
  have := qT_low s
  refine encode_str W e s ((encStr_any W w.heap.size e b bs s hb he hne (by omega) h1.size (hT.keep (fun p hp => h1.cell hp)) hv hd).mono ?_)
  rintro r w' ⟨rfl, k⟩
  exact ⟨rfl, rfl, k⟩

theorem zip_at {k : ByteArray} {x : JV} {f : JV → ByteArray} {ks : List ByteArray} {vs : List JV} {i : Nat} (hk : ks[i]? = some k) (hx : vs[i]? = some x) : (List.zipWith (fun k x => itemT k (f x)) ks vs)[i]? = some (itemT k (f x)) := by
  rw [List.getElem?_zipWith, hk, hx]

theorem enc_all : ∀ (n : Nat) (v : JV), Good n v → JsOk n v → ∀ (w : World) (lo : Nat) (x : Value), GAt w lo n x v → Tabs w w.heap.size → EncS w x (jT n v)
  | 0, v, hg, _, _, _, _, _, _ => hg.elim
  | n + 1, v, hg, hj, w, lo, x, hx, hT => by
    have hx' := hx
    obtain ⟨hk, -, -, -, -, hlen, hh1, hh2, hvt, hl4, hv4, hgl, hgk, hrise, hgv⟩ := hg
    obtain ⟨j4, jl, jk, jv⟩ := hj
    by_cases h3 : v.kind ≤ 3
    · have e : jT (n + 1) v = stxt v := by
        rw [jT, if_neg (by omega), if_neg (by omega), if_neg (by omega)]
      rw [e]
      exact encS_scalar w lo n x v hx h3 hh1 hh2
    rcases hx with h | h | h | h | h | h | h | h
    · omega
    · omega
    · omega
    · omega
    · omega
    · obtain ⟨h4, rfl⟩ := h
      rw [jT, if_pos h4]
      exact encS_str hvt (j4 h4) hT
    · obtain ⟨h5, b, o, c, rfl, h1, h2, -, -, hz⟩ := h
      have e : jT (n + 1) v = ⟨#[91]⟩ ++ joinT (v.list.map (jT n)) ++ ⟨#[93]⟩ := by
        rw [jT, if_neg (by omega), if_pos h5]
        unfold jItems
        rw [if_neg (by omega)]
      rw [e]
      have := encS_list (w := w) (g := b) (o := o) (c := c) (ts := v.list.map (jT n)) h2 (fun i t ht => by
        rw [List.getElem?_map] at ht
        obtain ⟨y, hy, rfl⟩ := Option.map_eq_some_iff.1 ht
        obtain ⟨z, hz1, hz2⟩ := hz i y hy
        have hm := List.mem_of_getElem? hy
        exact ⟨z, hz1, enc_all n y (hgl y hm) (jl y hm) w lo z hz2 hT⟩) (by rw [List.length_map]; omega)
      rw [List.length_map] at this
      exact this
    · obtain ⟨h6, b, ents, rfl, h1, h2, hm, hke, hz⟩ := h
      have e : jT (n + 1) v = ⟨#[123]⟩ ++ joinT (List.zipWith (fun k x => itemT k (jT n x)) v.keys v.vals) ++ ⟨#[125]⟩ := by
        rw [jT, if_neg (by omega), if_neg (by omega), if_pos h6]
        unfold jItems
        rw [if_pos h6]
      rw [e]
      have hel : ents.length = v.vals.length := by rw [← hlen, ← hke, List.length_map]
      have hat : ∀ (i : Nat) (x : Ent), ents[i]? = some x → ∃ y, v.vals[i]? = some y ∧ v.keys[i]? = some x.1 ∧ GAt w lo n x.2 y := fun i x hx => by
        have hi := (List.getElem?_eq_some_iff.1 hx).1
        have hy : v.vals[i]? = some v.vals[i] := List.getElem?_eq_getElem (by omega)
        obtain ⟨e', he', hge⟩ := hz i _ hy
        rw [hx] at he'
        cases he'
        exact ⟨_, hy, by rw [← hke, List.getElem?_map, hx]; rfl, hge⟩
      refine encS_map hm (by rw [hke]; exact hrise) _ (by rw [List.length_zipWith, hlen, hel, Nat.min_self]) (fun i x hx => ?_) (fun x hx => ?_) (fun x hx => ?_) hT (by omega)
      · obtain ⟨y, hy, hky, hgy⟩ := hat i x hx
        have hym := List.mem_of_getElem? hy
        exact ⟨jT n y, zip_at hky hy, enc_all n y (hgv y hym) (jv y hym) w lo x.2 hgy hT⟩
      · have hm' : x.1 ∈ v.keys := by rw [← hke]; exact List.mem_map.2 ⟨x, hx, rfl⟩
        exact ⟨hgk _ hm', jk _ hm'⟩
      · obtain ⟨i, hi⟩ := List.getElem?_of_mem hx
        obtain ⟨y, -, -, hgy⟩ := hat i x hi
        exact hgy.form

set_option maxHeartbeats 1000000 in
set_option maxRecDepth 100000 in
theorem zzToJSON_any (n : Nat) (v : JV) (hg : Good n v) (hj : JsOk n v) (hs : (jT n v).size ≤ 1000000) (w : World) (lo : Nat) (x : Value) (hx : GAt w lo n x v) (hT : Tabs w w.heap.size) :
    Calls Tryz.prog 24 #[x] w fun e w' => e = .returned (.iface 9 (.string (jT n v))) ∧ Below w.heap.size w w' := by
  have hm := hide (marshal_of w x (jT n v) ((enc_all n v hg hj w lo x hx hT).says hs))
  have hf : Calls Tryz.prog 46 #[x] w fun e w' => e = .returned (.iface 9 (.string (jT n v))) ∧ Below w.heap.size w w' := by
    clear hx hT hg hj
    go_enter Tryz.func46, Tryz.ntmps46
    go_wp2_with (go_at_call 70; refine hm.out.mono ?_; rintro e w1 ⟨rfl, b1⟩; replace b1 := hide b1)
    go_ret
    exact ⟨rfl, b1.out⟩
  clear hx hT hg hj hm
  replace hf := hide hf
  go_enter Tryz.func24, Tryz.ntmps24
  go_wp2_with (go_at_call 46; refine hf.out.mono ?_; rintro e w1 ⟨rfl, b1⟩; replace b1 := hide b1)
  go_ret
  exact ⟨rfl, b1.out⟩
end Go.Proofs.YtbnbemacljjimaaGreatDoor

namespace Go.Proofs.YtbnbemacljjimaaGreatDoor
open Go.RowKit Go.Lib
set_option linter.unusedVariables false

/-- The door says a text. -/
def TxtSays (n : Nat) (s : ByteArray) (w w' : World) (e : Ending) : Prop := ∃ r, e = .returned r ∧ Below w.heap.size w w' ∧ ResAt w' w'.heap.size n r (strJ s) 0

set_option maxHeartbeats 2000000 in
set_option maxRecDepth 100000 in
theorem doorToJSON_any (n : Nat) (w : World) (B : Nat) (x : Value) (v : JV) (hx : JAt w B (n + 1) x v) (hg : Good (n + 1) v) (hj : JsOk (n + 1) v) (hs : (jT (n + 1) v).size ≤ 1000000) (hT : Tabs w B) (hB : B ≤ w.heap.size) :
    Calls Tryz.prog 10 #[x] w fun e w' => TxtSays n (jT (n + 1) v) w w' e := by
  have hx' := hide hx
  obtain ⟨la, lc, ka, kc, va, vc, rfl, -⟩ := hx
  obtain ⟨W, hW⟩ : ∃ W, W = (w.alloc (.cells #[.int .i64 v.kind, .int .i64 v.half, .string v.text, .slice la v.list.length lc, .slice ka v.keys.length kc, .slice va v.vals.length vc] 26)).alloc (.cells #[.int .i64 0, .int .i64 0, .string ⟨#[]⟩, .slice none 0 0, .slice none 0 0, .slice none 0 0, .int .i64 0] 35) := ⟨_, rfl⟩
  have bW : Below w.heap.size w W := by rw [hW]; exact Below.alloc (Below.alloc (Below.refl _ _) (Nat.le_refl _) _) (by simp) _
  have sW : W.heap.size = w.heap.size + 2 := by rw [hW]; simp
  have kW : Blk W (w.heap.size + 1) 35 #[.int .i64 0, .int .i64 0, .string ⟨#[]⟩, .slice none 0 0, .slice none 0 0, .slice none 0 0, .int .i64 0] := by
    rw [hW]
    have h2 := Blk.new (w.alloc (.cells #[.int .i64 v.kind, .int .i64 v.half, .string v.text, .slice la v.list.length lc, .slice ka v.keys.length kc, .slice va v.vals.length vc] 26)) 35 #[.int .i64 0, .int .i64 0, .string ⟨#[]⟩, .slice none 0 0, .slice none 0 0, .slice none 0 0, .int .i64 0]
    have hsz : (w.alloc (.cells #[.int .i64 v.kind, .int .i64 v.half, .string v.text, .slice la v.list.length lc, .slice ka v.keys.length kc, .slice va v.vals.length vc] 26)).heap.size = w.heap.size + 1 := by simp
    rw [hsz] at h2
    exact h2
  have hxW : JAt W B (n + 1) _ v := JAt.keep (fun p hp => bW.cell (by omega)) (Nat.le_refl _) (n + 1) _ _ hx'.out
  replace hxW := hide hxW
  replace bW := hide bW
  replace kW := hide kW
  replace sW := hide sW
  replace hg := hide hg
  replace hj := hide hj
  replace hT := hide hT
  go_enter Tryz.func10, Tryz.ntmps10
  go_wp2_with fail
  rw [← hW]
  clear hW
  refine (toGo_any (n + 1) W B _ v hxW.out hg.out (by have := sW.out; omega)).mono ?_
  rintro e W1 ⟨y, rfl, b1, hy⟩
  have kW1 := hide (kW.out.below b1 (by have := sW.out; omega))
  have b2 := hide (bW.out.trans (b1.mono bW.out.size))
  have hz := hide (zzToJSON_any (n + 1) v hg.out hj.out hs W1 _ y hy ((hT.out.keep (fun p hp => b2.out.cell (by omega))).more (by have := b2.out.size; omega)))
  have hlo : w.heap.size + 1 < W1.heap.size := kW1.out.lt
  clear b1 hy
  go_wp2_with fail
  refine hz.out.mono ?_
  rintro e W2 ⟨rfl, b3⟩
  have kW2 := hide (kW1.out.below b3 hlo)
  have b4 := hide (b2.out.trans (b3.mono b2.out.size))
  have hs23 := b3.size
  clear b3
  have hsz : (jT (n + 1) v).size ≤ 9223372036854775807 := by omega
  have hR := hide (result_of n W2 0 _ (strJ (jT (n + 1) v)) (str_gat W2 0 n (jT (n + 1) v)) (fun W _ => str_fg W n _ hsz))
  obtain ⟨u, hu⟩ : ∃ u, u = strJ (jT (n + 1) v) := ⟨_, rfl⟩
  rw [← hu] at hR
  replace hu := hide hu
  go_wp2_with (first
    | (go_at_call 23; refine hR.out.mono ?_; rintro e W3 ⟨la', lc', ka', kc', va', vc', rfl, b5, hr⟩; have kW3 := hide (kW2.out.below b5 kW2.out.lt); have b5' := hide (b4.out.trans (b5.mono b4.out.size)); have hr' := hide hr; clear b5 hr)
    | (refine wpList_store_blk rfl 35 (.tmp 2) (.tmp 15) rfl (w.heap.size + 1) _ rfl rfl 35 _ kW3.out res_size rfl (res_one _ _ _ _ _ _ _ _ _ _ _ _ _) ?_; intro W4 k4 o4 s4; have k4' := hide k4; have o4' := hide o4; have s4' := hide s4; clear k4 o4 s4))
  obtain ⟨q0, q1, q2, q3, q4, q5, q6⟩ := blk_seven k4'.out
  obtain ⟨r1, r2⟩ := door_end (z := 0) (by omega) b5'.out hr'.out o4'.out s4'.out (by omega)
  exact bodyPost_ret (v := .agg #[.int .i64 u.kind, .int .i64 u.half, .string u.text, .slice la' u.list.length lc', .slice ka' u.keys.length kc', .slice va' u.vals.length vc', .int .i64 0]) (by simp [results, Tryz.results10, go_sem, q0, q1, q2, q3, q4, q5, q6]) rfl ⟨_, rfl, r1, by rw [← hu.out]; exact r2⟩
end Go.Proofs.YtbnbemacljjimaaGreatDoor
