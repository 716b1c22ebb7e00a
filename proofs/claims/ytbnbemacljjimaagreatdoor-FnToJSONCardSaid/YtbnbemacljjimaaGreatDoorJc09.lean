/- strings.Builder's writers. -/
import Derived.Test.YtbnbemacljjimaaGreatDoorJc00
import Derived.Lib.Builder
import Derived.Lib.FrozenHead
import Derived.Lib.FrozenHead2
import Derived.Lib.OthersKept
import Derived.Lib.UnsafeStr
import Derived.Test.YtbnbemacljjimaaGreatDoorJc08
import Derived.Lib.JoinLaws
import Derived.Orders
namespace Go.Proofs.YtbnbemacljjimaaGreatDoor
open Go.RowKit Go.Lib
set_option linter.unusedVariables false

theorem bl_size : (Tryz.prog.info? 128).map (·.size) = some 2 := by kernel_rfl
theorem bl_lies : liesAt Tryz.prog Tryz.prog.depth 128 (2 / Tryz.prog.cellsOf 128) 0 128 1 = true := by kernel_rfl
theorem bl_byte : (Tryz.prog.info? 5).map (fun i => (i.zero, i.size, i.bytes)) = some (some (.int .u8 0), 1, 1) := by kernel_rfl

set_option maxHeartbeats 1000000 in
set_option maxRecDepth 100000 in
theorem bl_used (b : Nat) (w : World) (h0 : w.cell? ⟨b, 0, none⟩ = some (.pointer (some ⟨b, 0, none⟩))) :
    Calls Tryz.prog 130 #[.pointer (some ⟨b, 0, none⟩)] w fun e w' => e = .returned (.tuple #[]) ∧ w' = w := by
  obtain ⟨j, hj, _⟩ := Option.map_eq_some_iff.1 bl_size
  go_enter Tryz.func130, Tryz.ntmps130
  go_wp2
  rw [Lib.run_neq_ptr_same w _ Tryz.underlying126 hj]
  go_wp2
  go_end0
  exact ⟨rfl, rfl⟩

set_option maxHeartbeats 1000000 in
set_option maxRecDepth 100000 in
theorem bl_fresh (b : Nat) (w : World) (h0 : w.cell? ⟨b, 0, none⟩ = some (.pointer none)) (hsh : w.shape? b = some (128, 2)) (hfz : w.frozen? ⟨b, 0, none⟩ = false) :
    Calls Tryz.prog 130 #[.pointer (some ⟨b, 0, none⟩)] w fun e w' => e = .returned (.tuple #[]) ∧ w' = w.setCell ⟨b, 0, none⟩ (.pointer (some ⟨b, 0, none⟩)) := by
  obtain ⟨j, hj, hjs⟩ := Option.map_eq_some_iff.1 bl_size
  go_enter Tryz.func130, Tryz.ntmps130
  go_wp2
  rw [Lib.run_to_unsafe w ⟨b, 0, none⟩ Tryz.underlying126 Tryz.underlying202 hj (by rw [hjs]; decide) hsh (Nat.zero_lt_succ 1)]
  simp only [Result.andThen]
  rw [Oper.upon_value]
  go_wp2
  rw [run_callFunc_extern Tryz.func155 (by kernel_rfl) (by kernel_rfl) (by kernel_rfl) (e := Extern.AbiNoEscape.same) (by kernel_rfl)]
  rw [Lib.run_noEscape]
  simp only [Result.andThen]
  rw [Oper.upon_value]
  go_wp2
  rw [Lib.run_from_unsafe w ⟨b, 0, none⟩ Tryz.underlying202 Tryz.underlying126 hj hsh bl_lies]
  simp only [Result.andThen]
  rw [Oper.upon_value]
  go_wp2
  go_end0
  exact ⟨rfl, rfl⟩

/-- A builder's block b holds these bytes; B: below all that is its own. -/
abbrev Bl (B b : Nat) (bs : List Value) (w : World) : Prop := Lib.IsBuilder 128 5 B b bs w
/-- What a write leaves: all below B, and all that is no row of bytes. -/
structure Wr (B b : Nat) (w w' : World) : Prop where
  bel : Below B w w'
  oth : Lib.OthersKept 5 (some b) w w'
theorem Wr.refl (B b : Nat) (w : World) : Wr B b w w := ⟨Below.refl _ _, Lib.OthersKept.refl _ _ _⟩
theorem Wr.trans {B b : Nat} {w w1 w2 : World} (h : Wr B b w w1) (k : Wr B b w1 w2) : Wr B b w w2 := ⟨h.bel.trans k.bel, h.oth.trans k.oth⟩
theorem Wr.drew {B b : Nat} {w w1 : World} (h : Wr B b w w1) : Wr B b w w1.drew := ⟨h.bel.drew, h.oth.drew⟩
theorem Wr.blk {B b : Nat} {w w' : World} (h : Wr B b w w') {g : Nat} {t : TypeId} {cs : Array Value} (hb : Blk w g t cs) (hg : g ≠ b) (ht : t ≠ 5) : Blk w' g t cs :=
  h.oth g _ hb (by simpa using hg) (fun c fz e => by injection e with _ e; exact ht e)

theorem bl_check (B b : Nat) (bs : List Value) (w : World) (h : Bl B b bs w) :
    Calls Tryz.prog 130 #[.pointer (some ⟨b, 0, none⟩)] w fun e w' => e = .returned (.tuple #[]) ∧ Lib.BuilderAt 128 5 B b (.pointer (some ⟨b, 0, none⟩)) bs w' ∧ Wr B b w w' := by
  rcases h with h | h
  · refine (bl_fresh b w h.cell0 h.shape h.frozen0).mono ?_
    rintro e w' ⟨rfl, rfl⟩
    exact ⟨rfl, h.used _, (Below.refl B w).setCell (p := ⟨b, 0, none⟩) h.1 _, (Lib.OthersKept.refl _ _ w).setCell ⟨b, 0, none⟩ rfl _⟩
  · refine (bl_used b w h.cell0).mono ?_
    rintro e w' ⟨rfl, rfl⟩
    exact ⟨rfl, h, Wr.refl _ _ _⟩

theorem own_kind {w : World} {B e s n : Nat} {v : Value} {xs : List Value} (h : w.ownsRow B e s v n xs) : ∀ g, v.ownBlock = some g → ∃ c fz, w.heap[g]? = some (.cells c e fz) := by
  intro g hg
  rcases h.2 with ⟨rfl, _⟩ | ⟨g', cap, cur, rfl, _, hh, _⟩
  · simp [Value.ownBlock] at hg
  · simp [Value.ownBlock] at hg
    subst hg
    exact ⟨_, _, hh⟩

set_option maxHeartbeats 2000000 in
set_option maxRecDepth 100000 in
theorem bl_byte_any (B b : Nat) (bs : List Value) (c : Int) (w : World) (h : Bl B b bs w) (hlen : bs.length + 1 ≤ 140737488355328) (hBw : B ≤ w.heap.size) :
    Calls Tryz.prog 235 #[.pointer (some ⟨b, 0, none⟩), .int .u8 c] w fun e w' => e = .returned .nilIface ∧ Bl B b (bs ++ [.int .u8 c]) w' ∧ Wr B b w w' := by
  obtain ⟨i0, hi, hz0, hz1, hz2⟩ := info_parts bl_byte
  go_enter Tryz.func235, Tryz.ntmps235
  go_wp2_with (go_at_call 130; refine (bl_check B b bs _ h).mono ?_)
  rintro e w1 ⟨rfl, h1, hk1⟩
  obtain ⟨hB, v, hbk, hown, hne⟩ := h1
  have c0 : w1.cell? ⟨b, 0, none⟩ = some (.pointer (some ⟨b, 0, none⟩)) := by rw [Lib.cell_of_heap hbk]; rfl
  have c1 : w1.cell? ⟨b, 1, none⟩ = some v := by rw [Lib.cell_of_heap hbk]; rfl
  go_wp2_with (at_builtin; refine wpList_append_own _ rfl _ _ 119 rfl B 5 i0 (.int .u8 0) 1 1 Tryz.underlying119 hi hz0 hz1 hz2 rfl (by decide) _ _ _ rfl (hown.alloc _) ⟨w1.heap.size, 0, none⟩ 1 1 [.int .u8 c] rfl rfl ?c1 ?c2 ?c3 ?c4 ?c5 ?_)
  case c1 =>
    intro j u hj
    match j, hj with
    | 0, hj => simp at hj; subst hj; simp [Addr.add]
  case c2 => intro u hu; simp at hu; subst hu; rfl
  case c3 => unfold maxLen; omega
  case c4 => omega
  case c5 => have := hk1.bel.size; simp; omega
  intro v' w2 hown' hgrow _
  have hlt : b < w1.heap.size := by
    rcases Nat.lt_or_ge b w1.heap.size with h' | h'
    · exact h'
    · simp [Array.getElem?_eq_none h'] at hbk
  have hb2 : w2.heap[b]? = some (.cells #[.pointer (some ⟨b, 0, none⟩), v] 128 (0, 0)) := by
    rw [hgrow.block b (by simp; omega) (fun e => hne e.symm), Lib.alloc_old w1 _ b hlt]
    exact hbk
  have d0 : w2.cell? ⟨b, 0, none⟩ = some (.pointer (some ⟨b, 0, none⟩)) := by rw [Lib.cell_of_heap hb2]; rfl
  have d1 : w2.cell? ⟨b, 1, none⟩ = some v := by rw [Lib.cell_of_heap hb2]; rfl
  have f1 : w2.frozen? ⟨b, 1, none⟩ = false := Lib.frozen_of_heap hb2 1
  obtain ⟨g, cap, rfl⟩ : ∃ g cap, v' = .slice (some ⟨g, 0, none⟩) (bs.length + 1) cap := by
    rcases hown'.2 with ⟨_, h0⟩ | ⟨g, cap, cur, hv, _⟩
    · omega
    · exact ⟨g, cap, hv⟩
  go_wp2
  go_ret
  refine ⟨rfl, Or.inr ?_, ?_, ((hk1.oth.alloc _).grown hgrow (own_kind (hown.alloc _))).setCell ⟨b, 1, none⟩ rfl _⟩
  · exact Lib.BuilderAt.put (T := 128) (e := 5) hB hb2 (bs' := bs ++ [.int .u8 c]) (by simpa using hown') (by decide)
  · exact ((hk1.bel.alloc (by have := hk1.bel.size; omega) _).grown hgrow (by have := hk1.bel.size; simp; omega) (fun k hk => (hown.lt k hk).1)).setCell (p := ⟨b, 1, none⟩) hB _

set_option maxHeartbeats 2000000 in
set_option maxRecDepth 100000 in
theorem bl_str_any (B b : Nat) (bs : List Value) (s : ByteArray) (w : World) (h : Bl B b bs w) (hlen : bs.length + s.size ≤ 140737488355328) (hBw : B ≤ w.heap.size) :
    Calls Tryz.prog 113 #[.pointer (some ⟨b, 0, none⟩), .string s] w fun e w' => e = .returned (.tuple #[.int .i64 s.size, .nilIface]) ∧ Bl B b (bs ++ Lib.strCells s) w' ∧ Wr B b w w' := by
  obtain ⟨i0, hi, hz0, hz1, hz2⟩ := info_parts bl_byte
  go_enter Tryz.func113, Tryz.ntmps113
  go_wp2_with (go_at_call 130; refine (bl_check B b bs _ h).mono ?_)
  rintro e w1 ⟨rfl, h1, hk1⟩
  obtain ⟨hB, v, hbk, hown, hne⟩ := h1
  have c0 : w1.cell? ⟨b, 0, none⟩ = some (.pointer (some ⟨b, 0, none⟩)) := by rw [Lib.cell_of_heap hbk]; rfl
  have c1 : w1.cell? ⟨b, 1, none⟩ = some v := by rw [Lib.cell_of_heap hbk]; rfl
  go_wp2_with (at_builtin; refine Lib.wpList_append_own_string _ rfl _ _ 119 9 rfl B 5 i0 Tryz.underlying119 Tryz.underlying9 hi hz0 hz1 hz2 _ _ _ rfl hown s rfl ?c3 ?c4 ?c5 ?_)
  case c3 => unfold maxLen; omega
  case c4 => omega
  case c5 => have := hk1.bel.size; omega
  intro v' w2 hown' hgrow _
  have hlt : b < w1.heap.size := by
    rcases Nat.lt_or_ge b w1.heap.size with h' | h'
    · exact h'
    · simp [Array.getElem?_eq_none h'] at hbk
  have hb2 : w2.heap[b]? = some (.cells #[.pointer (some ⟨b, 0, none⟩), v] 128 (0, 0)) := by
    rw [hgrow.block b hlt (fun e => hne e.symm)]
    exact hbk
  have d0 : w2.cell? ⟨b, 0, none⟩ = some (.pointer (some ⟨b, 0, none⟩)) := by rw [Lib.cell_of_heap hb2]; rfl
  have d1 : w2.cell? ⟨b, 1, none⟩ = some v := by rw [Lib.cell_of_heap hb2]; rfl
  have f1 : w2.frozen? ⟨b, 1, none⟩ = false := Lib.frozen_of_heap hb2 1
  obtain ⟨ao, n', cap, rfl⟩ : ∃ ao n' cap, v' = .slice ao n' cap := by
    rcases hown'.2 with ⟨hv, _⟩ | ⟨g, cap, cur, hv, _⟩
    · exact ⟨_, _, _, hv⟩
    · exact ⟨_, _, _, hv⟩
  go_wp2
  go_ret2
  refine ⟨rfl, Or.inr ?_, ?_, (hk1.oth.grown hgrow (own_kind hown)).setCell ⟨b, 1, none⟩ rfl _⟩
  · exact Lib.BuilderAt.put (T := 128) (e := 5) hB hb2 (bs' := bs ++ Lib.strCells s) (by simpa [Lib.strCells_length] using hown') (by decide)
  · exact (hk1.bel.grown hgrow (by have := hk1.bel.size; omega) (fun k hk => (hown.lt k hk).1)).setCell (p := ⟨b, 1, none⟩) hB _

set_option maxHeartbeats 2000000 in
set_option maxRecDepth 100000 in
/-- Write of bytes that lie in a block that is no row of bytes. -/
theorem bl_write_any (B b : Nat) (bs : List Value) (g o m c : Nat) (news : List Value) (w : World) (h : Bl B b bs w) (hlen : bs.length + m ≤ 140737488355328) (hBw : B ≤ w.heap.size) (hl : news.length = m)
    (hgb : g ≠ b) {t : TypeId} {cs : Array Value} (hg : Blk w g t cs) (ht : t ≠ 5) (hn : ∀ j u, news[j]? = some u → cs[o + j]? = some u) (h1 : ∀ u ∈ news, u.oneCell' = true) :
    Calls Tryz.prog 234 #[.pointer (some ⟨b, 0, none⟩), .slice (some ⟨g, o, none⟩) m c] w fun e w' => e = .returned (.tuple #[.int .i64 m, .nilIface]) ∧ Bl B b (bs ++ news) w' ∧ Wr B b w w' := by
  obtain ⟨i0, hi, hz0, hz1, hz2⟩ := info_parts bl_byte
  go_enter Tryz.func234, Tryz.ntmps234
  go_wp2_with (go_at_call 130; refine (bl_check B b bs _ h).mono ?_)
  rintro e w1 ⟨rfl, h1', hk1⟩
  obtain ⟨hB, v, hbk, hown, hne⟩ := h1'
  have c0 : w1.cell? ⟨b, 0, none⟩ = some (.pointer (some ⟨b, 0, none⟩)) := by rw [Lib.cell_of_heap hbk]; rfl
  have c1 : w1.cell? ⟨b, 1, none⟩ = some v := by rw [Lib.cell_of_heap hbk]; rfl
  have hg1 := hk1.blk hg hgb ht
  have hnews1 : ∀ j u, news[j]? = some u → w1.cell? ((⟨g, o, none⟩ : Addr).add j) = some u := fun j u hj => by
    have e : ((⟨g, o, none⟩ : Addr).add j) = ⟨g, o + j, none⟩ := by
      unfold Addr.add
      split
      · rename_i h0; subst h0; rfl
      · rfl
    rw [e, hg1.cell]
    exact hn j u hj
  replace hnews1 := hide hnews1
  replace hl := hide hl
  clear hn hg hg1
  go_wp2_with (at_builtin; refine wpList_append_own _ rfl _ _ 119 rfl B 5 i0 (.int .u8 0) 1 1 Tryz.underlying119 hi hz0 hz1 hz2 rfl (by decide) _ _ _ rfl hown ⟨g, o, none⟩ m c news rfl (by have := hl.out; omega) hnews1.out h1 ?c3 ?c4 ?c5 ?_)
  case c3 => unfold maxLen; omega
  case c4 => omega
  case c5 => have := hk1.bel.size; omega
  intro v' w2 hown' hgrow _
  have hlt : b < w1.heap.size := by
    rcases Nat.lt_or_ge b w1.heap.size with h' | h'
    · exact h'
    · simp [Array.getElem?_eq_none h'] at hbk
  have hb2 : w2.heap[b]? = some (.cells #[.pointer (some ⟨b, 0, none⟩), v] 128 (0, 0)) := by
    rw [hgrow.block b hlt (fun e => hne e.symm)]
    exact hbk
  have d0 : w2.cell? ⟨b, 0, none⟩ = some (.pointer (some ⟨b, 0, none⟩)) := by rw [Lib.cell_of_heap hb2]; rfl
  have d1 : w2.cell? ⟨b, 1, none⟩ = some v := by rw [Lib.cell_of_heap hb2]; rfl
  have f1 : w2.frozen? ⟨b, 1, none⟩ = false := Lib.frozen_of_heap hb2 1
  obtain ⟨ao, n', cap, rfl⟩ : ∃ ao n' cap, v' = .slice ao n' cap := by
    rcases hown'.2 with ⟨hv, _⟩ | ⟨g, cap, cur, hv, _⟩
    · exact ⟨_, _, _, hv⟩
    · exact ⟨_, _, _, hv⟩
  go_wp2
  go_ret2
  refine ⟨rfl, Or.inr ?_, ?_, (hk1.oth.grown hgrow (own_kind hown)).setCell ⟨b, 1, none⟩ rfl _⟩
  · exact Lib.BuilderAt.put (T := 128) (e := 5) hB hb2 (bs' := bs ++ news) (by have := hl.out; subst this; simpa using hown') (by decide)
  · exact (hk1.bel.grown hgrow (by have := hk1.bel.size; omega) (fun k hk => (hown.lt k hk).1)).setCell (p := ⟨b, 1, none⟩) hB _
end Go.Proofs.YtbnbemacljjimaaGreatDoor

namespace Go.Proofs.YtbnbemacljjimaaGreatDoor
open Go.RowKit Go.Lib
set_option linter.unusedVariables false

theorem blk_setCells {g : Nat} {t : TypeId} : ∀ (vs : List Value) (o : Nat) (w : World) (cs : Array Value), Blk w g t cs → o + vs.length ≤ cs.size →
    ∃ cs', Blk (w.setCells g o vs) g t cs' ∧ cs'.size = cs.size ∧ (∀ j u, vs[j]? = some u → cs'[o + j]? = some u) ∧ ∀ k, k < o ∨ o + vs.length ≤ k → cs'[k]? = cs[k]?
  | [], o, w, cs, h, _ => ⟨cs, h, rfl, by simp, fun _ _ => rfl⟩
  | v :: vs, o, w, cs, h, hl => by
    simp at hl
    obtain ⟨cs', h1, h2, h3, h4⟩ := blk_setCells vs (o + 1) (w.setCell ⟨g, o, none⟩ v) _ (h.set_ o v) (by simp; omega)
    refine ⟨cs', h1, by simpa using h2, fun j u hj => ?_, fun k hk => ?_⟩
    · rcases j with _ | j
      · simp at hj
        subst hj
        rw [Nat.add_zero, h4 o (by omega)]
        simp [show o < cs.size by omega]
      · rw [show o + (j + 1) = o + 1 + j by omega]
        exact h3 j u (by simpa using hj)
    · simp at hk
      rw [h4 k (by omega)]
      simp [show ¬ o = k by omega]

theorem only_setCells {g : Nat} : ∀ (vs : List Value) (o : Nat) {a w : World}, Only (· = g) a w → Only (· = g) a (w.setCells g o vs)
  | [], _, _, _, h => h
  | v :: vs, o, a, w, h => only_setCells vs (o + 1) (h.setCell (p := ⟨g, o, none⟩) (Or.inl rfl) v)

/-- The encoder's block: it writes to builder b. -/
def En (e b : Nat) (w : World) : Prop := ∃ cs : Array Value, Blk w e 133 cs ∧ cs.size = 65 ∧ cs[0]? = some (.iface 126 (.pointer (some ⟨b, 0, none⟩)))

theorem En.cell {e b : Nat} {w : World} (h : En e b w) : w.cell? ⟨e, 0, none⟩ = some (.iface 126 (.pointer (some ⟨b, 0, none⟩))) := by
  obtain ⟨cs, h1, h2, h3⟩ := h
  rw [h1.cell, h3]
theorem En.lt {e b : Nat} {w : World} (h : En e b w) : e < w.heap.size := by
  obtain ⟨cs, h1, -⟩ := h
  exact h1.lt
theorem En.wr {e b B : Nat} {w w' : World} (h : En e b w) (hw : Wr B b w w') (hne : e ≠ b) : En e b w' := by
  obtain ⟨cs, h1, h2, h3⟩ := h
  exact ⟨cs, hw.blk h1 hne (by decide), h2, h3⟩
theorem En.below {e b : Nat} {w w' : World} (h : En e b w) (hw : Below w.heap.size w w') : En e b w' := by
  obtain ⟨cs, h1, h2, h3⟩ := h
  exact ⟨cs, h1.below hw h1.lt, h2, h3⟩
theorem En.only {e b : Nat} {w w' : World} (h : En e b w) {P : Nat → Prop} (hw : Only P w w') (hn : ¬ P e) : En e b w' := by
  obtain ⟨cs, h1, h2, h3⟩ := h
  exact ⟨cs, hw.blk h1 hn, h2, h3⟩
theorem En.drew {e b : Nat} {w : World} (h : En e b w) : En e b w.drew := h

/-- The encoder's buffer begins with these bytes. -/
def Buf (e b : Nat) (s : ByteArray) (w : World) : Prop := ∃ cs : Array Value, Blk w e 133 cs ∧ cs.size = 65 ∧ cs[0]? = some (.iface 126 (.pointer (some ⟨b, 0, none⟩))) ∧ ∀ j u, (Go.byteCells s)[j]? = some u → cs[1 + j]? = some u
theorem Buf.en {e b : Nat} {s : ByteArray} {w : World} (h : Buf e b s w) : En e b w := by
  obtain ⟨cs, h1, h2, h3, -⟩ := h
  exact ⟨cs, h1, h2, h3⟩
theorem Buf.drew {e b : Nat} {s : ByteArray} {w : World} (h : Buf e b s w) : Buf e b s w.drew := h

/-- append of a text into the buffer. -/
theorem En.append {e b : Nat} {w : World} (h : En e b w) (s : ByteArray) (hs : s.size ≤ 64) : Buf e b s (w.setCells e 1 (Go.byteCells s)) ∧ Only (· = e) w (w.setCells e 1 (Go.byteCells s)) := by
  obtain ⟨cs, h1, h2, h3⟩ := h
  obtain ⟨cs', k1, k2, k3, k4⟩ := blk_setCells (Go.byteCells s) 1 w cs h1 (by rw [Go.byteCells_length]; omega)
  exact ⟨⟨cs', k1, by omega, by rw [k4 0 (by omega)]; exact h3, k3⟩, only_setCells _ _ (Only.refl _ _)⟩

theorem itxt_size (n : Int) (h0 : -9223372036854775808 ≤ n) (h1 : n ≤ 9223372036854775807) : (itxt n).size ≤ 21 := by
  have : (dg n.natAbs).length ≤ 19 + 1 := dg_le 19 n.natAbs (by omega)
  unfold itxt
  split
  · rw [ByteArray.size_append, txt_size]
    show 1 + _ ≤ 21
    omega
  · rw [txt_size]; omega

/-- What an append into the buffer needs and leaves. -/
theorem En.ready {e b : Nat} {w w1 : World} (h : En e b w) (hb : Below w.heap.size w w1) (s : ByteArray) (hs : s.size ≤ 64) :
    Hid (∀ j, j < (Go.byteCells s).length → (w1.cell? ⟨e, 1 + 0 + j, none⟩).isSome = true) ∧ Hid (∀ j, j < (Go.byteCells s).length → w1.frozen? ⟨e, 1 + 0 + j, none⟩ = false) ∧
      Hid (Buf e b s (w1.setCells e 1 (Go.byteCells s)) ∧ Only (· = e) w (w1.setCells e 1 (Go.byteCells s))) := by
  have h1 := h.below hb
  have hlt := h.lt
  have o1 : Only (· = e) w w1 := Only.of_below hb (fun k hk _ => hk)
  have hA := h1.append s hs
  obtain ⟨cs, k1, k2, -⟩ := h1
  refine ⟨hide fun j hj => ?_, hide fun j hj => k1.frozen _, hide ⟨hA.1, o1.trans hA.2⟩⟩
  rw [Go.byteCells_length] at hj
  rw [k1.cell, Array.getElem?_eq_getElem (by omega)]
  rfl

set_option maxHeartbeats 1000000 in
theorem appendInt_any (w : World) (e b : Nat) (n : Int) (h0 : -9223372036854775808 ≤ n) (h1 : n ≤ 9223372036854775807) (hE : En e b w) :
    Calls Tryz.prog 102 #[.slice (some ⟨e, 1, none⟩) 0 64, .int .i64 n, .int .i64 10] w fun r w' => r = .returned (.slice (some ⟨e, 1, none⟩) (itxt n).size 64) ∧ Buf e b (itxt n) w' ∧ Only (· = e) w w' := by
  have hl := itxt_size n h0 h1
  replace hE := hide hE
  go_enter Tryz.func102, Tryz.ntmps102
  go_wp2_with (first
    | (go_at_call 121; refine (formatInt_any n h0 h1 _).mono ?_; rintro r w1 ⟨rfl, hb1⟩; obtain ⟨hce, hfz, hR⟩ := hE.out.ready hb1 (itxt n) (by omega); clear hb1)
    | (at_builtin; refine wpList_append_room1 _ rfl _ _ 119 9 rfl 5 (.int .u8 0) 1 Tryz.underlying119 bl_byte e 1 0 64 rfl (.string (itxt n)) rfl (itxt n).size (Go.byteCells (itxt n)) (Src.ofString _ Tryz.underlying9 (itxt n)) (by omega) hce.out hfz.out ?_))
  go_ret
  exact ⟨rfl, hR.out.1, hR.out.2⟩
end Go.Proofs.YtbnbemacljjimaaGreatDoor

namespace Go.Proofs.YtbnbemacljjimaaGreatDoor
open Go
set_option linter.unusedVariables false

section
variable {P : Program} {ops : Array Oper} {Q : Exit → Act → World → Prop} {md : Region.Mode}

/-- What is asked behind one operation: J where it ends as it should, Q elsewhere. -/
def Then (Q : Exit → Act → World → Prop) (J : Act → World → Prop) : Exit → Act → World → Prop := fun e a w => (e = .normal ∧ J a w) ∨ (¬ e = .normal ∧ Q e a w)

theorem Then.normal {J : Act → World → Prop} {a : Act} {w : World} (h : J a w) : Then Q J .normal a w := .inl ⟨rfl, h⟩

theorem Then.back {J : Act → World → Prop} {e : Exit} {a : Act} {w : World} (he : ¬ e = .normal) (h : Then Q J e a w) : Q e a w := by
  rcases h with h | h
  · exact absurd h.1 he
  · exact h.2

theorem Then.out {J : Act → World → Prop} (h : LetsOut (Then Q J)) : LetsOut Q := by
  obtain ⟨a, w, h⟩ := h
  exact ⟨a, w, Then.back (by intro e; cases e) h⟩

theorem wpOp_of_list {i : Nat} {o : Oper} {J : Act → World → Prop} {a : Act} {w : World} (hi : ops[i]? = some o) (h : wpList P ops (Then Q J) [o] a w) : wpOp P ops Q i J a w := by
  unfold wpOp
  simp only [hi]
  unfold wpList at h
  split
  · rename_i hw
    rw [if_pos hw] at h
    rcases h with h | ⟨h1, h2⟩
    · left
      unfold Oper.wp at *
      generalize (execOp a.eval o).run P w = r at *
      have hn : ∀ a w, wpList P ops (Then Q J) [] a w → J a w := fun a w h => by
        unfold wpList at h
        rcases h with h | h
        · exact h.2
        · exact absurd rfl h.1
      cases r with
      | ok n w' =>
        cases n <;> simp only [Oper.upon] at h ⊢
        case value u => exact hn _ _ h
        case skip => exact hn _ _ h
        case defer d => exact hn _ _ h
        case enter f args =>
          refine Calls.mono h fun e w'' he => ?_
          cases e with
          | returned u => exact hn _ _ he
          | panicked c => exact Then.back (by intro e; cases e) he
          | outgrown => exact Then.out he
        case row row args => exact Rows.mono h fun u w'' he => hn _ _ he
      | halt x w' =>
        cases x <;> simp only [Oper.upon] at h ⊢
        case panic u => exact Then.back (by intro e; cases e) h
    · exact Or.inr ⟨h1, Then.out h2⟩
  · rename_i hw
    rw [if_neg hw] at h
    unfold wpList at h
    rcases h with h | h
    · exact h.2
    · exact absurd rfl h.1

/-- Operation j has come up. -/
def Up (listed : Array Bool) (j : Nat) : Prop := listed.getD j false = true

theorem Up.set_ne {listed : Array Bool} {i j : Nat} (hne : ¬ j = i) (h : Up (listed.setIfInBounds i true) j) : Up listed j := by
  unfold Up at *
  rw [Array.getD_eq_getD_getElem?] at *
  rw [Array.getElem?_setIfInBounds_ne (Ne.symm hne)] at h
  exact h

theorem Up.more {listed : Array Bool} {i j : Nat} (h : Up listed j) : Up (listed.setIfInBounds i true) j := by
  unfold Up at *
  rw [Array.getD_eq_getD_getElem?] at *
  by_cases hne : j = i
  · subst hne
    rcases Nat.lt_or_ge j listed.size with hj | hj
    · simp [hj]
    · simp [Array.getElem?_eq_none hj] at h
  · rw [Array.getElem?_setIfInBounds_ne (Ne.symm hne)]
    exact h

theorem Up.no {listed : Array Bool} {i : Nat} (h : listed.getD i true = false) : ¬ Up listed i := by
  unfold Up
  rw [Array.getD_eq_getD_getElem?] at *
  intro h2
  cases e : listed[i]? with
  | none => rw [e] at h; cases h
  | some b => rw [e] at h h2; simp at h h2; rw [h] at h2; cases h2

theorem Up.start {n j : Nat} (h : Up (Array.replicate n false) j) : False := by
  unfold Up at h
  rw [Array.getD_eq_getD_getElem?] at h
  rcases Nat.lt_or_ge j n with hj | hj
  · simp [hj] at h
  · simp [Array.getElem?_eq_none (xs := Array.replicate n false) (i := j) (by simp; exact hj)] at h

/-- What an operation waits for has come up. -/
theorem Up.waits {listed : Array Bool} {i : Nat} (hr : i ∈ Region.ready md ops listed) (k : Nat) (hk : ((ops[i]?).map fun o => o.after.any fun e => Region.binds md e && e.on == k).getD false = true) : Up listed k := by
  obtain ⟨-, o, ho, hall⟩ := mem_ready.1 hr
  rw [ho] at hk
  simp only [Option.map_some, Option.getD_some] at hk
  rw [Array.any_eq_true] at hk
  obtain ⟨j, hj, he⟩ := hk
  simp only [Bool.and_eq_true, beq_iff_eq] at he
  have h := hall o.after[j] (Array.getElem_mem hj) he.1
  rw [he.2] at h
  exact h

theorem Up.un {listed : Array Bool} {i : Nat} (hr : i ∈ Region.ready md ops listed) : listed.getD i true = false := (mem_ready.1 hr).1

/-- How many have not come up. -/
def left (l : List Bool) : Nat := (l.filter fun b => !b).length

theorem left_set : ∀ (l : List Bool) (i : Nat), l[i]? = some false → left (l.set i true) + 1 = left l
  | [], i, h => by simp at h
  | b :: l, 0, h => by
    simp at h
    subst h
    simp [left]
  | b :: l, i + 1, h => by
    have e := left_set l i (by simpa using h)
    unfold left at *
    cases b <;> simp_all

theorem ready_left {listed : Array Bool} {i : Nat} (hr : i ∈ Region.ready md ops listed) : left (listed.setIfInBounds i true).toList + 1 = left listed.toList := by
  have h := (mem_ready.1 hr).1
  rw [Array.toList_setIfInBounds]
  refine left_set _ i ?_
  rw [Array.getD_eq_getD_getElem?] at h
  rw [Array.getElem?_toList]
  cases e : listed[i]? with
  | none => rw [e] at h; cases h
  | some b => rw [e] at h; simp at h; rw [h]

theorem wpAny_inv (I : Array Bool → Act → World → Prop)
    (step : ∀ listed a w i, I listed a w → i ∈ Region.ready md ops listed → wpOp P ops Q i (fun a' w' => I (listed.setIfInBounds i true) a' w') a w)
    (stop : ∀ listed a w, I listed a w → Region.ready md ops listed = [] → Q .normal a w) :
    ∀ fuel listed a w, I listed a w → left listed.toList ≤ fuel → wpAny P md ops Q fuel listed a w
  | 0, listed, a, w, h, hl => by
    have hr : Region.ready md ops listed = [] := by
      rcases hx : Region.ready md ops listed with _ | ⟨i, l⟩
      · rfl
      · have := ready_left (md := md) (ops := ops) (listed := listed) (i := i) (by rw [hx]; exact List.mem_cons_self)
        omega
    exact ⟨hr, stop _ _ _ h hr⟩
  | fuel + 1, listed, a, w, h, hl =>
    ⟨fun hr => stop _ _ _ h hr, fun i hi => wpOp_mono (fun a' w' h' => wpAny_inv I step stop fuel _ a' w' h' (by have := ready_left hi; omega)) (step listed a w i h hi)⟩

theorem left_start (n : Nat) : left (Array.replicate n false).toList ≤ n := by
  unfold left
  refine Nat.le_trans (List.length_filter_le _ _) ?_
  simp

/-- A region that draws its order, by an invariant. -/
theorem wp_region_inv {id : Nat} {a : Act} {w : World} (hm : P.follows .mixedOrders = true) (I : Array Bool → Act → World → Prop)
    (start : I (Array.replicate ops.size false) a w.drew)
    (step : ∀ listed a w i, I listed a w → i ∈ Region.ready .any ops listed → wpOp P ops Q i (fun a' w' => I (listed.setIfInBounds i true) a' w') a w)
    (stop : ∀ listed a w, I listed a w → Region.ready .any ops listed = [] → Q .normal a w) : (Code.region id ops true).wp P Q a w :=
  wp_region_any hm (wpAny_inv I step stop ops.size _ a _ start (left_start ops.size))
end

/-- At the end all have come up, where each waits for those ahead of it alone. -/
theorem Up.all {md : Region.Mode} {ops : Array Oper} {listed : Array Bool} (hs : listed.size = ops.size) (hord : (List.range ops.size).all (fun i => ((ops[i]?).map fun o => o.after.all fun e => !Region.binds md e || decide (e.on < i)).getD false) = true)
    (hr : Region.ready md ops listed = []) : ∀ j, j < ops.size → Up listed j := by
  intro j
  induction j using Nat.strongRecOn with
  | ind j ih =>
    intro hj
    by_cases hu : Up listed j
    · exact hu
    exfalso
    have hmem : j ∈ Region.ready md ops listed := by
      refine mem_ready.2 ⟨?_, ops[j], by simp [hj], fun e he hb => ?_⟩
      · unfold Up at hu
        rw [Array.getD_eq_getD_getElem?] at *
        have hjl : j < listed.size := by omega
        simp [hjl] at hu ⊢
        exact hu
      · have h := (List.all_eq_true.1 hord) j (List.mem_range.2 hj)
        simp only [Array.getElem?_eq_getElem hj, Option.map_some, Option.getD_some, Array.all_eq_true] at h
        obtain ⟨k, hk, hek⟩ := Array.mem_iff_getElem.1 he
        have h2 := h k hk
        rw [hek] at h2
        simp [hb] at h2
        exact ih e.on h2 (by omega)
    rw [hr] at hmem
    cases hmem
end Go.Proofs.YtbnbemacljjimaaGreatDoor
