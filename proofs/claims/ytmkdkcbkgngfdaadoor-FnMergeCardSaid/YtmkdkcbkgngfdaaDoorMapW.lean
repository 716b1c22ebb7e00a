/- mapFromGo, walked. -/
import Derived.Test.YtmkdkcbkgngfdaaDoorMapP
namespace Go.Proofs.YtmkdkcbkgngfdaaDoor
open Go.RowKit Go.Maps Go.Sort
set_option linter.unusedVariables false

/-- The blocks of what was read: none is a row's own. -/
def Own2 (S hi : Nat) (kv vv : Value) (b : Nat) : Prop := S ≤ b ∧ b < hi ∧ some b ≠ kv.ownBlock ∧ some b ≠ vv.ownBlock

def RowVals2 (n : Nat) (xs : List JV) (wr : World) (S j : Nat) (kv v : Value) (cs : List Value) : Prop :=
  ∀ i y, i < j → xs[i]? = some y → ∃ c0 c1 c2 c3 c4 c5, cs[i * 6]? = some c0 ∧ cs[i * 6 + 1]? = some c1 ∧ cs[i * 6 + 2]? = some c2 ∧ cs[i * 6 + 3]? = some c3 ∧ cs[i * 6 + 4]? = some c4 ∧ cs[i * 6 + 5]? = some c5 ∧
    JP wr (Own2 S wr.heap.size kv v) n (.agg #[c0, c1, c2, c3, c4, c5]) y

theorem RowVals2.vec {n : Nat} {xs : List JV} {wr : World} {S : Nat} {kv v : Value} {cs : List Value} (h : RowVals2 n xs wr S xs.length kv v cs) (ho : wr.ownsRow S 26 6 v xs.length cs) {A : Option Addr} {cap : Nat} (hv : v = .slice A xs.length cap) :
    VecP (JP wr (Mid S wr.heap.size) n) wr (Mid S wr.heap.size) A xs := by
  refine RowVals.vec (v := v) (cs := cs) (fun i y hi hy => ?_) ho hv
  obtain ⟨c0, c1, c2, c3, c4, c5, e0, e1, e2, e3, e4, e5, hj⟩ := h i y hi hy
  exact ⟨c0, c1, c2, c3, c4, c5, e0, e1, e2, e3, e4, e5, JP.more (fun b hb => ⟨hb.1, hb.2.1, hb.2.2.2⟩) hj⟩

structure MFr (n : Nat) (ks : List ByteArray) (vs : List JV) (g : Nat) (W2 wr : World) (j : Nat) (kv vv : Value) (vcs : List Value) : Prop where
  only : Only (· = g) W2 wr
  b1 : Blk wr g 26 #[.int .i64 6, .int .i64 0, .string ⟨#[]⟩, .slice none 0 0, kv, vv]
  kown : wr.ownsRow W2.heap.size 9 1 kv j ((ks.take j).map Value.string)
  vown : wr.ownsRow W2.heap.size 26 6 vv j vcs
  vals : RowVals2 n vs wr W2.heap.size j kv vv vcs

theorem rows_ne {w : World} {b b' : Nat} {e e' : TypeId} {s s' n n' : Nat} {v v' : Value} {xs xs' : List Value} (h : w.ownsRow b e s v n xs) (h' : w.ownsRow b' e' s' v' n' xs') (hne : e ≠ e') : v.ownBlock = none ∨ v.ownBlock ≠ v'.ownBlock := by
  rcases h.2 with ⟨rfl, _⟩ | ⟨g, cap, cur, rfl, _, hg, _⟩
  · exact Or.inl rfl
  · rcases h'.2 with ⟨rfl, _⟩ | ⟨g', cap', cur', rfl, _, hg', _⟩
    · exact Or.inr (by simp [Value.ownBlock])
    · refine Or.inr ?_
      simp only [Value.ownBlock, ne_eq, Option.some.injEq]
      rintro rfl
      rw [hg] at hg'
      injection hg' with hg'
      injection hg' with _ ht
      exact hne ht

theorem MFr.next {n : Nat} {ks : List ByteArray} {vs : List JV} {g : Nat} {W2 wr W1 Ya Yb Yc Yd : World} {j : Nat} {kv vv kv' vv' : Value} {cs : List Value} {c0 c1 c2 c3 c4 c5 : Value} {k : ByteArray} {x : JV} (h : MFr n ks vs g W2 wr j kv vv cs) (hg : g < W2.heap.size)
    (hb1 : Below wr.heap.size wr W1) (hr : JP W1 (Mid wr.heap.size W1.heap.size) n (.agg #[c0, c1, c2, c3, c4, c5]) x) (hb3 : Below W1.heap.size W1 Ya)
    (g1 : Ya.grownBy Yb kv.ownBlock) (l1 : kv'.ownBlock = kv.ownBlock ∨ kv'.ownBlock = some Ya.heap.size) (o1 : Yb.ownsRow W2.heap.size 9 1 kv' (j + 1) ((ks.take j).map Value.string ++ [.string k]))
    (hbc : Below Yb.heap.size Yb Yc)
    (g2 : Yc.grownBy Yd vv.ownBlock) (l2 : vv'.ownBlock = vv.ownBlock ∨ vv'.ownBlock = some Yc.heap.size) (o2 : Yd.ownsRow W2.heap.size 26 6 vv' (j + 1) (cs ++ [c0, c1, c2, c3, c4, c5]))
    (hkj : ks[j]? = some k) (hxj : vs[j]? = some x) :
    MFr n ks vs g W2 ((Yd.setCell ⟨g, 4, none⟩ kv').setCell ⟨g, 5, none⟩ vv') (j + 1) kv' vv' (cs ++ [c0, c1, c2, c3, c4, c5]) := by
  have s0 := h.only.size
  have s1 := hb1.size
  have s3 := hb3.size
  have t1 := g1.size
  have sc := hbc.size
  have t2 := g2.size
  have kl := h.kown.lt
  have vl := h.vown.lt
  have kl' := o1.lt
  have vl' := o2.lt
  have hsz : ((Yd.setCell ⟨g, 4, none⟩ kv').setCell ⟨g, 5, none⟩ vv').heap.size = Yd.heap.size := by simp [World.setCell]
  have hlen : cs.length = j * 6 := h.vown.1
  -- from wr to Yd: all but the two rows
  have old : ∀ b, b < wr.heap.size → some b ≠ kv.ownBlock → some b ≠ vv.ownBlock → Yd.heap[b]? = wr.heap[b]? := fun b hb n1 n2 =>
    (g2.block b (by omega) n2).trans ((hbc.block b (by omega)).trans ((g1.block b (by omega) n1).trans ((hb3.block b (by omega)).trans (hb1.block b hb))))
  have mid : ∀ b, b < W1.heap.size → some b ≠ kv.ownBlock → some b ≠ vv.ownBlock → Yd.heap[b]? = W1.heap[b]? := fun b hb n1 n2 =>
    (g2.block b (by omega) n2).trans ((hbc.block b (by omega)).trans ((g1.block b (by omega) n1).trans (hb3.block b hb)))
  have set2 : ∀ p : Addr, p.block ≠ g → ((Yd.setCell ⟨g, 4, none⟩ kv').setCell ⟨g, 5, none⟩ vv').cell? p = Yd.cell? p := fun p hp =>
    (World.cell?_setCell_other _ _ _ _ (by intro e; exact hp (by rw [← e]))).trans (World.cell?_setCell_other _ _ _ _ (by intro e; exact hp (by rw [← e])))
  have own2 : Only (· = g) Yd ((Yd.setCell ⟨g, 4, none⟩ kv').setCell ⟨g, 5, none⟩ vv') := ((Only.refl (· = g) Yd).setCell (p := ⟨g, 4, none⟩) (Or.inl rfl) _).setCell (p := ⟨g, 5, none⟩) (Or.inl rfl) _
  have gk : some g ≠ kv.ownBlock := fun e => by have := kl _ e.symm; omega
  have gv : some g ≠ vv.ownBlock := fun e => by have := vl _ e.symm; omega
  refine ⟨?_, ?_, ?_, ?_, ?_⟩
  · -- only
    have oy : Only (· = g) W2 Yd := by
      refine ⟨g2.os.trans (hbc.os.trans (g1.os.trans (hb3.os.trans (hb1.os.trans h.only.os)))), g2.tape.trans (hbc.tape.trans (g1.tape.trans (hb3.tape.trans (hb1.tape.trans h.only.tape)))), g2.output.trans (hbc.output.trans (g1.output.trans (hb3.output.trans (hb1.output.trans h.only.output)))), by omega, fun b hb hn => ?_⟩
      exact (old b (by omega) (fun e => by have := kl _ e.symm; omega) (fun e => by have := vl _ e.symm; omega)).trans (h.only.block b hb hn)
    exact oy.trans own2
  · have hb : Blk Yd g 26 #[.int .i64 6, .int .i64 0, .string ⟨#[]⟩, .slice none 0 0, kv, vv] := (old g (by omega) gk gv).trans h.b1
    have := (hb.set_ 4 kv').set_ 5 vv'
    simpa using this
  · have oc : Yc.ownsRow W2.heap.size 9 1 kv' (j + 1) ((ks.take j).map Value.string ++ [.string k]) := Only.own (P := fun _ => False) (Only.of_below hbc (fun k hk _ => hk)) o1 (fun _ _ h => h)
    have ovc : Yc.ownsRow W2.heap.size 26 6 vv j cs := by
      have a1 : Ya.ownsRow W2.heap.size 26 6 vv j cs := Only.own (P := fun _ => False) (Only.of_below (hb1.trans (hb3.mono s1)) (fun k hk _ => hk)) h.vown (fun _ _ h => h)
      have a2 := a1.kept g1 (rows_ne h.vown h.kown (by decide))
      exact Only.own (P := fun _ => False) (Only.of_below hbc (fun k hk _ => hk)) a2 (fun _ _ h => h)
    have od := oc.kept g2 (rows_ne oc ovc (by decide))
    rw [List.take_add_one, hkj, List.map_append]
    exact own2.own od (fun b hb e => by subst e; have := kl' _ hb; omega)
  · exact own2.own o2 (fun b hb e => by subst e; have := vl' _ hb; omega)
  · intro i y hi hy
    rcases Nat.lt_or_ge i j with hlt | hge
    · obtain ⟨d0, d1, d2, d3, d4, d5, e0, e1, e2, e3, e4, e5, hj⟩ := h.vals i y hlt hy
      refine ⟨d0, d1, d2, d3, d4, d5, ?_, ?_, ?_, ?_, ?_, ?_, ?_⟩
      · rw [List.getElem?_append_left (by omega)]; exact e0
      · rw [List.getElem?_append_left (by omega)]; exact e1
      · rw [List.getElem?_append_left (by omega)]; exact e2
      · rw [List.getElem?_append_left (by omega)]; exact e3
      · rw [List.getElem?_append_left (by omega)]; exact e4
      · rw [List.getElem?_append_left (by omega)]; exact e5
      · refine JP.keep (fun p hp => ?_) (fun b hb => ⟨hb.1, by have := hb.2.1; omega, ?_, ?_⟩) _ _ _ hj
        · have p1 := hp.1
          exact (set2 p (by omega)).trans (World.cell?_of_block (old _ hp.2.1 hp.2.2.1 hp.2.2.2))
        · rcases l1 with e | e
          · rw [e]; exact hb.2.2.1
          · rw [e]; intro e'; have := hb.2.1; injection e' with e'; omega
        · rcases l2 with e | e
          · rw [e]; exact hb.2.2.2
          · rw [e]; intro e'; have := hb.2.1; injection e' with e'; omega
    · obtain rfl : i = j := by omega
      rw [hxj] at hy
      cases hy
      refine ⟨c0, c1, c2, c3, c4, c5, ?_, ?_, ?_, ?_, ?_, ?_, ?_⟩
      · rw [List.getElem?_append_right (by omega), show i * 6 - cs.length = 0 by omega]; rfl
      · rw [List.getElem?_append_right (by omega), show i * 6 + 1 - cs.length = 1 by omega]; rfl
      · rw [List.getElem?_append_right (by omega), show i * 6 + 2 - cs.length = 2 by omega]; rfl
      · rw [List.getElem?_append_right (by omega), show i * 6 + 3 - cs.length = 3 by omega]; rfl
      · rw [List.getElem?_append_right (by omega), show i * 6 + 4 - cs.length = 4 by omega]; rfl
      · rw [List.getElem?_append_right (by omega), show i * 6 + 5 - cs.length = 5 by omega]; rfl
      · refine JP.keep (fun p hp => ?_) (fun b hb => ⟨by have := hb.1; omega, by have := hb.2; omega, ?_, ?_⟩) _ _ _ hr
        · have p1 := hp.1
          exact (set2 p (by omega)).trans (World.cell?_of_block (mid _ hp.2 (fun e => by have := kl _ e.symm; omega) (fun e => by have := vl _ e.symm; omega)))
        · have b1 := hb.1
          have b2 := hb.2
          rcases l1 with e | e
          · rw [e]; intro e'; have := kl _ e'.symm; omega
          · rw [e]; intro e'; injection e' with e'; omega
        · have b1 := hb.1
          have b2 := hb.2
          rcases l2 with e | e
          · rw [e]; intro e'; have := vl _ e'.symm; omega
          · rw [e]; intro e'; injection e' with e'; omega
end Go.Proofs.YtmkdkcbkgngfdaaDoor
