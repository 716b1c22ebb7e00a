/- A list that the program gives, as a value. -/
import Derived.Test.YtmkdkcbkgngfdaaDoorFrom
namespace Go.Proofs.YtmkdkcbkgngfdaaDoor
open Go.RowKit
set_option linter.unusedVariables false

theorem GAt.below {w w' : World} (hb : Below w.heap.size w w') : ∀ (n : Nat) {lo : Nat} {x : Value} {v : JV}, GAt w lo n x v → GAt w' lo n x v
  | 0, _, _, _, h => h.elim
  | n + 1, lo, x, v, h => by
    rcases h with h | h | h | h | h | h | h | h
    · exact Or.inl h
    · exact Or.inr (Or.inl h)
    · exact Or.inr (Or.inr (Or.inl h))
    · exact Or.inr (Or.inr (Or.inr (Or.inl h)))
    · exact Or.inr (Or.inr (Or.inr (Or.inr (Or.inl h))))
    · exact Or.inr (Or.inr (Or.inr (Or.inr (Or.inr (Or.inl h)))))
    · obtain ⟨hk, b, o, c, rfl, h1, h2, h3, h4, h5⟩ := h
      refine Or.inr (Or.inr (Or.inr (Or.inr (Or.inr (Or.inr (Or.inl ⟨hk, b, o, c, rfl, h1, Nat.lt_of_lt_of_le h2 hb.size, h3, h4, fun i y hy => ?_⟩))))))
      obtain ⟨z, hz, hg⟩ := h5 i y hy
      exact ⟨z, (hb.cell h2).trans hz, GAt.below hb n hg⟩
    · obtain ⟨hk, b, ents, rfl, h1, h2, h3, h4, h5⟩ := h
      refine Or.inr (Or.inr (Or.inr (Or.inr (Or.inr (Or.inr (Or.inr ⟨hk, b, ents, rfl, h1, Nat.lt_of_lt_of_le h2 hb.size, h3.only (Only.of_below (P := fun _ => False) hb (fun k hk _ => hk)) (fun h => h), h4, fun i y hy => ?_⟩))))))
      obtain ⟨z, hz, hg⟩ := h5 i y hy
      exact ⟨z, hz, GAt.below hb n hg⟩

/-- The blocks of what was read: none is the row's own. -/
def Own (S hi : Nat) (v : Value) (b : Nat) : Prop := S ≤ b ∧ b < hi ∧ some b ≠ v.ownBlock

/-- What lies in a row of values, so far. -/
def RowVals (n : Nat) (xs : List JV) (wr : World) (S j : Nat) (v : Value) (cs : List Value) : Prop :=
  ∀ i y, i < j → xs[i]? = some y → ∃ c0 c1 c2 c3 c4 c5, cs[i * 6]? = some c0 ∧ cs[i * 6 + 1]? = some c1 ∧ cs[i * 6 + 2]? = some c2 ∧ cs[i * 6 + 3]? = some c3 ∧ cs[i * 6 + 4]? = some c4 ∧ cs[i * 6 + 5]? = some c5 ∧
    JP wr (Own S wr.heap.size v) n (.agg #[c0, c1, c2, c3, c4, c5]) y

theorem own_slice {w : World} {base : Nat} {e : TypeId} {size : Nat} {v : Value} {n : Nat} {xs : List Value} (h : w.ownsRow base e size v n xs) : ∃ A cap, v = .slice A n cap ∧ n ≤ cap ∧ cap ≤ maxLen := by
  rcases h.2 with ⟨rfl, rfl⟩ | ⟨g, cap, cur, rfl, hb, hg, h1, h2, _⟩
  · exact ⟨none, 0, rfl, Nat.le_refl _, Nat.zero_le _⟩
  · exact ⟨_, cap, rfl, h1, h2⟩

/-- A row that the call owns reads as the values in it. -/
theorem RowVals.vec {n : Nat} {xs : List JV} {wr : World} {S : Nat} {v : Value} {cs : List Value} (h : RowVals n xs wr S xs.length v cs) (ho : wr.ownsRow S 26 6 v xs.length cs) {A : Option Addr} {cap : Nat} (hv : v = .slice A xs.length cap) :
    VecP (JP wr (Mid S wr.heap.size) n) wr (Mid S wr.heap.size) A xs := by
  intro hp
  obtain ⟨g, cap', hv', hb, hg⟩ := ho.form hp
  have hA : A = some ⟨g, 0, none⟩ := by rw [hv] at hv'; injection hv'
  have hcell := ho.cells (g := g) (by rw [hv']; rfl)
  refine ⟨g, 0, hA, ⟨hb, hg⟩, fun i x hx => ?_⟩
  have hi := (List.getElem?_eq_some_iff.1 hx).1
  obtain ⟨c0, c1, c2, c3, c4, c5, e0, e1, e2, e3, e4, e5, hj⟩ := h i x hi hx
  have hadd : ∀ j, (⟨g, 0, none⟩ : Addr).add j = ⟨g, 0 + j, none⟩ := fun j => by unfold Addr.add; split <;> simp_all
  have hc : ∀ j u, cs[j]? = some u → wr.cell? ⟨g, 0 + j, none⟩ = some u := fun j u hu => by rw [← hadd j]; exact hcell j u hu
  refine ⟨c0, c1, c2, c3, c4, c5, hc _ _ e0, ?_, ?_, ?_, ?_, ?_, JP.more (fun b hb => ⟨hb.1, hb.2.1⟩) hj⟩
  · rw [Nat.add_assoc]; exact hc _ _ e1
  · rw [Nat.add_assoc]; exact hc _ _ e2
  · rw [Nat.add_assoc]; exact hc _ _ e3
  · rw [Nat.add_assoc]; exact hc _ _ e4
  · rw [Nat.add_assoc]; exact hc _ _ e5

/-- One value more in the row. -/
theorem RowVals.next {n : Nat} {xs : List JV} {wr W1 W3 W4 W5 : World} {S j : Nat} {v v' : Value} {cs : List Value} {c0 c1 c2 c3 c4 c5 : Value} {x : JV} (h : RowVals n xs wr S j v cs) (ho : wr.ownsRow S 26 6 v j cs) (hS : S ≤ wr.heap.size)
    (hb1 : Below wr.heap.size wr W1) (hr : JP W1 (Mid wr.heap.size W1.heap.size) n (.agg #[c0, c1, c2, c3, c4, c5]) x) (hb3 : Below W1.heap.size W1 W3) (hg : W3.grownBy W4 v.ownBlock) (hloc : v'.ownBlock = v.ownBlock ∨ v'.ownBlock = some W3.heap.size)
    (k5 : ∀ p : Addr, S ≤ p.block → W5.cell? p = W4.cell? p) (s5 : W5.heap.size = W4.heap.size) (hxj : xs[j]? = some x) : RowVals n xs W5 S (j + 1) v' (cs ++ [c0, c1, c2, c3, c4, c5]) := by
  have hlen : cs.length = j * 6 := ho.1
  have h1 := hb1.size
  have h3 := hb3.size
  have h4 := hg.size
  have hown := ho.lt
  have cell4 : ∀ p : Addr, p.block < W3.heap.size → some p.block ≠ v.ownBlock → W4.cell? p = W3.cell? p := fun p hp hn => World.cell?_of_block (hg.block _ hp hn)
  intro i y hi hy
  rcases Nat.lt_or_ge i j with hlt | hge
  · obtain ⟨d0, d1, d2, d3, d4, d5, e0, e1, e2, e3, e4, e5, hj⟩ := h i y hlt hy
    refine ⟨d0, d1, d2, d3, d4, d5, ?_, ?_, ?_, ?_, ?_, ?_, ?_⟩
    · rw [List.getElem?_append_left (by omega)]; exact e0
    · rw [List.getElem?_append_left (by omega)]; exact e1
    · rw [List.getElem?_append_left (by omega)]; exact e2
    · rw [List.getElem?_append_left (by omega)]; exact e3
    · rw [List.getElem?_append_left (by omega)]; exact e4
    · rw [List.getElem?_append_left (by omega)]; exact e5
    · refine JP.keep (fun p hp => ?_) (fun b hb => ⟨hb.1, by have := hb.2.1; omega, ?_⟩) _ _ _ hj
      · have p1 := hp.1
        have p2 := hp.2.1
        exact (k5 p p1).trans ((cell4 p (by omega) hp.2.2).trans ((hb3.cell (by omega)).trans (hb1.cell p2)))
      · rcases hloc with e | e
        · rw [e]; exact hb.2.2
        · rw [e]; intro e'; have := hb.2.1; injection e' with e'; omega
  · obtain rfl : i = j := by omega
    rw [hxj] at hy
    cases hy
    refine ⟨c0, c1, c2, c3, c4, c5, ?_, ?_, ?_, ?_, ?_, ?_, ?_⟩
    · rw [List.getElem?_append_right (by omega), show i * 6 - cs.length = 0 by omega]; rfl
    · rw [List.getElem?_append_right (by omega), show i * 6 + 1 - cs.length = 1 by omega]; rfl
    · rw [List.getElem?_append_right (by omega), show i * 6 + 2 - cs.length = 2 by omega]; rfl
    · rw [List.getElem?_append_right (by omega), show i * 6 + 3 - cs.length = 3 by omega]; rfl
    · rw [List.getElem?_append_right (by omega), show i * 6 + 4 - cs.length = 4 by omega]; rfl
    · rw [List.getElem?_append_right (by omega), show i * 6 + 5 - cs.length = 5 by omega]; rfl
    · refine JP.keep (fun p hp => ?_) (fun b hb => ⟨by have := hb.1; omega, by have := hb.2; omega, ?_⟩) _ _ _ hr
      · have p1 := hp.1
        have p2 := hp.2
        refine (k5 p (by omega)).trans ((cell4 p (by omega) ?_).trans (hb3.cell p2))
        intro e
        have := hown _ e.symm
        omega
      · have b1 := hb.1
        have b2 := hb.2
        rcases hloc with e | e
        · rw [e]; intro e'; have := hown _ e'.symm; omega
        · rw [e]; intro e'; injection e' with e'; omega

theorem Tryd.infoVal : (Tryd.prog.info? 26).map (fun i => (i.zero, i.size, i.bytes)) = some (some (.agg #[.int .i64 0, .int .i64 0, .string ⟨#[]⟩, .slice none 0 0, .slice none 0 0, .slice none 0 0]), 6, 104) := by kernel_rfl

theorem reads_new6 (w : World) (a0 a1 a2 a3 a4 a5 : Value) (t : TypeId) : Reads (w.alloc (.cells #[a0, a1, a2, a3, a4, a5] t)) (w.heap.size + 1) 6 (some ⟨w.heap.size, 0, none⟩) 1 [a0, a1, a2, a3, a4, a5] := by
  refine ⟨rfl, fun _ => ⟨_, rfl, by simp, fun j u hu => ?_⟩⟩
  have hb := Blk.new w t #[a0, a1, a2, a3, a4, a5]
  have : (⟨w.heap.size, 0, none⟩ : Addr).add j = ⟨w.heap.size, j, none⟩ := by unfold Addr.add; split <;> simp_all
  rw [this, hb.cell, ← hu]; simp

theorem six_one (k h : Int) (s : ByteArray) (la ka va : Option Addr) (l lc m kc p vc : Nat) : ∀ u ∈ ([.int .i64 k, .int .i64 h, .string s, .slice la l lc, .slice ka m kc, .slice va p vc] : List Value), u.oneCell' = true := by
  intro u hu
  simp at hu
  rcases hu with rfl | rfl | rfl | rfl | rfl | rfl <;> rfl
end Go.Proofs.YtmkdkcbkgngfdaaDoor
