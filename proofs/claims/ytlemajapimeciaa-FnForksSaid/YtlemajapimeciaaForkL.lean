/- The law of the forks: its own lists against what the machine said. -/
import Derived.Test.YtlemajapimeciaaForkH
import Derived.Deep.RegionLawGrows
namespace Go.Proofs.Ytlemajapimeciaa
open Go.RowKit
set_option linter.unusedVariables false

/-- A slice value that reads as a list of ints, over a row of ints that nobody writes. -/
def IntSl (w : World) (v : Value) (xs : List Int) : Prop :=
  ∃ ao cap, v = .slice ao xs.length cap ∧ xs.length ≤ cap ∧ (0 < xs.length → ∃ g, ao = some ⟨g, 0, none⟩ ∧ ∃ cs, Blk w g 3 cs ∧ ∀ (j : Nat) x, xs[j]? = some x → cs[j]? = some (.int .i64 x))

theorem intSl_nil (w : World) : IntSl w (.slice none 0 0) [] := ⟨none, 0, rfl, Nat.zero_le _, fun h => absurd h (by simp)⟩

def Keep3 (w w' : World) : Prop := ∀ g cs, Blk w g 3 cs → Blk w' g 3 cs
theorem IntSl.keep {w w' : World} {v : Value} {xs : List Int} (h : IntSl w v xs) (hk : Keep3 w w') : IntSl w' v xs := by
  obtain ⟨ao, cap, h1, h2, h3⟩ := h
  refine ⟨ao, cap, h1, h2, fun hp => ?_⟩
  obtain ⟨g, hg, cs, hb, hc⟩ := h3 hp
  exact ⟨g, hg, cs, hk g cs hb, hc⟩
theorem IntSl.of_own {w : World} {B n : Nat} {v : Value} {xs : List Int} (h : w.ownsRow B 3 1 v n (xs.map (Value.int .i64))) (hn : n = xs.length) : IntSl w v xs := by
  subst hn
  rcases h.2 with ⟨rfl, h0⟩ | ⟨g, cap, cur, rfl, _, hh, hnc, _, hsz, ht⟩
  · exact ⟨none, 0, by rw [h0], by omega, fun hp => by omega⟩
  · refine ⟨_, _, rfl, hnc, fun hp => ⟨g, rfl, cur, hh, fun j x hx => ?_⟩⟩
    have hj : j < xs.length := (List.getElem?_eq_some_iff.1 hx).1
    have h2 : (cur.toList.take (xs.length * 1))[j]? = (xs.map (Value.int .i64))[j]? := by rw [ht]
    rw [List.getElem?_take_of_lt (by omega)] at h2
    simpa [hx] using h2

def fkCells (es : List (Value × Value × Kept)) : List Value := es.reverse.flatMap fun e => [e.1, e.2.1, .int .i64 e.2.2.mark]

structure LRound (w wr : World) (nb ob : Nat) (f : Value) (S : SS) (all : List (Bool × Int)) : Prop where
  below : Below w.heap.size w wr
  out : Blk wr ob 35 (saidCells all).toArray
  now : ∃ c0 c1, Blk wr nb 32 #[c0, c1, .int .i64 S.now.mark] ∧ IntSl wr c0 S.now.st.reverse ∧ IntSl wr c1 S.now.pa.reverse
  fks : ∃ es : List (Value × Value × Kept), es.map (·.2.2) = S.fk ∧ wr.ownsRow w.heap.size 32 3 f es.length (fkCells es) ∧ ∀ e ∈ es, IntSl wr e.1 e.2.2.st.reverse ∧ IntSl wr e.2.1 e.2.2.pa.reverse
  sep : f.ownBlock ≠ some nb
  lo : w.heap.size ≤ nb

theorem fkCells_cons (e : Value × Value × Kept) (r : List (Value × Value × Kept)) : fkCells (e :: r) = fkCells r ++ [e.1, e.2.1, .int .i64 e.2.2.mark] := by simp [fkCells]
theorem fkCells_length : ∀ es : List (Value × Value × Kept), (fkCells es).length = es.length * 3
  | [] => rfl
  | e :: r => by rw [fkCells_cons, List.length_append, fkCells_length r]; simp; omega

theorem LRound.only {w wr W : World} {nb ob : Nat} {f : Value} {S : SS} {all : List (Bool × Int)} (h : LRound w wr nb ob f S all) {P : Nat → Prop} (ho : Only P wr W) (hp : ∀ k, P k → w.heap.size ≤ k ∧ k ≠ ob ∧ k ≠ nb ∧ f.ownBlock ≠ some k ∧ ∀ cs, ¬ Blk wr k 3 cs) : LRound w W nb ob f S all := by
  obtain ⟨c0, c1, hb, h0, h1⟩ := h.now
  obtain ⟨es, e1, e2, e3⟩ := h.fks
  have hk : Keep3 wr W := fun g cs hg => ho.blk hg fun hpk => (hp g hpk).2.2.2.2 cs hg
  exact ⟨h.below.trans (ho.below (fun k hk => (hp k hk).1) h.below.size), ho.blk h.out (fun hpk => (hp _ hpk).2.1 rfl), ⟨c0, c1, ho.blk hb (fun hpk => (hp _ hpk).2.2.1 rfl), h0.keep hk, h1.keep hk⟩,
    ⟨es, e1, ho.own e2 (fun k hk hpk => (hp k hpk).2.2.2.1 hk), fun e he => ⟨(e3 e he).1.keep hk, (e3 e he).2.keep hk⟩⟩, h.sep, h.lo⟩

theorem LRound.drew {w wr : World} {nb ob : Nat} {f : Value} {S : SS} {all : List (Bool × Int)} (h : LRound w wr nb ob f S all) : LRound w wr.drew nb ob f S all :=
  h.only (P := fun _ => False) ((Only.refl _ wr).drew) (fun _ h => h.elim)

/-- The want's block is new. -/
theorem LRound.want {w wr : World} {nb ob : Nat} {f : Value} {S : SS} {all : List (Bool × Int)} (h : LRound w wr nb ob f S all) : LRound w (wr.alloc (.cells #[.bool false, .int .i64 0] 35)).drew nb ob f S all :=
  h.only (P := fun _ => False) (((Only.refl _ wr).alloc _).drew) (fun _ h => h.elim)

theorem lr_far {w wr : World} {nb ob q : Nat} {f : Value} {S : SS} {all : List (Bool × Int)} (h : LRound w wr nb ob f S all) {cs : Array Value} (hq : Blk wr q 35 cs) (hqo : q ≠ ob) (hlo : w.heap.size ≤ q) : ∀ k, k = q → w.heap.size ≤ k ∧ k ≠ ob ∧ k ≠ nb ∧ f.ownBlock ≠ some k ∧ ∀ cs, ¬ Blk wr k 3 cs := by
  rintro k rfl
  obtain ⟨c0, c1, hb, h0, h1⟩ := h.now
  obtain ⟨es, e1, e2, e3⟩ := h.fks
  exact ⟨hlo, hqo, hq.ne_ hb (by decide), own_blk_ne e2 hq (by decide), fun cs hc => hq.ne_ hc (by decide) rfl⟩

/-- A new list of ints for one of both. -/
theorem lr_set {w W0 W : World} {nb ob : Nat} {f : Value} {S S' : SS} {all : List (Bool × Int)} {P : Nat → Prop} (h : LRound w W0 nb ob f S all) (ho : Only P W0 W) (hp : ∀ k, P k → k = nb) {c0 c1 : Value} (hb : Blk W nb 32 #[c0, c1, .int .i64 S'.now.mark])
    (h0 : IntSl W c0 S'.now.st.reverse) (h1 : IntSl W c1 S'.now.pa.reverse) (hf : S'.fk = S.fk) : LRound w W nb ob f S' all ∧ ∀ g t cs, t ≠ 32 → Blk W0 g t cs → Blk W g t cs := by
  obtain ⟨c0', c1', hb', _, _⟩ := h.now
  obtain ⟨es, e1, e2, e3⟩ := h.fks
  have hk : ∀ g t cs, t ≠ 32 → Blk W0 g t cs → Blk W g t cs := fun g t cs ht hg => ho.blk hg fun hpk => hg.ne_ hb' ht (hp g hpk)
  have hk3 : Keep3 W0 W := fun g cs hg => hk g 3 cs (by decide) hg
  refine ⟨⟨h.below.trans (ho.below (fun k hk => (hp k hk) ▸ h.lo) h.below.size), hk _ _ _ (by decide) h.out, ⟨c0, c1, hb, h0, h1⟩, ⟨es, e1.trans hf.symm, ho.own e2 (fun k hk hpk => h.sep (hp k hpk ▸ hk)), fun e he => ⟨(e3 e he).1.keep hk3, (e3 e he).2.keep hk3⟩⟩, h.sep, h.lo⟩, hk⟩

theorem reads_new1 (w : World) (a : Value) (t : TypeId) : ∀ j u, [a][j]? = some u → (w.alloc (.cells #[a] t)).drew.cell? ((⟨w.heap.size, 0, none⟩ : Addr).add j) = some u := by
  intro j u hu
  have hb : Blk (w.alloc (.cells #[a] t)).drew w.heap.size t #[a] := Blk.new w t #[a]
  have : (⟨w.heap.size, 0, none⟩ : Addr).add j = ⟨w.heap.size, j, none⟩ := by unfold Addr.add; split <;> simp_all
  rw [this, hb.cell, ← hu]; simp

theorem reads_new3 (w : World) (a b c : Value) (t : TypeId) : Reads (w.alloc (.cells #[a, b, c] t)).drew (w.heap.size + 1) 3 (some ⟨w.heap.size, 0, none⟩) 1 [a, b, c] := by
  refine ⟨rfl, fun _ => ⟨_, rfl, by simp, fun j u hu => ?_⟩⟩
  have hb : Blk (w.alloc (.cells #[a, b, c] t)).drew w.heap.size t #[a, b, c] := Blk.new w t #[a, b, c]
  have : (⟨w.heap.size, 0, none⟩ : Addr).add j = ⟨w.heap.size, j, none⟩ := by unfold Addr.add; split <;> simp_all
  rw [this, hb.cell, ← hu]; simp

theorem ints_at {w : World} {ao : Option Addr} {xs : List Int} (h : 0 < xs.length → ∃ g, ao = some ⟨g, 0, none⟩ ∧ ∃ cs, Blk w g 3 cs ∧ ∀ (j : Nat) x, xs[j]? = some x → cs[j]? = some (.int .i64 x)) :
    ∀ b, ao = some b → ∀ j u, (xs.map (Value.int .i64))[j]? = some u → w.cell? (b.add j) = some u := by
  intro b hb j u hu
  obtain ⟨x, hx, rfl⟩ : ∃ x, xs[j]? = some x ∧ Value.int .i64 x = u := by simpa [List.getElem?_map] using hu
  have hj : j < xs.length := (List.getElem?_eq_some_iff.1 hx).1
  obtain ⟨g, hg, cs, hbk, hc⟩ := h (by omega)
  rw [hg] at hb
  injection hb with hb
  subst hb
  have : (⟨g, 0, none⟩ : Addr).add j = ⟨g, j, none⟩ := by unfold Addr.add; split <;> simp_all
  rw [this, hbk.cell]
  exact hc j x hx

/-- A push onto the first list. -/
theorem lr_push0 {w W0 w2 : World} {nb ob c : Nat} {f : Value} {st pa : List Int} {mk v : Int} {fk : List Kept} {all : List (Bool × Int)} {o : Obj} {a : Option Addr} (h : LRound w W0 nb ob f ⟨⟨st, pa, mk⟩, fk⟩ all)
    (hg : (W0.alloc o).drew.grownBy w2 none) (hown : w2.ownsRow (W0.alloc o).drew.heap.size 3 1 (.slice a (st.length + 1) c) (st.length + 1) (st.reverse.map (Value.int .i64) ++ [.int .i64 v])) :
    LRound w (w2.setCell ⟨nb, 0, none⟩ (.slice a (st.length + 1) c)) nb ob f ⟨⟨v :: st, pa, mk⟩, fk⟩ all ∧ ∀ g t cs, t ≠ 32 → Blk W0 g t cs → Blk (w2.setCell ⟨nb, 0, none⟩ (.slice a (st.length + 1) c)) g t cs := by
  have o1 : Only (fun k => k = nb) W0 w2 := (((Only.refl (fun k => k = nb) W0).alloc o).drew).grown hg (fun k hk => by cases hk)
  have o2 := o1.setCell (p := ⟨nb, 0, none⟩) (Or.inl rfl) (.slice a (st.length + 1) c)
  have o1' : Only (fun _ => False) W0 w2 := (((Only.refl (fun _ => False) W0).alloc o).drew).grown hg (fun k hk => by cases hk)
  obtain ⟨c0, c1, hb, h0, h1⟩ := h.now
  have hb2 := o1'.blk hb (fun h => h)
  have hk3 : Keep3 W0 (w2.setCell ⟨nb, 0, none⟩ (.slice a (st.length + 1) c)) := fun g cs hg' => (o1'.blk hg' (fun h => h)).far (hg'.ne_ hb (by decide)) _
  have h2 : IntSl w2 (.slice a (st.length + 1) c) (v :: st).reverse := IntSl.of_own (by simpa using hown) (by simp)
  have hk3' : Keep3 w2 (w2.setCell ⟨nb, 0, none⟩ (.slice a (st.length + 1) c)) := fun g cs hg' => hg'.far (hg'.ne_ hb2 (by decide)) _
  have hb3 := hb2.set_ 0 (.slice a (st.length + 1) c)
  exact lr_set h o2 (fun k hk => hk) (c0 := .slice a (st.length + 1) c) (c1 := c1) hb3 (h2.keep hk3') (h1.keep hk3) rfl

/-- A push onto the second list. -/
theorem lr_push1 {w W0 w2 : World} {nb ob c : Nat} {f : Value} {st pa : List Int} {mk v : Int} {fk : List Kept} {all : List (Bool × Int)} {o : Obj} {a : Option Addr} (h : LRound w W0 nb ob f ⟨⟨st, pa, mk⟩, fk⟩ all)
    (hg : (W0.alloc o).drew.grownBy w2 none) (hown : w2.ownsRow (W0.alloc o).drew.heap.size 3 1 (.slice a (pa.length + 1) c) (pa.length + 1) (pa.reverse.map (Value.int .i64) ++ [.int .i64 v])) :
    LRound w (w2.setCell ⟨nb, 1, none⟩ (.slice a (pa.length + 1) c)) nb ob f ⟨⟨st, v :: pa, mk⟩, fk⟩ all ∧ ∀ g t cs, t ≠ 32 → Blk W0 g t cs → Blk (w2.setCell ⟨nb, 1, none⟩ (.slice a (pa.length + 1) c)) g t cs := by
  have o1 : Only (fun k => k = nb) W0 w2 := (((Only.refl (fun k => k = nb) W0).alloc o).drew).grown hg (fun k hk => by cases hk)
  have o2 := o1.setCell (p := ⟨nb, 1, none⟩) (Or.inl rfl) (.slice a (pa.length + 1) c)
  have o1' : Only (fun _ => False) W0 w2 := (((Only.refl (fun _ => False) W0).alloc o).drew).grown hg (fun k hk => by cases hk)
  obtain ⟨c0, c1, hb, h0, h1⟩ := h.now
  have hb2 := o1'.blk hb (fun h => h)
  have hk3 : Keep3 W0 (w2.setCell ⟨nb, 1, none⟩ (.slice a (pa.length + 1) c)) := fun g cs hg' => (o1'.blk hg' (fun h => h)).far (hg'.ne_ hb (by decide)) _
  have h2 : IntSl w2 (.slice a (pa.length + 1) c) (v :: pa).reverse := IntSl.of_own (by simpa using hown) (by simp)
  have hk3' : Keep3 w2 (w2.setCell ⟨nb, 1, none⟩ (.slice a (pa.length + 1) c)) := fun g cs hg' => hg'.far (hg'.ne_ hb2 (by decide)) _
  have hb3 := hb2.set_ 1 (.slice a (pa.length + 1) c)
  exact lr_set h o2 (fun k hk => hk) (c0 := c0) (c1 := .slice a (pa.length + 1) c) hb3 (h0.keep hk3) (h2.keep hk3') rfl

theorem IntSl.pop {w : World} {ao : Option Addr} {c : Nat} {x : Int} {r : List Int} (h : IntSl w (.slice ao (r.length + 1) c) (x :: r).reverse) : IntSl w (.slice ao r.length c) r.reverse := by
  obtain ⟨ao', cap, h1, h2, h3⟩ := h
  simp only [List.length_reverse, List.length_cons] at h1 h2
  injection h1 with e1 e2 e3
  subst e1 e3
  refine ⟨ao, c, by simp, by simp; omega, fun hp => ?_⟩
  obtain ⟨g, hg, cs, hb, hc⟩ := h3 (by simp)
  refine ⟨g, hg, cs, hb, fun j y hy => hc j y ?_⟩
  have hj : j < r.reverse.length := (List.getElem?_eq_some_iff.1 hy).1
  rw [List.reverse_cons, List.getElem?_append_left hj]
  exact hy

/-- A pop of the first list. -/
theorem lr_pop0 {w W0 W1 : World} {nb ob q g c : Nat} {f : Value} {pa r : List Int} {mk x : Int} {fk : List Kept} {all : List (Bool × Int)} (h : LRound w W0 nb ob f ⟨⟨x :: r, pa, mk⟩, fk⟩ all) (hq : Blk W0 q 35 #[.bool false, .int .i64 0]) (hqo : q ≠ ob) (hlo : w.heap.size ≤ q) (hnq : nb < q)
    (hW : W1 = ((W0.setCell ⟨q, 0, none⟩ (.bool true)).setCell ⟨q, 1, none⟩ (.int .i64 x)).setCell ⟨nb, 0, none⟩ (.slice (some ⟨g, 0, none⟩) r.length c)) (hk : W0.cell? ⟨nb, 0, none⟩ = some (.slice (some ⟨g, 0, none⟩) (r.length + 1) c)) :
    LRound w W1 nb ob f ⟨⟨r, pa, mk⟩, fk⟩ all ∧ Blk W1 q 35 #[.bool true, .int .i64 x] := by
  subst hW
  have o1 : Only (fun k => k = q) W0 ((W0.setCell ⟨q, 0, none⟩ (.bool true)).setCell ⟨q, 1, none⟩ (.int .i64 x)) := ((Only.refl (fun k => k = q) W0).setCell (p := ⟨q, 0, none⟩) (Or.inl rfl) (.bool true)).setCell (p := ⟨q, 1, none⟩) (Or.inl rfl) (.int .i64 x)
  have h1 := h.only o1 (lr_far h hq hqo hlo)
  have hq1 : Blk ((W0.setCell ⟨q, 0, none⟩ (.bool true)).setCell ⟨q, 1, none⟩ (.int .i64 x)) q 35 #[.bool true, .int .i64 x] := (hq.set_ 0 (.bool true)).set_ 1 (.int .i64 x)
  generalize ((W0.setCell ⟨q, 0, none⟩ (.bool true)).setCell ⟨q, 1, none⟩ (.int .i64 x)) = W at o1 h1 hq1 ⊢
  obtain ⟨c0, c1, hb, h0, h2⟩ := h1.now
  have hkW : W.cell? ⟨nb, 0, none⟩ = some (.slice (some ⟨g, 0, none⟩) (r.length + 1) c) := by
    obtain ⟨d0, d1, hb0, _⟩ := h.now
    exact (World.cell?_of_block (w := W0) (o1.block nb hb0.lt (by omega))).trans hk
  have hc : c0 = .slice (some ⟨g, 0, none⟩) (r.length + 1) c := by
    rw [hb.cell] at hkW
    simpa using hkW
  subst hc
  have hn : IntSl W (.slice (some ⟨g, 0, none⟩) r.length c) r.reverse := h0.pop
  have o2 : Only (fun k => k = nb) W (W.setCell ⟨nb, 0, none⟩ (.slice (some ⟨g, 0, none⟩) r.length c)) := (Only.refl (fun k => k = nb) W).setCell (p := ⟨nb, 0, none⟩) (Or.inl rfl) _
  have hk3 : Keep3 W (W.setCell ⟨nb, 0, none⟩ (.slice (some ⟨g, 0, none⟩) r.length c)) := fun g' cs hg' => hg'.far (hg'.ne_ hb (by decide)) _
  obtain ⟨r1, kp⟩ := lr_set (S' := ⟨⟨r, pa, mk⟩, fk⟩) h1 o2 (fun k hk => hk) (c0 := .slice (some ⟨g, 0, none⟩) r.length c) (c1 := c1) (hb.set_ 0 _) (hn.keep hk3) (h2.keep hk3) rfl
  exact ⟨r1, kp _ _ _ (by decide) hq1⟩

/-- A pop of the second list. -/
theorem lr_pop1 {w W0 W1 : World} {nb ob q g c : Nat} {f : Value} {st r : List Int} {mk x : Int} {fk : List Kept} {all : List (Bool × Int)} (h : LRound w W0 nb ob f ⟨⟨st, x :: r, mk⟩, fk⟩ all) (hq : Blk W0 q 35 #[.bool false, .int .i64 0]) (hqo : q ≠ ob) (hlo : w.heap.size ≤ q) (hnq : nb < q)
    (hW : W1 = ((W0.setCell ⟨q, 0, none⟩ (.bool true)).setCell ⟨q, 1, none⟩ (.int .i64 x)).setCell ⟨nb, 1, none⟩ (.slice (some ⟨g, 0, none⟩) r.length c)) (hk : W0.cell? ⟨nb, 1, none⟩ = some (.slice (some ⟨g, 0, none⟩) (r.length + 1) c)) :
    LRound w W1 nb ob f ⟨⟨st, r, mk⟩, fk⟩ all ∧ Blk W1 q 35 #[.bool true, .int .i64 x] := by
  subst hW
  have o1 : Only (fun k => k = q) W0 ((W0.setCell ⟨q, 0, none⟩ (.bool true)).setCell ⟨q, 1, none⟩ (.int .i64 x)) := ((Only.refl (fun k => k = q) W0).setCell (p := ⟨q, 0, none⟩) (Or.inl rfl) (.bool true)).setCell (p := ⟨q, 1, none⟩) (Or.inl rfl) (.int .i64 x)
  have h1 := h.only o1 (lr_far h hq hqo hlo)
  have hq1 : Blk ((W0.setCell ⟨q, 0, none⟩ (.bool true)).setCell ⟨q, 1, none⟩ (.int .i64 x)) q 35 #[.bool true, .int .i64 x] := (hq.set_ 0 (.bool true)).set_ 1 (.int .i64 x)
  generalize ((W0.setCell ⟨q, 0, none⟩ (.bool true)).setCell ⟨q, 1, none⟩ (.int .i64 x)) = W at o1 h1 hq1 ⊢
  obtain ⟨c0, c1, hb, h0, h2⟩ := h1.now
  have hkW : W.cell? ⟨nb, 1, none⟩ = some (.slice (some ⟨g, 0, none⟩) (r.length + 1) c) := by
    obtain ⟨d0, d1, hb0, _⟩ := h.now
    exact (World.cell?_of_block (w := W0) (o1.block nb hb0.lt (by omega))).trans hk
  have hc : c1 = .slice (some ⟨g, 0, none⟩) (r.length + 1) c := by
    rw [hb.cell] at hkW
    simpa using hkW
  subst hc
  have hn : IntSl W (.slice (some ⟨g, 0, none⟩) r.length c) r.reverse := h2.pop
  have o2 : Only (fun k => k = nb) W (W.setCell ⟨nb, 1, none⟩ (.slice (some ⟨g, 0, none⟩) r.length c)) := (Only.refl (fun k => k = nb) W).setCell (p := ⟨nb, 1, none⟩) (Or.inl rfl) _
  have hk3 : Keep3 W (W.setCell ⟨nb, 1, none⟩ (.slice (some ⟨g, 0, none⟩) r.length c)) := fun g' cs hg' => hg'.far (hg'.ne_ hb (by decide)) _
  obtain ⟨r1, kp⟩ := lr_set (S' := ⟨⟨st, r, mk⟩, fk⟩) h1 o2 (fun k hk => hk) (c0 := c0) (c1 := .slice (some ⟨g, 0, none⟩) r.length c) (hb.set_ 1 _) (h0.keep hk3) (hn.keep hk3) rfl
  exact ⟨r1, kp _ _ _ (by decide) hq1⟩

theorem lr_fork {w W0 w2 : World} {nb ob cf : Nat} {ao : Option Addr} {st pa : List Int} {mk v : Int} {fk : List Kept} {all : List (Bool × Int)} {o : Obj} {s0 s1 v' : Value} {es : List (Value × Value × Kept)} (h : LRound w W0 nb ob (.slice ao es.length cf) ⟨⟨st, pa, mk⟩, fk⟩ all)
    (k0 : W0.cell? ⟨nb, 0, none⟩ = some s0) (k1 : W0.cell? ⟨nb, 1, none⟩ = some s1) (hes : es.map (·.2.2) = fk) (hown : W0.ownsRow w.heap.size 32 3 (.slice ao es.length cf) es.length (fkCells es)) (hsl : ∀ e ∈ es, IntSl W0 e.1 e.2.2.st.reverse ∧ IntSl W0 e.2.1 e.2.2.pa.reverse)
    (hg : (W0.alloc o).drew.grownBy w2 (Value.slice ao es.length cf).ownBlock) (hown' : w2.ownsRow w.heap.size 32 3 v' (es.length + 1) (fkCells es ++ [s0, s1, .int .i64 v]))
    (hno : v'.ownBlock = (Value.slice ao es.length cf).ownBlock ∨ v'.ownBlock = some (W0.alloc o).drew.heap.size) :
    LRound w w2 nb ob v' ⟨⟨st, pa, mk⟩, ⟨st, pa, v⟩ :: fk⟩ all ∧ ∀ g t cs, t ≠ 32 → Blk W0 g t cs → Blk w2 g t cs := by
  have o1 : Only (fun k => (Value.slice ao es.length cf).ownBlock = some k) W0 w2 := (((Only.refl (fun k => (Value.slice ao es.length cf).ownBlock = some k) W0).alloc o).drew).grown hg (fun k hk => Or.inl hk)
  obtain ⟨c0, c1, hb, h0, h1⟩ := h.now
  have hk : ∀ g t cs, t ≠ 32 → Blk W0 g t cs → Blk w2 g t cs := fun g t cs ht hg' => o1.blk hg' fun hpk => ht (row_type hown hpk hg')
  have hk3 : Keep3 W0 w2 := fun g cs hg' => hk g 3 cs (by decide) hg'
  obtain rfl : c0 = s0 := by rw [hb.cell] at k0; simpa using k0
  obtain rfl : c1 = s1 := by rw [hb.cell] at k1; simpa using k1
  refine ⟨⟨h.below.trans (o1.below (fun k hk => (hown.lt k hk).1) h.below.size), hk _ _ _ (by decide) h.out, ⟨c0, c1, o1.blk hb (fun hpk => h.sep hpk), h0.keep hk3, h1.keep hk3⟩, ⟨(c0, c1, ⟨st, pa, v⟩) :: es, by simp [hes], ?_, ?_⟩, ?_, h.lo⟩, hk⟩
  · rw [fkCells_cons, List.length_cons]
    exact hown'
  · intro e he
    rcases List.mem_cons.1 he with rfl | he
    · exact ⟨h0.keep hk3, h1.keep hk3⟩
    · exact ⟨(hsl e he).1.keep hk3, (hsl e he).2.keep hk3⟩
  · rcases hno with hno | hno
    · rw [hno]; exact h.sep
    · rw [hno]
      intro he
      injection he with he
      have := hb.lt
      simp at he
      omega

theorem fk_last {w : World} {B g cf : Nat} {e0 : Value × Value × Kept} {er : List (Value × Value × Kept)} (h : w.ownsRow B 32 3 (.slice (some ⟨g, 0, none⟩) (e0 :: er).length cf) (e0 :: er).length (fkCells (e0 :: er))) :
    w.cell? ⟨g, er.length * 3, none⟩ = some e0.1 ∧ w.cell? ⟨g, er.length * 3 + 1, none⟩ = some e0.2.1 ∧ w.cell? ⟨g, er.length * 3 + 2, none⟩ = some (.int .i64 e0.2.2.mark) := by
  have hl := fkCells_length er
  have hat : ∀ j, j < 3 → w.cell? ⟨g, er.length * 3 + j, none⟩ = [e0.1, e0.2.1, .int .i64 e0.2.2.mark][j]? := by
    intro j hj
    have := h.cellAt (er.length * 3 + j) (by simp; omega)
    rw [this, fkCells_cons, List.getElem?_append_right (by omega)]
    rw [hl, show er.length * 3 + j - er.length * 3 = j by omega]
  have h0 := hat 0 (by omega)
  have h1 := hat 1 (by omega)
  have h2 := hat 2 (by omega)
  simp at h0 h1 h2
  exact ⟨h0, h1, h2⟩

theorem lr_back {w W0 W1 : World} {nb ob q g cf ca cb : Nat} {aa bb : Option Addr} {S : SS} {rk : List Kept} {all : List (Bool × Int)} {e0 : Value × Value × Kept} {er : List (Value × Value × Kept)} (h : LRound w W0 nb ob (.slice (some ⟨g, 0, none⟩) (e0 :: er).length cf) S all) (hq : Blk W0 q 35 #[.bool false, .int .i64 0]) (hqo : q ≠ ob) (hlo : w.heap.size ≤ q) (hnq : nb < q)
    (hown : W0.ownsRow w.heap.size 32 3 (.slice (some ⟨g, 0, none⟩) (e0 :: er).length cf) (e0 :: er).length (fkCells (e0 :: er))) (he2 : er.map (·.2.2) = rk) (hsl : ∀ e ∈ e0 :: er, IntSl W0 e.1 e.2.2.st.reverse ∧ IntSl W0 e.2.1 e.2.2.pa.reverse)
    (hs0 : e0.1 = .slice aa e0.2.2.st.length ca) (hs1 : e0.2.1 = .slice bb e0.2.2.pa.length cb)
    (hW : W1 = ((((W0.setCell ⟨nb, 0, none⟩ (.slice aa e0.2.2.st.length ca)).setCell ⟨nb, 1, none⟩ (.slice bb e0.2.2.pa.length cb)).setCell ⟨nb, 2, none⟩ (.int .i64 e0.2.2.mark)).setCell ⟨q, 0, none⟩ (.bool true)).setCell ⟨q, 1, none⟩ (.int .i64 e0.2.2.mark)) :
    LRound w W1 nb ob (.slice (some ⟨g, 0, none⟩) er.length cf) ⟨e0.2.2, rk⟩ all ∧ Blk W1 q 35 #[.bool true, .int .i64 e0.2.2.mark] := by
  subst hW
  obtain ⟨c0, c1, hb, h0, h1⟩ := h.now
  have o1 : Only (fun k => k = nb) W0 (((W0.setCell ⟨nb, 0, none⟩ (.slice aa e0.2.2.st.length ca)).setCell ⟨nb, 1, none⟩ (.slice bb e0.2.2.pa.length cb)).setCell ⟨nb, 2, none⟩ (.int .i64 e0.2.2.mark)) :=
    (((Only.refl (fun k => k = nb) W0).setCell (p := ⟨nb, 0, none⟩) (Or.inl rfl) _).setCell (p := ⟨nb, 1, none⟩) (Or.inl rfl) _).setCell (p := ⟨nb, 2, none⟩) (Or.inl rfl) _
  have hb1 : Blk (((W0.setCell ⟨nb, 0, none⟩ (.slice aa e0.2.2.st.length ca)).setCell ⟨nb, 1, none⟩ (.slice bb e0.2.2.pa.length cb)).setCell ⟨nb, 2, none⟩ (.int .i64 e0.2.2.mark)) nb 32 #[.slice aa e0.2.2.st.length ca, .slice bb e0.2.2.pa.length cb, .int .i64 e0.2.2.mark] := ((hb.set_ 0 _).set_ 1 _).set_ 2 _
  generalize (((W0.setCell ⟨nb, 0, none⟩ (.slice aa e0.2.2.st.length ca)).setCell ⟨nb, 1, none⟩ (.slice bb e0.2.2.pa.length cb)).setCell ⟨nb, 2, none⟩ (.int .i64 e0.2.2.mark)) = W at o1 hb1 ⊢
  have hk : ∀ g t cs, t ≠ 32 → Blk W0 g t cs → Blk W g t cs := fun g t cs ht hg => o1.blk hg fun hpk => hg.ne_ hb ht hpk
  have hk3 : Keep3 W0 W := fun g cs hg => hk g 3 cs (by decide) hg
  have hgn : g ≠ nb := fun he => h.sep (by simp [Value.ownBlock, he])
  have hw1 := o1.own hown (fun k hk hkn => by simp [Value.ownBlock] at hk; omega)
  rw [fkCells_cons] at hw1
  have hw2 : W.ownsRow w.heap.size 32 3 (.slice (some ⟨g, 0, none⟩) er.length cf) er.length (fkCells er) := ownsRow_pop (fkCells_length er) hw1
  obtain ⟨i0, i1⟩ := hsl e0 (by simp)
  rw [hs0] at i0
  rw [hs1] at i1
  have r1 : LRound w W nb ob (.slice (some ⟨g, 0, none⟩) er.length cf) ⟨e0.2.2, rk⟩ all :=
    ⟨h.below.trans (o1.below (fun k hk => hk ▸ h.lo) h.below.size), hk _ _ _ (by decide) h.out, ⟨_, _, hb1, i0.keep hk3, i1.keep hk3⟩, ⟨er, he2, hw2, fun e he => ⟨(hsl e (List.mem_cons_of_mem _ he)).1.keep hk3, (hsl e (List.mem_cons_of_mem _ he)).2.keep hk3⟩⟩, by simp [Value.ownBlock]; exact hgn, h.lo⟩
  have hqW := hk _ _ _ (by decide) hq
  have o2 : Only (fun k => k = q) W ((W.setCell ⟨q, 0, none⟩ (.bool true)).setCell ⟨q, 1, none⟩ (.int .i64 e0.2.2.mark)) := ((Only.refl (fun k => k = q) W).setCell (p := ⟨q, 0, none⟩) (Or.inl rfl) (.bool true)).setCell (p := ⟨q, 1, none⟩) (Or.inl rfl) _
  exact ⟨r1.only o2 (lr_far r1 hqW hqo hlo), (hqW.set_ 0 (.bool true)).set_ 1 _⟩

theorem lr_said {w wr : World} {nb ob j : Nat} {f : Value} {S : SS} {all : List (Bool × Int)} (h : LRound w wr nb ob f S all) {x : Bool × Int} (hx : all[j]? = some x) :
    wr.cell? ⟨ob, j * 2, none⟩ = some (.bool x.1) ∧ wr.cell? ⟨ob, j * 2 + 1, none⟩ = some (.int .i64 x.2) := by
  obtain ⟨h1, h2⟩ := saidCells_at _ _ _ hx
  refine ⟨?_, ?_⟩
  · rw [h.out.cell]; simpa using h1
  · rw [h.out.cell]; simpa using h2

theorem Try.info3 : (Try.prog.info? 3).map (fun i => (i.zero, i.size, i.bytes)) = some (some (.int .i64 0), 1, 8) := by kernel_rfl
theorem Try.info32 : (Try.prog.info? 32).map (fun i => (i.zero, i.size, i.bytes)) = some (some (.agg #[.slice none 0 0, .slice none 0 0, .int .i64 0]), 3, 56) := by kernel_rfl

set_option maxHeartbeats 8000000 in
set_option maxRecDepth 100000 in
theorem lawForks_any (w : World) (ao : Option Addr) (cap : Nat) (xs : List (Int × Int)) (hm : xs.length ≤ 9223372036854775807) (hl : 0 < xs.length → ∃ b o, ao = some ⟨b, o, none⟩ ∧ OpList w w.heap.size b o xs) :
    Calls Try.prog 4 #[.slice ao xs.length cap] w fun e w' => e = .returned (.bool true) ∧ Below w.heap.size w w' := by
  by_cases hbig : 2147483647 < xs.length
  · go_enter Try.func4, Try.ntmps4
    go_wp2
    go_ret
    exact ⟨rfl, Below.refl _ _⟩
  by_cases h1000 : 1000 < xs.length
  · go_enter Try.func4, Try.ntmps4
    go_wp2
    go_ret
    exact ⟨rfl, Below.refl _ _⟩
  obtain ⟨i3, hi3, hz3, hs3, hb3⟩ := info_parts Try.info3
  obtain ⟨i5, hi5, hz5, hs5, hb5⟩ := info_parts Try.info32
  have HL := Lib.hid hl
  have hlen : xs.length ≤ 1000 := by omega
  clear hl
  go_enter Try.func4, Try.ntmps4
  go_wp2_with (go_at_call 6; refine (forks_any _ ao cap xs HL.out hlen).mono ?_; rintro e w1 ⟨ob, rfl, hout, hob, hb1⟩)
  have hnb : Blk (w1.alloc (.cells #[.slice none 0 0, .slice none 0 0, .int .i64 0] 32)) w1.heap.size 32 #[.slice none 0 0, .slice none 0 0, .int .i64 0] := Blk.new _ _ _
  go_loopw [5, 6] (fun f i wr => ∃ j : Nat, i = .int .i64 j ∧ j ≤ xs.length ∧ LRound w wr w1.heap.size ob f (srun (xs.take j)).1 (mrun xs).2) (fun _ i _ => xs.length - (intOf i).toNat)
  case atStart => exact ⟨0, rfl, Nat.zero_le _, ⟨hb1.alloc hb1.size _, hout.alloc _, ⟨_, _, hnb, intSl_nil _, intSl_nil _⟩, ⟨[], rfl, World.ownsRow_nil _ _ _ _, fun _ h => by cases h⟩, by simp [Value.ownBlock], hb1.size⟩⟩
  case round =>
    obtain ⟨j, rfl, hj, hR⟩ := hrel
    by_cases hjl : j < xs.length
    · obtain ⟨b, ofs, rfl, hL⟩ := HL.out (by omega)
      obtain ⟨⟨d, v⟩, hy⟩ : ∃ y, xs[j]? = some y := ⟨_, List.getElem?_eq_getElem hjl⟩
      obtain ⟨a0, a1⟩ := (hL.below hR.below (Nat.le_refl _)).at_ j _ hy
      simp only at a0 a1
      have hat := srun_at xs j _ hy
      have hN : srun (xs.take (j + 1)) = sstep (srun (xs.take j)) (d, v) := by rw [takeq xs j _ hy, srun_snoc]
      have hsl := srun_len (xs.take j)
      rw [List.length_take, Nat.min_eq_left (by omega)] at hsl
      obtain ⟨⟨S, so⟩, hS⟩ : ∃ R, srun (xs.take j) = R := ⟨_, rfl⟩
      rw [hS] at hat hN hR hsl
      obtain ⟨⟨st, pa, mk⟩, fk⟩ := S
      simp only at hat hR hsl
      have hlst : st.length ≤ 1000 ∧ pa.length ≤ 1000 := ⟨by omega, by omega⟩
      have hlfk : fk.length ≤ 1000 := by omega
      obtain ⟨c0, c1, hnw, ⟨ao0, cap0, rfl, hc0, hx0⟩, ⟨ao1, cap1, rfl, hc1, hx1⟩⟩ := hR.now
      have hnl := hnw.lt
      have hbl := hL.lt
      have k0 := hnw.cell 0
      have k1 := hnw.cell 1
      have k2 := hnw.cell 2
      have g0 := hnw.frozen 0
      have g1 := hnw.frozen 1
      have g2 := hnw.frozen 2
      simp only [List.length_reverse] at hnw hc0 hx0 hc1 hx1
      simp at k0 k1 k2
      obtain ⟨H1, H2, H3, H4, H5, H6⟩ : Hid (LRound w wr w1.heap.size ob _ ⟨⟨st, pa, mk⟩, fk⟩ (mrun xs).2) ∧ Hid (OpList w w.heap.size b ofs xs) ∧ Hid _ ∧ Hid _ ∧ Hid _ ∧ Hid _ := ⟨hR, hL, hat, hN, hx0, hx1⟩
      clear hR hL hat hN hx0 hx1 hS hy hnw
      have hwb : b < wr.heap.size := Nat.lt_of_lt_of_le hbl H1.out.below.size
      by_cases d1 : d = 1
      · subst d1
        go_wp2
        go_region
        obtain ⟨W0, hW0⟩ : ∃ W0, W0 = (wr.alloc (.cells #[.bool false, .int .i64 0] 35)).drew := ⟨_, rfl⟩
        rw [← hW0]
        have r0 := H1.out.want
        rw [← hW0] at r0
        have z0 : wr.heap.size + 1 = W0.heap.size := by rw [hW0]; simp
        have q0 : Blk W0 wr.heap.size 35 #[.bool false, .int .i64 0] := by rw [hW0]; exact (Blk.new _ _ _).drew
        have x0 : Only (fun _ => False) wr W0 := by rw [hW0]; exact ((Only.refl _ wr).alloc _).drew
        clear hW0
        have y0 : W0.cell? ⟨b, ofs + j * 2, none⟩ = some (.int .i64 1) := (World.cell?_of_block (w := wr) (x0.block _ hwb (fun h => h))).trans a0
        have y1 : W0.cell? ⟨b, ofs + j * 2 + 1, none⟩ = some (.int .i64 v) := (World.cell?_of_block (w := wr) (x0.block _ hwb (fun h => h))).trans a1
        have hnl0 : w1.heap.size < W0.heap.size := by omega
        have hbl0 : b < W0.heap.size := by omega
        have k0' : W0.cell? ⟨w1.heap.size, 0, none⟩ = some (.slice ao0 st.length cap0) := (World.cell?_of_block (w := wr) (x0.block _ hnl (fun h => h))).trans k0
        obtain ⟨c0, c1, hnw, _, _⟩ := r0.now
        have hts : Hid (∀ o, Blk (W0.alloc o).drew w1.heap.size 32 #[c0, c1, .int .i64 mk]) := fun o => (hnw.alloc o).drew
        have p1 : Hid (∀ bb, ao0 = some bb → ∀ j u, (st.reverse.map (Value.int .i64))[j]? = some u → ((W0.alloc (.cells #[.int .i64 v] 3)).drew).cell? (bb.add j) = some u) := by
          refine ints_at fun hp => ?_
          obtain ⟨g, hg, cs, hb, hc⟩ := H5.out (by simpa using hp)
          exact ⟨g, hg, cs, ((x0.blk hb (fun h => h)).alloc _).drew, hc⟩
        have p2 : Hid (ao0 = none → st.length = 0 ∧ st.length = 0) := fun hn => by
          rcases Nat.eq_zero_or_pos st.length with h0 | h0
          · exact ⟨h0, h0⟩
          · obtain ⟨g, hg, _⟩ := H5.out h0
            rw [hg] at hn
            cases hn
        have p3 := Lib.hid (reads_new1 W0 (.int .i64 v) 3)
        have p4 : Hid (st.length < st.length + 1) := Nat.lt_succ_self _
        have p5 : Hid (st.length + 1 ≤ maxLen) := by have := hlst; unfold maxLen; show _ ≤ _; omega
        have p6 : Hid ((st.length + 1) * 8 ≤ 140737488355328) := by have := hlst; show _ ≤ _; omega
        have p7 : Hid (∀ u ∈ [Value.int .i64 v], u.oneCell' = true) := by show ∀ u ∈ [Value.int .i64 v], u.oneCell' = true; simp [Value.oneCell']
        have p8 : Hid ((st.reverse.map (Value.int .i64)).length = st.length * 1) := by show _ = _; simp
        have R0 := hide r0
        have Q0 := hide q0
        clear r0 q0 x0 hnw
        go_wp2
        go_region_law (refine step_append_grows rfl (.tmp 47) (.tmp 53) 30 rfl 3 i3 _ 1 8 Try.underlying30 hi3 hz3 hs3 hb3 rfl (Nat.zero_lt_succ _) ao0 st.length st.length (st.reverse.map (Value.int .i64)) rfl p2.out p8.out p1.out ⟨W0.heap.size, 0, none⟩ 1 1 [.int .i64 v] rfl rfl p3.out p7.out p4.out p5.out p6.out ?_; intro v' w2 hown' hg; obtain ⟨ao', cap', rfl⟩ := own_slice hown'; have hb2 := Blk.grown (hts.out _) hg (fun h => by cases h); have k2' := hb2.cell 0; have f2' := hb2.frozen 0; simp at k2')
        all_goals
          obtain ⟨r1, kp⟩ := lr_push0 (unhide R0) hg hown'
          have q1 := kp _ _ _ (by decide) (unhide Q0)
          have e3 : (mrun xs).2[j]? = some (false, 0) := H3.out
          obtain ⟨m1, m2⟩ := lr_said r1 e3
          obtain ⟨W1, hW1⟩ : ∃ W1, W1 = w2.setCell ⟨w1.heap.size, 0, none⟩ (.slice ao' (st.length + 1) cap') := ⟨_, rfl⟩
          rw [← hW1] at r1 q1 m1 m2 ⊢
          have R1 := hide r1
          have n1 := q1.cell 0
          have n2 := q1.cell 1
          simp at n1 n2
          clear hW1 r1 q1 kp e3
          go_wp2
          go_region
          all_goals
            go_wp2
            go_roundw
            case rel => exact ⟨j + 1, by go_num, by omega, by rw [H4.out]; exact (unhide R1).drew⟩
            case measure => simp [intOf]; omega
      by_cases d2 : d = 2
      · subst d2
        cases st with
        | nil =>
          go_wp2
          go_region
          obtain ⟨W0, hW0⟩ : ∃ W0, W0 = (wr.alloc (.cells #[.bool false, .int .i64 0] 35)).drew := ⟨_, rfl⟩
          rw [← hW0]
          have r0 := H1.out.want
          rw [← hW0] at r0
          have z0 : wr.heap.size + 1 = W0.heap.size := by rw [hW0]; simp
          have q0 : Blk W0 wr.heap.size 35 #[.bool false, .int .i64 0] := by rw [hW0]; exact (Blk.new _ _ _).drew
          have x0 : Only (fun _ => False) wr W0 := by rw [hW0]; exact ((Only.refl _ wr).alloc _).drew
          clear hW0
          have y0 : W0.cell? ⟨b, ofs + j * 2, none⟩ = some (.int .i64 2) := (World.cell?_of_block (w := wr) (x0.block _ hwb (fun h => h))).trans a0
          have y1 : W0.cell? ⟨b, ofs + j * 2 + 1, none⟩ = some (.int .i64 v) := (World.cell?_of_block (w := wr) (x0.block _ hwb (fun h => h))).trans a1
          have hnl0 : w1.heap.size < W0.heap.size := by omega
          have hbl0 : b < W0.heap.size := by omega
          have e3 : (mrun xs).2[j]? = some (false, 0) := H3.out
          obtain ⟨m1, m2⟩ := lr_said r0 e3
          have R1 := hide r0
          have n1 := q0.cell 0
          have n2 := q0.cell 1
          simp at n1 n2
          clear r0 q0 x0 e3
          go_wp2
          go_region
          all_goals
            go_wp2
            go_roundw
            case rel => exact ⟨j + 1, by go_num, by omega, by rw [H4.out]; exact (unhide R1).drew⟩
            case measure => simp [intOf]; omega
        | cons x r =>
          obtain ⟨g, rfl, cs, hbk, hcs⟩ := H5.out (by simp)
          have hxr := hcs r.length x (by simp)
          have hgw := hbk.lt
          have hrl : r.length ≤ 1000 := by have := hlst; simp at this; omega
          have hrc : r.length ≤ cap0 := by have := hc0; simp at this; omega
          have s0 : wr.cell? ⟨g, r.length, none⟩ = some (.int .i64 x) := by rw [hbk.cell]; exact hxr
          clear hbk hcs hxr
          go_wp2
          go_region
          obtain ⟨W0, hW0⟩ : ∃ W0, W0 = (wr.alloc (.cells #[.bool false, .int .i64 0] 35)).drew := ⟨_, rfl⟩
          rw [← hW0]
          have r0 := H1.out.want
          rw [← hW0] at r0
          have z0 : wr.heap.size + 1 = W0.heap.size := by rw [hW0]; simp
          have q0 : Blk W0 wr.heap.size 35 #[.bool false, .int .i64 0] := by rw [hW0]; exact (Blk.new _ _ _).drew
          have x0 : Only (fun _ => False) wr W0 := by rw [hW0]; exact ((Only.refl _ wr).alloc _).drew
          clear hW0
          have y0 : W0.cell? ⟨b, ofs + j * 2, none⟩ = some (.int .i64 2) := (World.cell?_of_block (w := wr) (x0.block _ hwb (fun h => h))).trans a0
          have y1 : W0.cell? ⟨b, ofs + j * 2 + 1, none⟩ = some (.int .i64 v) := (World.cell?_of_block (w := wr) (x0.block _ hwb (fun h => h))).trans a1
          have hnl0 : w1.heap.size < W0.heap.size := by omega
          have hbl0 : b < W0.heap.size := by omega
          have k0' : W0.cell? ⟨w1.heap.size, 0, none⟩ = some (.slice (some ⟨g, 0, none⟩) (r.length + 1) cap0) := (World.cell?_of_block (w := wr) (x0.block _ hnl (fun h => h))).trans k0
          have s0' : W0.cell? ⟨g, r.length, none⟩ = some (.int .i64 x) := (World.cell?_of_block (w := wr) (x0.block _ hgw (fun h => h))).trans s0
          have t0 : W0.frozen? ⟨w1.heap.size, 0, none⟩ = false := (World.frozen?_of_block (w := wr) (x0.block _ hnl (fun h => h))).trans g0
          have n1 := q0.cell 0
          have n2 := q0.cell 1
          have m1 := q0.frozen 0
          have m2 := q0.frozen 1
          simp at n1 n2
          have R0 := hide r0
          have Q0 := hide q0
          clear r0 q0 x0
          go_wp2
          obtain ⟨W1, hW1⟩ : ∃ W1, W1 = ((W0.setCell ⟨wr.heap.size, 0, none⟩ (.bool true)).setCell ⟨wr.heap.size, 1, none⟩ (.int .i64 x)).setCell ⟨w1.heap.size, 0, none⟩ (.slice (some ⟨g, 0, none⟩) r.length cap0) := ⟨_, rfl⟩
          rw [← hW1]
          obtain ⟨r1, q1⟩ := lr_pop0 (unhide R0) (unhide Q0) (Nat.ne_of_gt (Nat.lt_of_lt_of_le H1.out.out.lt (Nat.le_refl _))) H1.out.below.size hnl hW1 k0'
          have e3 : (mrun xs).2[j]? = some (true, x) := H3.out
          obtain ⟨m3, m4⟩ := lr_said r1 e3
          have R1 := hide r1
          have n3 := q1.cell 0
          have n4 := q1.cell 1
          simp at n3 n4
          clear hW1 r1 q1 e3 n1 n2 m1 m2 t0 s0 s0' k0'
          go_wp2
          go_region
          all_goals
            go_wp2
            go_roundw
            case rel => exact ⟨j + 1, by go_num, by omega, by rw [H4.out]; exact (unhide R1).drew⟩
            case measure => simp [intOf]; omega
      by_cases d3 : d = 3
      · subst d3
        go_wp2
        go_region
        obtain ⟨W0, hW0⟩ : ∃ W0, W0 = (wr.alloc (.cells #[.bool false, .int .i64 0] 35)).drew := ⟨_, rfl⟩
        rw [← hW0]
        have r0 := H1.out.want
        rw [← hW0] at r0
        have z0 : wr.heap.size + 1 = W0.heap.size := by rw [hW0]; simp
        have q0 : Blk W0 wr.heap.size 35 #[.bool false, .int .i64 0] := by rw [hW0]; exact (Blk.new _ _ _).drew
        have x0 : Only (fun _ => False) wr W0 := by rw [hW0]; exact ((Only.refl _ wr).alloc _).drew
        clear hW0
        have y0 : W0.cell? ⟨b, ofs + j * 2, none⟩ = some (.int .i64 3) := (World.cell?_of_block (w := wr) (x0.block _ hwb (fun h => h))).trans a0
        have y1 : W0.cell? ⟨b, ofs + j * 2 + 1, none⟩ = some (.int .i64 v) := (World.cell?_of_block (w := wr) (x0.block _ hwb (fun h => h))).trans a1
        have hnl0 : w1.heap.size < W0.heap.size := by omega
        have hbl0 : b < W0.heap.size := by omega
        have k0' : W0.cell? ⟨w1.heap.size, 1, none⟩ = some (.slice ao1 pa.length cap1) := (World.cell?_of_block (w := wr) (x0.block _ hnl (fun h => h))).trans k1
        obtain ⟨c0, c1, hnw, _, _⟩ := r0.now
        have hts : Hid (∀ o, Blk (W0.alloc o).drew w1.heap.size 32 #[c0, c1, .int .i64 mk]) := fun o => (hnw.alloc o).drew
        have p1 : Hid (∀ bb, ao1 = some bb → ∀ j u, (pa.reverse.map (Value.int .i64))[j]? = some u → ((W0.alloc (.cells #[.int .i64 v] 3)).drew).cell? (bb.add j) = some u) := by
          refine ints_at fun hp => ?_
          obtain ⟨g, hg, cs, hb, hc⟩ := H6.out (by simpa using hp)
          exact ⟨g, hg, cs, ((x0.blk hb (fun h => h)).alloc _).drew, hc⟩
        have p2 : Hid (ao1 = none → pa.length = 0 ∧ pa.length = 0) := fun hn => by
          rcases Nat.eq_zero_or_pos pa.length with h0 | h0
          · exact ⟨h0, h0⟩
          · obtain ⟨g, hg, _⟩ := H6.out h0
            rw [hg] at hn
            cases hn
        have p3 := Lib.hid (reads_new1 W0 (.int .i64 v) 3)
        have p4 : Hid (pa.length < pa.length + 1) := Nat.lt_succ_self _
        have p5 : Hid (pa.length + 1 ≤ maxLen) := by have := hlst; unfold maxLen; show _ ≤ _; omega
        have p6 : Hid ((pa.length + 1) * 8 ≤ 140737488355328) := by have := hlst; show _ ≤ _; omega
        have p7 : Hid (∀ u ∈ [Value.int .i64 v], u.oneCell' = true) := by show ∀ u ∈ [Value.int .i64 v], u.oneCell' = true; simp [Value.oneCell']
        have p8 : Hid ((pa.reverse.map (Value.int .i64)).length = pa.length * 1) := by show _ = _; simp
        have R0 := hide r0
        have Q0 := hide q0
        clear r0 q0 x0 hnw
        go_wp2
        go_region_law (refine step_append_grows rfl (.tmp 79) (.tmp 85) 30 rfl 3 i3 _ 1 8 Try.underlying30 hi3 hz3 hs3 hb3 rfl (Nat.zero_lt_succ _) ao1 pa.length pa.length (pa.reverse.map (Value.int .i64)) rfl p2.out p8.out p1.out ⟨W0.heap.size, 0, none⟩ 1 1 [.int .i64 v] rfl rfl p3.out p7.out p4.out p5.out p6.out ?_; intro v' w2 hown' hg; obtain ⟨ao', cap', rfl⟩ := own_slice hown'; have hb2 := Blk.grown (hts.out _) hg (fun h => by cases h); have k2' := hb2.cell 1; have f2' := hb2.frozen 1; simp at k2')
        all_goals
          obtain ⟨r1, kp⟩ := lr_push1 (unhide R0) hg hown'
          have q1 := kp _ _ _ (by decide) (unhide Q0)
          have e3 : (mrun xs).2[j]? = some (false, 0) := H3.out
          obtain ⟨m1, m2⟩ := lr_said r1 e3
          obtain ⟨W1, hW1⟩ : ∃ W1, W1 = w2.setCell ⟨w1.heap.size, 1, none⟩ (.slice ao' (pa.length + 1) cap') := ⟨_, rfl⟩
          rw [← hW1] at r1 q1 m1 m2 ⊢
          have R1 := hide r1
          have n1 := q1.cell 0
          have n2 := q1.cell 1
          simp at n1 n2
          clear hW1 r1 q1 kp e3
          go_wp2
          go_region
          all_goals
            go_wp2
            go_roundw
            case rel => exact ⟨j + 1, by go_num, by omega, by rw [H4.out]; exact (unhide R1).drew⟩
            case measure => simp [intOf]; omega
      by_cases d4 : d = 4
      · subst d4
        cases pa with
        | nil =>
          go_wp2
          go_region
          obtain ⟨W0, hW0⟩ : ∃ W0, W0 = (wr.alloc (.cells #[.bool false, .int .i64 0] 35)).drew := ⟨_, rfl⟩
          rw [← hW0]
          have r0 := H1.out.want
          rw [← hW0] at r0
          have z0 : wr.heap.size + 1 = W0.heap.size := by rw [hW0]; simp
          have q0 : Blk W0 wr.heap.size 35 #[.bool false, .int .i64 0] := by rw [hW0]; exact (Blk.new _ _ _).drew
          have x0 : Only (fun _ => False) wr W0 := by rw [hW0]; exact ((Only.refl _ wr).alloc _).drew
          clear hW0
          have y0 : W0.cell? ⟨b, ofs + j * 2, none⟩ = some (.int .i64 4) := (World.cell?_of_block (w := wr) (x0.block _ hwb (fun h => h))).trans a0
          have y1 : W0.cell? ⟨b, ofs + j * 2 + 1, none⟩ = some (.int .i64 v) := (World.cell?_of_block (w := wr) (x0.block _ hwb (fun h => h))).trans a1
          have hnl0 : w1.heap.size < W0.heap.size := by omega
          have hbl0 : b < W0.heap.size := by omega
          have e3 : (mrun xs).2[j]? = some (false, 0) := H3.out
          obtain ⟨m1, m2⟩ := lr_said r0 e3
          have R1 := hide r0
          have n1 := q0.cell 0
          have n2 := q0.cell 1
          simp at n1 n2
          clear r0 q0 x0 e3
          go_wp2
          go_region
          all_goals
            go_wp2
            go_roundw
            case rel => exact ⟨j + 1, by go_num, by omega, by rw [H4.out]; exact (unhide R1).drew⟩
            case measure => simp [intOf]; omega
        | cons x r =>
          obtain ⟨g, rfl, cs, hbk, hcs⟩ := H6.out (by simp)
          have hxr := hcs r.length x (by simp)
          have hgw := hbk.lt
          have hrl : r.length ≤ 1000 := by have := hlst; simp at this; omega
          have hrc : r.length ≤ cap1 := by have := hc1; simp at this; omega
          have s0 : wr.cell? ⟨g, r.length, none⟩ = some (.int .i64 x) := by rw [hbk.cell]; exact hxr
          clear hbk hcs hxr
          go_wp2
          go_region
          obtain ⟨W0, hW0⟩ : ∃ W0, W0 = (wr.alloc (.cells #[.bool false, .int .i64 0] 35)).drew := ⟨_, rfl⟩
          rw [← hW0]
          have r0 := H1.out.want
          rw [← hW0] at r0
          have z0 : wr.heap.size + 1 = W0.heap.size := by rw [hW0]; simp
          have q0 : Blk W0 wr.heap.size 35 #[.bool false, .int .i64 0] := by rw [hW0]; exact (Blk.new _ _ _).drew
          have x0 : Only (fun _ => False) wr W0 := by rw [hW0]; exact ((Only.refl _ wr).alloc _).drew
          clear hW0
          have y0 : W0.cell? ⟨b, ofs + j * 2, none⟩ = some (.int .i64 4) := (World.cell?_of_block (w := wr) (x0.block _ hwb (fun h => h))).trans a0
          have y1 : W0.cell? ⟨b, ofs + j * 2 + 1, none⟩ = some (.int .i64 v) := (World.cell?_of_block (w := wr) (x0.block _ hwb (fun h => h))).trans a1
          have hnl0 : w1.heap.size < W0.heap.size := by omega
          have hbl0 : b < W0.heap.size := by omega
          have k0' : W0.cell? ⟨w1.heap.size, 1, none⟩ = some (.slice (some ⟨g, 0, none⟩) (r.length + 1) cap1) := (World.cell?_of_block (w := wr) (x0.block _ hnl (fun h => h))).trans k1
          have s0' : W0.cell? ⟨g, r.length, none⟩ = some (.int .i64 x) := (World.cell?_of_block (w := wr) (x0.block _ hgw (fun h => h))).trans s0
          have t0 : W0.frozen? ⟨w1.heap.size, 1, none⟩ = false := (World.frozen?_of_block (w := wr) (x0.block _ hnl (fun h => h))).trans g1
          have n1 := q0.cell 0
          have n2 := q0.cell 1
          have m1 := q0.frozen 0
          have m2 := q0.frozen 1
          simp at n1 n2
          have R0 := hide r0
          have Q0 := hide q0
          clear r0 q0 x0
          go_wp2
          obtain ⟨W1, hW1⟩ : ∃ W1, W1 = ((W0.setCell ⟨wr.heap.size, 0, none⟩ (.bool true)).setCell ⟨wr.heap.size, 1, none⟩ (.int .i64 x)).setCell ⟨w1.heap.size, 1, none⟩ (.slice (some ⟨g, 0, none⟩) r.length cap1) := ⟨_, rfl⟩
          rw [← hW1]
          obtain ⟨r1, q1⟩ := lr_pop1 (unhide R0) (unhide Q0) (Nat.ne_of_gt (Nat.lt_of_lt_of_le H1.out.out.lt (Nat.le_refl _))) H1.out.below.size hnl hW1 k0'
          have e3 : (mrun xs).2[j]? = some (true, x) := H3.out
          obtain ⟨m3, m4⟩ := lr_said r1 e3
          have R1 := hide r1
          have n3 := q1.cell 0
          have n4 := q1.cell 1
          simp at n3 n4
          clear hW1 r1 q1 e3 n1 n2 m1 m2 t0 s0 s0' k0'
          go_wp2
          go_region
          all_goals
            go_wp2
            go_roundw
            case rel => exact ⟨j + 1, by go_num, by omega, by rw [H4.out]; exact (unhide R1).drew⟩
            case measure => simp [intOf]; omega
      by_cases d5 : d = 5
      · subst d5
        go_wp2
        go_region
        obtain ⟨W0, hW0⟩ : ∃ W0, W0 = (wr.alloc (.cells #[.bool false, .int .i64 0] 35)).drew := ⟨_, rfl⟩
        rw [← hW0]
        have r0 := H1.out.want
        rw [← hW0] at r0
        have z0 : wr.heap.size + 1 = W0.heap.size := by rw [hW0]; simp
        have q0 : Blk W0 wr.heap.size 35 #[.bool false, .int .i64 0] := by rw [hW0]; exact (Blk.new _ _ _).drew
        have x0 : Only (fun _ => False) wr W0 := by rw [hW0]; exact ((Only.refl _ wr).alloc _).drew
        clear hW0
        have y0 : W0.cell? ⟨b, ofs + j * 2, none⟩ = some (.int .i64 5) := (World.cell?_of_block (w := wr) (x0.block _ hwb (fun h => h))).trans a0
        have y1 : W0.cell? ⟨b, ofs + j * 2 + 1, none⟩ = some (.int .i64 v) := (World.cell?_of_block (w := wr) (x0.block _ hwb (fun h => h))).trans a1
        have hnl0 : w1.heap.size < W0.heap.size := by omega
        have hbl0 : b < W0.heap.size := by omega
        have k0' : W0.cell? ⟨w1.heap.size, 0, none⟩ = some (.slice ao0 st.length cap0) := (World.cell?_of_block (w := wr) (x0.block _ hnl (fun h => h))).trans k0
        have k1' : W0.cell? ⟨w1.heap.size, 1, none⟩ = some (.slice ao1 pa.length cap1) := (World.cell?_of_block (w := wr) (x0.block _ hnl (fun h => h))).trans k1
        obtain ⟨es, hes, hown, hsl'⟩ := r0.fks
        obtain ⟨ao, cf, rfl⟩ := own_slice hown
        have hel : es.length ≤ 1000 := by have := congrArg List.length hes; simp at this; omega
        have p1 : Hid (∀ o, (W0.alloc o).drew.ownsRow w.heap.size 32 3 (.slice ao es.length cf) es.length (fkCells es)) := fun o => hown.alloc o
        have p2 : Hid (Reads (W0.alloc (.cells #[.slice ao0 st.length cap0, .slice ao1 pa.length cap1, .int .i64 v] 32)).drew (W0.heap.size + 1) 3 (some ⟨W0.heap.size, 0, none⟩) 1 [.slice ao0 st.length cap0, .slice ao1 pa.length cap1, .int .i64 v]) := reads_new3 W0 _ _ _ _
        have p3 : Hid (∀ u ∈ [Value.slice ao0 st.length cap0, .slice ao1 pa.length cap1, .int .i64 v], u.oneCell' = true) := by show ∀ u ∈ [Value.slice ao0 st.length cap0, .slice ao1 pa.length cap1, .int .i64 v], u.oneCell' = true; simp [Value.oneCell']
        have p5 : Hid (es.length + 1 ≤ maxLen) := by unfold maxLen; show _ ≤ _; omega
        have p6 : Hid ((es.length + 1) * 56 ≤ 140737488355328) := by show _ ≤ _; omega
        have hls := r0.below.size
        have p7 : Hid (∀ o, w.heap.size ≤ (W0.alloc o).drew.heap.size) := fun o => by simp; omega
        have R0 := hide r0
        have Q0 := hide q0
        have HSL := Lib.hid hsl'
        have HOW := Lib.hid hown
        have HES := Lib.hid hes
        clear r0 q0 x0 hown hes hsl'
        go_wp2
        go_region_law (refine step_append_any _ rfl (.tmp 107) (.tmp 118) 33 rfl w.heap.size 32 i5 _ 3 56 Try.underlying33 hi5 hz5 hs5 hb5 rfl (Nat.zero_lt_succ _) (.slice ao es.length cf) es.length (fkCells es) rfl (p1.out _) (W0.heap.size + 1) (some ⟨W0.heap.size, 0, none⟩) 1 1 [.slice ao0 st.length cap0, .slice ao1 pa.length cap1, .int .i64 v] rfl p2.out p3.out p5.out p6.out (p7.out _) ?_; intro v' w2 hown' hg hno)
        all_goals
          obtain ⟨r1, kp⟩ := lr_fork (unhide R0) k0' k1' HES.out HOW.out HSL.out hg hown' hno
          have q1 := kp _ _ _ (by decide) (unhide Q0)
          have e3 : (mrun xs).2[j]? = some (false, 0) := H3.out
          obtain ⟨m1, m2⟩ := lr_said r1 e3
          have R1 := hide r1
          have n1 := q1.cell 0
          have n2 := q1.cell 1
          simp at n1 n2
          clear r1 q1 kp e3 hg hown' hno
          go_wp2
          go_region
          all_goals
            go_wp2
            go_roundw
            case rel => exact ⟨j + 1, by go_num, by omega, by rw [H4.out]; exact (unhide R1).drew⟩
            case measure => simp [intOf]; omega
      by_cases d6 : d = 6
      · subst d6
        cases fk with
        | nil =>
          go_wp2
          go_region
          obtain ⟨W0, hW0⟩ : ∃ W0, W0 = (wr.alloc (.cells #[.bool false, .int .i64 0] 35)).drew := ⟨_, rfl⟩
          rw [← hW0]
          have r0 := H1.out.want
          rw [← hW0] at r0
          have z0 : wr.heap.size + 1 = W0.heap.size := by rw [hW0]; simp
          have q0 : Blk W0 wr.heap.size 35 #[.bool false, .int .i64 0] := by rw [hW0]; exact (Blk.new _ _ _).drew
          have x0 : Only (fun _ => False) wr W0 := by rw [hW0]; exact ((Only.refl _ wr).alloc _).drew
          clear hW0
          have y0 : W0.cell? ⟨b, ofs + j * 2, none⟩ = some (.int .i64 6) := (World.cell?_of_block (w := wr) (x0.block _ hwb (fun h => h))).trans a0
          have y1 : W0.cell? ⟨b, ofs + j * 2 + 1, none⟩ = some (.int .i64 v) := (World.cell?_of_block (w := wr) (x0.block _ hwb (fun h => h))).trans a1
          have hnl0 : w1.heap.size < W0.heap.size := by omega
          have hbl0 : b < W0.heap.size := by omega
          obtain ⟨es, hes, hown, hsl' ⟩ := r0.fks
          obtain rfl : es = [] := List.map_eq_nil_iff.1 hes
          obtain ⟨ao, cf, rfl⟩ := own_slice hown
          clear hes hown hsl'
          have e3 : (mrun xs).2[j]? = some (false, 0) := H3.out
          obtain ⟨m1, m2⟩ := lr_said r0 e3
          have R1 := hide r0
          have n1 := q0.cell 0
          have n2 := q0.cell 1
          simp at n1 n2
          clear r0 q0 x0 e3
          go_wp2
          go_region
          all_goals
            go_wp2
            go_roundw
            case rel => exact ⟨j + 1, by go_num, by omega, by rw [H4.out]; exact (unhide R1).drew⟩
            case measure => simp [intOf]; omega
        | cons kk rk =>
          go_wp2
          go_region
          obtain ⟨W0, hW0⟩ : ∃ W0, W0 = (wr.alloc (.cells #[.bool false, .int .i64 0] 35)).drew := ⟨_, rfl⟩
          rw [← hW0]
          have r0 := H1.out.want
          rw [← hW0] at r0
          have z0 : wr.heap.size + 1 = W0.heap.size := by rw [hW0]; simp
          have q0 : Blk W0 wr.heap.size 35 #[.bool false, .int .i64 0] := by rw [hW0]; exact (Blk.new _ _ _).drew
          have x0 : Only (fun _ => False) wr W0 := by rw [hW0]; exact ((Only.refl _ wr).alloc _).drew
          clear hW0
          have y0 : W0.cell? ⟨b, ofs + j * 2, none⟩ = some (.int .i64 6) := (World.cell?_of_block (w := wr) (x0.block _ hwb (fun h => h))).trans a0
          have y1 : W0.cell? ⟨b, ofs + j * 2 + 1, none⟩ = some (.int .i64 v) := (World.cell?_of_block (w := wr) (x0.block _ hwb (fun h => h))).trans a1
          have hnl0 : w1.heap.size < W0.heap.size := by omega
          have hbl0 : b < W0.heap.size := by omega
          obtain ⟨es, hes, hown, hsl'⟩ := r0.fks
          obtain ⟨e0, er, rfl⟩ : ∃ e0 er, es = e0 :: er := by
            cases es with
            | nil => simp at hes
            | cons e0 er => exact ⟨e0, er, rfl⟩
          obtain ⟨g, cf, rfl, hBg, hgl⟩ := hown.form (by simp)
          obtain ⟨rfl, hes2⟩ : e0.2.2 = kk ∧ er.map (·.2.2) = rk := by simpa using hes
          have hel : er.length ≤ 1000 := by have := congrArg List.length hes2; simp at this; simp at hlfk; omega
          have hec : er.length + 1 ≤ cf := by
            rcases hown.2 with ⟨hh, _⟩ | ⟨g', cap', cur, hh, _, _, hnc, _⟩
            · simp at hh
            · injection hh with _ _ hc
              subst hc
              simpa using hnc
          obtain ⟨a3, a4, a5⟩ := fk_last hown
          have t0 : W0.frozen? ⟨w1.heap.size, 0, none⟩ = false := (World.frozen?_of_block (w := wr) (x0.block _ hnl (fun h => h))).trans g0
          have t1 : W0.frozen? ⟨w1.heap.size, 1, none⟩ = false := (World.frozen?_of_block (w := wr) (x0.block _ hnl (fun h => h))).trans g1
          have t2 : W0.frozen? ⟨w1.heap.size, 2, none⟩ = false := (World.frozen?_of_block (w := wr) (x0.block _ hnl (fun h => h))).trans g2
          have k0' : W0.cell? ⟨w1.heap.size, 0, none⟩ = some (.slice ao0 st.length cap0) := (World.cell?_of_block (w := wr) (x0.block _ hnl (fun h => h))).trans k0
          have k1' : W0.cell? ⟨w1.heap.size, 1, none⟩ = some (.slice ao1 pa.length cap1) := (World.cell?_of_block (w := wr) (x0.block _ hnl (fun h => h))).trans k1
          have k2' : W0.cell? ⟨w1.heap.size, 2, none⟩ = some (.int .i64 mk) := (World.cell?_of_block (w := wr) (x0.block _ hnl (fun h => h))).trans k2
          obtain ⟨aa, ca, bb, cb, es0, es1⟩ : ∃ aa ca bb cb, e0.1 = .slice aa e0.2.2.st.length ca ∧ e0.2.1 = .slice bb e0.2.2.pa.length cb := by
            obtain ⟨⟨aa, ca, h1, _⟩, ⟨bb, cb, h2, _⟩⟩ := hsl' e0 (by simp)
            exact ⟨aa, ca, bb, cb, by simpa using h1, by simpa using h2⟩
          rw [es0] at a3
          rw [es1] at a4
          have n1 := q0.cell 0
          have n2 := q0.cell 1
          have m1 := q0.frozen 0
          have m2 := q0.frozen 1
          simp at n1 n2
          have R0 := hide r0
          have Q0 := hide q0
          have HSL := Lib.hid hsl'
          have HOW := Lib.hid hown
          have HE2 := Lib.hid hes2
          have HS0 := Lib.hid es0
          have HS1 := Lib.hid es1
          clear r0 q0 x0 hes hes2 hown hsl' es0 es1
          go_wp2
          obtain ⟨W1, hW1⟩ : ∃ W1, W1 = ((((W0.setCell ⟨w1.heap.size, 0, none⟩ (.slice aa e0.2.2.st.length ca)).setCell ⟨w1.heap.size, 1, none⟩ (.slice bb e0.2.2.pa.length cb)).setCell ⟨w1.heap.size, 2, none⟩ (.int .i64 e0.2.2.mark)).setCell ⟨wr.heap.size, 0, none⟩ (.bool true)).setCell ⟨wr.heap.size, 1, none⟩ (.int .i64 e0.2.2.mark) := ⟨_, rfl⟩
          rw [← hW1]
          obtain ⟨r1, q1⟩ := lr_back (unhide R0) (unhide Q0) (Nat.ne_of_gt (Nat.lt_of_lt_of_le H1.out.out.lt (Nat.le_refl _))) H1.out.below.size hnl HOW.out HE2.out HSL.out HS0.out HS1.out hW1
          have e3 : (mrun xs).2[j]? = some (true, e0.2.2.mark) := H3.out
          obtain ⟨m3, m4⟩ := lr_said r1 e3
          have R1 := hide r1
          have n3 := q1.cell 0
          have n4 := q1.cell 1
          simp at n3 n4
          clear hW1 r1 q1 e3 n1 n2 m1 m2 t0 t1 t2 a3 a4 a5 k0' k1' k2'
          go_wp2
          go_region
          all_goals
            go_wp2
            go_roundw
            case rel => exact ⟨j + 1, by go_num, by omega, by rw [H4.out]; exact (unhide R1).drew⟩
            case measure => simp [intOf]; omega
      go_wp2
      go_region
      obtain ⟨W0, hW0⟩ : ∃ W0, W0 = (wr.alloc (.cells #[.bool false, .int .i64 0] 35)).drew := ⟨_, rfl⟩
      rw [← hW0]
      have r0 := H1.out.want
      rw [← hW0] at r0
      have z0 : wr.heap.size + 1 = W0.heap.size := by rw [hW0]; simp
      have q0 : Blk W0 wr.heap.size 35 #[.bool false, .int .i64 0] := by rw [hW0]; exact (Blk.new _ _ _).drew
      have x0 : Only (fun _ => False) wr W0 := by rw [hW0]; exact ((Only.refl _ wr).alloc _).drew
      clear hW0
      have y0 : W0.cell? ⟨b, ofs + j * 2, none⟩ = some (.int .i64 d) := (World.cell?_of_block (w := wr) (x0.block _ hwb (fun h => h))).trans a0
      have y1 : W0.cell? ⟨b, ofs + j * 2 + 1, none⟩ = some (.int .i64 v) := (World.cell?_of_block (w := wr) (x0.block _ hwb (fun h => h))).trans a1
      have hnl0 : w1.heap.size < W0.heap.size := by omega
      have hbl0 : b < W0.heap.size := by omega
      have e3 : (mrun xs).2[j]? = some (false, 0) := by have := H3.out; simpa [SS.step, d1, d2, d3, d4, d5, d6] using this
      have hlast : sstep (⟨⟨⟨st, pa, mk⟩, fk⟩, so⟩ : SS × List (Bool × Int)) (d, v) = (⟨⟨st, pa, mk⟩, fk⟩, so ++ [(false, 0)]) := by simp [sstep, SS.step, d1, d2, d3, d4, d5, d6]
      have HLA := Lib.hid hlast
      obtain ⟨m1, m2⟩ := lr_said r0 e3
      have R1 := hide r0
      have n1 := q0.cell 0
      have n2 := q0.cell 1
      simp at n1 n2
      clear r0 q0 x0 e3 hlast
      go_wp2
      go_region
      all_goals
        go_wp2
        go_roundw
        case rel => exact ⟨j + 1, by go_num, by omega, by rw [H4.out, HLA.out]; exact (unhide R1).drew⟩
        case measure => simp [intOf]; omega
    · go_wp2
      go_ret
      exact ⟨rfl, hR.below⟩
end Go.Proofs.Ytlemajapimeciaa
