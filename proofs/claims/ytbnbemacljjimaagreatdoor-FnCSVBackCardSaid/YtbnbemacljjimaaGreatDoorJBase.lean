/- Values as plain data: how one lies in memory, and what Fit lets in. -/
import Derived.Test.YtbnbemacljjimaaGreatDoorBase
import Derived.Test.YtbnbemacljjimaaGreatDoorProg
import Derived.Lib.ValidU
namespace Go.Proofs.YtbnbemacljjimaaGreatDoor
open Go.RowKit
set_option linter.unusedVariables false

/-- All that was there is as it was, but for the blocks of P. -/
structure Only (P : Nat → Prop) (w w' : World) : Prop where
  os : w'.os = w.os
  tape : w'.tape = w.tape
  output : w'.output = w.output
  size : w.heap.size ≤ w'.heap.size
  block : ∀ k, k < w.heap.size → ¬ P k → w'.heap[k]? = w.heap[k]?

section
variable {P Q : Nat → Prop} {a w w' : World}
theorem Only.refl (P : Nat → Prop) (w : World) : Only P w w := ⟨rfl, rfl, rfl, Nat.le_refl _, fun _ _ _ => rfl⟩
theorem Only.trans (h : Only P a w) (k : Only P w w') : Only P a w' :=
  ⟨k.os.trans h.os, k.tape.trans h.tape, k.output.trans h.output, Nat.le_trans h.size k.size, fun i hi hn => (k.block i (Nat.lt_of_lt_of_le hi h.size) hn).trans (h.block i hi hn)⟩
theorem Only.mono (h : Only P w w') (hpq : ∀ k, P k → Q k) : Only Q w w' := ⟨h.os, h.tape, h.output, h.size, fun i hi hn => h.block i hi (fun hp => hn (hpq i hp))⟩
theorem Only.drew (h : Only P a w) : Only P a w.drew := ⟨h.os, h.tape, h.output, h.size, h.block⟩
theorem Only.drewN (h : Only P a w) (n : Nat) : Only P a (w.drewN n) := ⟨h.os, h.tape, h.output, h.size, h.block⟩
theorem Only.alloc (h : Only P a w) (o : Obj) : Only P a (w.alloc o) :=
  ⟨h.os, h.tape, h.output, by have := h.size; simp; omega, fun i hi hn => (Below.heap_alloc w o i (Nat.lt_of_lt_of_le hi h.size)).trans (h.block i hi hn)⟩
theorem Only.setCell (h : Only P a w) {p : Addr} (hp : P p.block ∨ a.heap.size ≤ p.block) (u : Value) : Only P a (w.setCell p u) :=
  ⟨h.os, h.tape, h.output, by have := h.size; simpa [World.setCell] using this, fun i hi hn => (Below.heap_setCell w p u i (by rintro rfl; rcases hp with hp | hp; exact hn hp; omega)).trans (h.block i hi hn)⟩
theorem Only.grown (h : Only P a w) {row : Option Nat} (hg : w.grownBy w' row) (hr : ∀ k, row = some k → P k ∨ a.heap.size ≤ k) : Only P a w' :=
  ⟨hg.os.trans h.os, hg.tape.trans h.tape, hg.output.trans h.output, Nat.le_trans h.size hg.size, fun i hi hn => (hg.block i (Nat.lt_of_lt_of_le hi h.size) (fun e => by rcases hr i e.symm with hp | hp; exact hn hp; omega)).trans (h.block i hi hn)⟩
theorem Only.below {B : Nat} (h : Only P w w') (hB : ∀ k, P k → B ≤ k) (hs : B ≤ w.heap.size) : Below B w w' :=
  ⟨h.os, h.tape, h.output, h.size, fun k hk => h.block k (by omega) (fun hp => by have := hB k hp; omega)⟩
theorem Only.of_below {B : Nat} (h : Below B w w') (hP : ∀ k, k < w.heap.size → ¬ P k → k < B) : Only P w w' :=
  ⟨h.os, h.tape, h.output, h.size, fun k hk hn => h.block k (hP k hk hn)⟩
theorem Only.blk (h : Only P w w') {g : Nat} {t : TypeId} {cs : Array Value} (hb : Blk w g t cs) (hn : ¬ P g) : Blk w' g t cs := (h.block g hb.lt hn).trans hb
theorem Only.own (h : Only P w w') {B : Nat} {e : TypeId} {size n : Nat} {v : Value} {xs : List Value} (ho : w.ownsRow B e size v n xs) (hn : ∀ k, v.ownBlock = some k → ¬ P k) : w'.ownsRow B e size v n xs := by
  obtain ⟨h1, h2⟩ := ho
  refine ⟨h1, ?_⟩
  rcases h2 with h2 | ⟨g, cap, cur, rfl, hg, hh, r⟩
  · exact Or.inl h2
  · exact Or.inr ⟨g, cap, cur, rfl, hg, (h.blk hh (hn g rfl)), r⟩
theorem Only.cells {B : Nat} (h : Only P w w') (hB : ∀ k, P k → B ≤ k) (hs : B ≤ w.heap.size) (p : Addr) (hp : p.block < B) : w'.cell? p = w.cell? p :=
  (h.below hB hs).cell hp
end

inductive JV where
  | mk (kind half : Int) (text : ByteArray) (list : List JV) (keys : List ByteArray) (vals : List JV)
def JV.kind : JV → Int | .mk k _ _ _ _ _ => k
def JV.half : JV → Int | .mk _ h _ _ _ _ => h
def JV.text : JV → ByteArray | .mk _ _ t _ _ _ => t
def JV.list : JV → List JV | .mk _ _ _ l _ _ => l
def JV.keys : JV → List ByteArray | .mk _ _ _ _ k _ => k
def JV.vals : JV → List JV | .mk _ _ _ _ _ v => v

/-- A row of texts. -/
def StrsAt (w : World) (B : Nat) (A : Option Addr) (xs : List ByteArray) : Prop :=
  (∀ s ∈ xs, s.size ≤ 9223372036854775807) ∧ (0 < xs.length → ∃ b o, A = some ⟨b, o, none⟩ ∧ b < B ∧ ∀ i s, xs[i]? = some s → w.cell? ⟨b, o + i, none⟩ = some (.string s))

/-- A row of values, six cells each. -/
def VecAt (R : Value → JV → Prop) (w : World) (B : Nat) (A : Option Addr) (xs : List JV) : Prop :=
  0 < xs.length → ∃ b o, A = some ⟨b, o, none⟩ ∧ b < B ∧ ∀ i x, xs[i]? = some x → ∃ c0 c1 c2 c3 c4 c5, w.cell? ⟨b, o + i * 6, none⟩ = some c0 ∧ w.cell? ⟨b, o + i * 6 + 1, none⟩ = some c1 ∧
    w.cell? ⟨b, o + i * 6 + 2, none⟩ = some c2 ∧ w.cell? ⟨b, o + i * 6 + 3, none⟩ = some c3 ∧ w.cell? ⟨b, o + i * 6 + 4, none⟩ = some c4 ∧ w.cell? ⟨b, o + i * 6 + 5, none⟩ = some c5 ∧ R (.agg #[c0, c1, c2, c3, c4, c5]) x

/-- A value in memory, looked at down to a depth. -/
def JAt (w : World) (B : Nat) : Nat → Value → JV → Prop
  | 0, _, _ => True
  | n + 1, x, v => ∃ la lc ka kc va vc, x = .agg #[.int .i64 v.kind, .int .i64 v.half, .string v.text, .slice la v.list.length lc, .slice ka v.keys.length kc, .slice va v.vals.length vc] ∧
      v.list.length ≤ lc ∧ v.keys.length ≤ kc ∧ v.vals.length ≤ vc ∧ lc ≤ 9223372036854775807 ∧ kc ≤ 9223372036854775807 ∧ vc ≤ 9223372036854775807 ∧ v.text.size ≤ 9223372036854775807 ∧
      (-9223372036854775808 ≤ v.kind ∧ v.kind ≤ 9223372036854775807) ∧ (-9223372036854775808 ≤ v.half ∧ v.half ≤ 9223372036854775807) ∧
      VecAt (JAt w B n) w B la v.list ∧ StrsAt w B ka v.keys ∧ VecAt (JAt w B n) w B va v.vals

section
variable {w w' : World} {B B' : Nat}
theorem StrsAt.keep {A xs} (h : StrsAt w B A xs) (hk : ∀ p : Addr, p.block < B → w'.cell? p = w.cell? p) (hB : B ≤ B') : StrsAt w' B' A xs :=
  ⟨h.1, fun hl => by
    obtain ⟨b, o, e, hb, hc⟩ := h.2 hl
    exact ⟨b, o, e, by omega, fun i s hs => (hk _ hb).trans (hc i s hs)⟩⟩
theorem VecAt.keep {R R' : Value → JV → Prop} {A xs} (h : VecAt R w B A xs) (hk : ∀ p : Addr, p.block < B → w'.cell? p = w.cell? p) (hB : B ≤ B') (hR : ∀ x v, R x v → R' x v) : VecAt R' w' B' A xs := fun hl => by
  obtain ⟨b, o, e, hb, hc⟩ := h hl
  refine ⟨b, o, e, by omega, fun i x hx => ?_⟩
  obtain ⟨c0, c1, c2, c3, c4, c5, h0, h1, h2, h3, h4, h5, hr⟩ := hc i x hx
  exact ⟨c0, c1, c2, c3, c4, c5, (hk _ hb).trans h0, (hk _ hb).trans h1, (hk _ hb).trans h2, (hk _ hb).trans h3, (hk _ hb).trans h4, (hk _ hb).trans h5, hR _ _ hr⟩
theorem JAt.keep (hk : ∀ p : Addr, p.block < B → w'.cell? p = w.cell? p) (hB : B ≤ B') : ∀ (n : Nat) (x : Value) (v : JV), JAt w B n x v → JAt w' B' n x v
  | 0, _, _, _ => trivial
  | n + 1, x, v, h => by
    obtain ⟨la, lc, ka, kc, va, vc, e, h1, h2, h3, h4, h5, h6, h7, h8, h9, hl, hs, hv⟩ := h
    exact ⟨la, lc, ka, kc, va, vc, e, h1, h2, h3, h4, h5, h6, h7, h8, h9, hl.keep hk hB (JAt.keep hk hB n), hs.keep hk hB, hv.keep hk hB (JAt.keep hk hB n)⟩
theorem JAt.only {P : Nat → Prop} {n x v} (h : JAt w B n x v) (ho : Only P w w') (hP : ∀ k, P k → B ≤ k) (hs : B ≤ w.heap.size) : JAt w' B n x v := JAt.keep (ho.cells hP hs) (Nat.le_refl _) n x v h
end

/-- Keys that rise. -/
def Rise (ks : List ByteArray) : Prop := ∀ (i : Nat) (a b : ByteArray), ks[i]? = some a → ks[i + 1]? = some b → Op.bytesLess a.toList b.toList = true

/-- What Fit lets in, down to a depth. -/
def Good : Nat → JV → Prop
  | 0, _ => False
  | n + 1, v => (0 ≤ v.kind ∧ v.kind ≤ 6) ∧ (v.kind = 3 ∨ v.half = 0) ∧ (v.kind = 4 ∨ v.text.toList = []) ∧ (v.kind = 5 ∨ v.list = []) ∧ (v.kind = 6 ∨ v.keys = []) ∧ v.keys.length = v.vals.length ∧
      (-18014398509481984 ≤ v.half ∧ v.half ≤ 18014398509481984) ∧ (v.half.tmod 2 = 0 ∨ -9007199254740992 < v.half ∧ v.half < 9007199254740992) ∧ Lib.validD v.text.data.toList = true ∧
      v.list.length ≤ 400 ∧ v.vals.length ≤ 400 ∧ (∀ x ∈ v.list, Good n x) ∧ (∀ k ∈ v.keys, Lib.validD k.data.toList = true) ∧ Rise v.keys ∧ (∀ x ∈ v.vals, Good n x)
end Go.Proofs.YtbnbemacljjimaaGreatDoor
