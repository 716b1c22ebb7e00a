/- A value in memory whose blocks are among some. -/
import Derived.Test.YtbnbemacljjimaaGreatDoorStore
namespace Go.Proofs.YtbnbemacljjimaaGreatDoor
open Go.RowKit
set_option linter.unusedVariables false

def StrsP (w : World) (P : Nat → Prop) (A : Option Addr) (xs : List ByteArray) : Prop :=
  (∀ s ∈ xs, s.size ≤ 9223372036854775807) ∧ (0 < xs.length → ∃ b o, A = some ⟨b, o, none⟩ ∧ P b ∧ ∀ i s, xs[i]? = some s → w.cell? ⟨b, o + i, none⟩ = some (.string s))

def VecP (R : Value → JV → Prop) (w : World) (P : Nat → Prop) (A : Option Addr) (xs : List JV) : Prop :=
  0 < xs.length → ∃ b o, A = some ⟨b, o, none⟩ ∧ P b ∧ ∀ i x, xs[i]? = some x → ∃ c0 c1 c2 c3 c4 c5, w.cell? ⟨b, o + i * 6, none⟩ = some c0 ∧ w.cell? ⟨b, o + i * 6 + 1, none⟩ = some c1 ∧
    w.cell? ⟨b, o + i * 6 + 2, none⟩ = some c2 ∧ w.cell? ⟨b, o + i * 6 + 3, none⟩ = some c3 ∧ w.cell? ⟨b, o + i * 6 + 4, none⟩ = some c4 ∧ w.cell? ⟨b, o + i * 6 + 5, none⟩ = some c5 ∧ R (.agg #[c0, c1, c2, c3, c4, c5]) x

def JP (w : World) (P : Nat → Prop) : Nat → Value → JV → Prop
  | 0, _, _ => True
  | n + 1, x, v => ∃ la lc ka kc va vc, x = .agg #[.int .i64 v.kind, .int .i64 v.half, .string v.text, .slice la v.list.length lc, .slice ka v.keys.length kc, .slice va v.vals.length vc] ∧
      v.list.length ≤ lc ∧ v.keys.length ≤ kc ∧ v.vals.length ≤ vc ∧ lc ≤ 9223372036854775807 ∧ kc ≤ 9223372036854775807 ∧ vc ≤ 9223372036854775807 ∧ v.text.size ≤ 9223372036854775807 ∧
      (-9223372036854775808 ≤ v.kind ∧ v.kind ≤ 9223372036854775807) ∧ (-9223372036854775808 ≤ v.half ∧ v.half ≤ 9223372036854775807) ∧
      VecP (JP w P n) w P la v.list ∧ StrsP w P ka v.keys ∧ VecP (JP w P n) w P va v.vals

section
variable {w w' : World} {P Q : Nat → Prop}
theorem StrsP.keep {A xs} (h : StrsP w P A xs) (hk : ∀ p : Addr, P p.block → w'.cell? p = w.cell? p) (hB : ∀ b, P b → Q b) : StrsP w' Q A xs :=
  ⟨h.1, fun hl => by
    obtain ⟨b, o, e, hb, hc⟩ := h.2 hl
    exact ⟨b, o, e, hB b hb, fun i s hs => (hk _ hb).trans (hc i s hs)⟩⟩
theorem VecP.keep {R R' : Value → JV → Prop} {A xs} (h : VecP R w P A xs) (hk : ∀ p : Addr, P p.block → w'.cell? p = w.cell? p) (hB : ∀ b, P b → Q b) (hR : ∀ x v, R x v → R' x v) : VecP R' w' Q A xs := fun hl => by
  obtain ⟨b, o, e, hb, hc⟩ := h hl
  refine ⟨b, o, e, hB b hb, fun i x hx => ?_⟩
  obtain ⟨c0, c1, c2, c3, c4, c5, h0, h1, h2, h3, h4, h5, hr⟩ := hc i x hx
  exact ⟨c0, c1, c2, c3, c4, c5, (hk _ hb).trans h0, (hk _ hb).trans h1, (hk _ hb).trans h2, (hk _ hb).trans h3, (hk _ hb).trans h4, (hk _ hb).trans h5, hR _ _ hr⟩
theorem JP.keep (hk : ∀ p : Addr, P p.block → w'.cell? p = w.cell? p) (hB : ∀ b, P b → Q b) : ∀ (n : Nat) (x : Value) (v : JV), JP w P n x v → JP w' Q n x v
  | 0, _, _, _ => trivial
  | n + 1, x, v, h => by
    obtain ⟨la, lc, ka, kc, va, vc, e, h1, h2, h3, h4, h5, h6, h7, h8, h9, hl, hs, hv⟩ := h
    exact ⟨la, lc, ka, kc, va, vc, e, h1, h2, h3, h4, h5, h6, h7, h8, h9, hl.keep hk hB (JP.keep hk hB n), hs.keep hk hB, hv.keep hk hB (JP.keep hk hB n)⟩
theorem JP.more (hB : ∀ b, P b → Q b) {n x v} (h : JP w P n x v) : JP w Q n x v := JP.keep (fun _ _ => rfl) hB n x v h
theorem JP.jat : ∀ (n : Nat) {B : Nat} {x : Value} {v : JV}, (∀ b, P b → b < B) → JP w P n x v → JAt w B n x v
  | 0, _, _, _, _, _ => trivial
  | n + 1, B, x, v, hB, h => by
    obtain ⟨la, lc, ka, kc, va, vc, e, h1, h2, h3, h4, h5, h6, h7, h8, h9, hl, hs, hv⟩ := h
    refine ⟨la, lc, ka, kc, va, vc, e, h1, h2, h3, h4, h5, h6, h7, h8, h9, fun hp => ?_, ⟨hs.1, fun hp => ?_⟩, fun hp => ?_⟩
    · obtain ⟨b, o, e, hb, hc⟩ := hl hp
      refine ⟨b, o, e, hB b hb, fun i x hx => ?_⟩
      obtain ⟨c0, c1, c2, c3, c4, c5, g0, g1, g2, g3, g4, g5, hr⟩ := hc i x hx
      exact ⟨c0, c1, c2, c3, c4, c5, g0, g1, g2, g3, g4, g5, JP.jat n hB hr⟩
    · obtain ⟨b, o, e, hb, hc⟩ := hs.2 hp
      exact ⟨b, o, e, hB b hb, hc⟩
    · obtain ⟨b, o, e, hb, hc⟩ := hv hp
      refine ⟨b, o, e, hB b hb, fun i x hx => ?_⟩
      obtain ⟨c0, c1, c2, c3, c4, c5, g0, g1, g2, g3, g4, g5, hr⟩ := hc i x hx
      exact ⟨c0, c1, c2, c3, c4, c5, g0, g1, g2, g3, g4, g5, JP.jat n hB hr⟩
theorem JP.of_jat : ∀ (n : Nat) {B : Nat} {x : Value} {v : JV}, JAt w B n x v → JP w (· < B) n x v
  | 0, _, _, _, _ => trivial
  | n + 1, B, x, v, h => by
    obtain ⟨la, lc, ka, kc, va, vc, e, h1, h2, h3, h4, h5, h6, h7, h8, h9, hl, hs, hv⟩ := h
    refine ⟨la, lc, ka, kc, va, vc, e, h1, h2, h3, h4, h5, h6, h7, h8, h9, fun hp => ?_, ⟨hs.1, fun hp => ?_⟩, fun hp => ?_⟩
    · obtain ⟨b, o, e, hb, hc⟩ := hl hp
      refine ⟨b, o, e, hb, fun i x hx => ?_⟩
      obtain ⟨c0, c1, c2, c3, c4, c5, g0, g1, g2, g3, g4, g5, hr⟩ := hc i x hx
      exact ⟨c0, c1, c2, c3, c4, c5, g0, g1, g2, g3, g4, g5, JP.of_jat n hr⟩
    · obtain ⟨b, o, e, hb, hc⟩ := hs.2 hp
      exact ⟨b, o, e, hb, hc⟩
    · obtain ⟨b, o, e, hb, hc⟩ := hv hp
      refine ⟨b, o, e, hb, fun i x hx => ?_⟩
      obtain ⟨c0, c1, c2, c3, c4, c5, g0, g1, g2, g3, g4, g5, hr⟩ := hc i x hx
      exact ⟨c0, c1, c2, c3, c4, c5, g0, g1, g2, g3, g4, g5, JP.of_jat n hr⟩
end

/-- The blocks that a call has made. -/
def Mid (lo hi : Nat) (b : Nat) : Prop := lo ≤ b ∧ b < hi
end Go.Proofs.YtbnbemacljjimaaGreatDoor
