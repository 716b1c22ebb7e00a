/- Values as the program takes them (any): how one lies in memory. -/
import Derived.Test.YtbnbemacljjimaaGreatDoorLookD
import Derived.Maps.Own
import Derived.Test.YtbnbemacljjimaaGreatDoorFlt
namespace Go.Proofs.YtbnbemacljjimaaGreatDoor
open Go.RowKit
set_option linter.unusedVariables false

/-- An element of a map reads as itself. -/
def Rv : Value → Option (DataW Value × List MemPlace) := fun v => some (.held v, [])

/-- Block b is a map with these entries, in the order of their keys. -/
def MapIs (w : World) (b : Nat) (ents : List (ByteArray × Value)) : Prop :=
  w.ownsMap Tryz.prog 9 Rv b ents.length (.map (ents.map fun (e : ByteArray × Value) => (Lit.string e.1.data.toList, DataW.held e.2)))

/-- A value as the program takes it; its blocks are not below lo. -/
def GAt (w : World) (lo : Nat) : Nat → Value → JV → Prop
  | 0, _, _ => False
  | n + 1, x, v =>
    (v.kind = 0 ∧ x = .nilIface) ∨ (v.kind = 1 ∧ x = .iface 4 (.bool false)) ∨ (v.kind = 2 ∧ x = .iface 4 (.bool true)) ∨
    (v.kind = 3 ∧ v.half.tmod 2 = 0 ∧ x = .iface 3 (.int .i64 (v.half.tdiv 2))) ∨
    (v.kind = 3 ∧ ¬ v.half.tmod 2 = 0 ∧ x = .iface 82 (.float .f64 (halfBits v.half))) ∨
    (v.kind = 4 ∧ x = .iface 9 (.string v.text)) ∨
    (v.kind = 5 ∧ ∃ b o c, x = .iface 83 (.slice (some ⟨b, o, none⟩) v.list.length c) ∧ lo ≤ b ∧ b < w.heap.size ∧ v.list.length ≤ c ∧ c ≤ 9223372036854775807 ∧
      ∀ (i : Nat) y, v.list[i]? = some y → ∃ z, w.cell? ⟨b, o + i, none⟩ = some z ∧ GAt w lo n z y) ∨
    (v.kind = 6 ∧ ∃ (b : Nat) (ents : List (ByteArray × Value)), x = .iface 86 (.map (some b)) ∧ lo ≤ b ∧ b < w.heap.size ∧ MapIs w b ents ∧ ents.map (·.1) = v.keys ∧
      ∀ (i : Nat) y, v.vals[i]? = some y → ∃ e : ByteArray × Value, ents[i]? = some e ∧ GAt w lo n e.2 y)

theorem MapIs.only {P : Nat → Prop} {w w' : World} {b : Nat} {ents} (h : MapIs w b ents) (ho : Only P w w') (hn : ¬ P b) : MapIs w' b ents := by
  have hlt := World.ownsMap.lt h
  obtain ⟨es, clock, hb, r⟩ := h
  exact ⟨es, clock, (ho.block b hlt hn).trans hb, r⟩

theorem GAt.only {P : Nat → Prop} {w w' : World} {lo : Nat} (ho : Only P w w') (hP : ∀ k, P k → k < lo) : ∀ (n : Nat) (x : Value) (v : JV), GAt w lo n x v → GAt w' lo n x v
  | 0, _, _, h => h.elim
  | n + 1, x, v, h => by
    rcases h with h | h | h | h | h | h | h | h
    · exact Or.inl h
    · exact Or.inr (Or.inl h)
    · exact Or.inr (Or.inr (Or.inl h))
    · exact Or.inr (Or.inr (Or.inr (Or.inl h)))
    · exact Or.inr (Or.inr (Or.inr (Or.inr (Or.inl h))))
    · exact Or.inr (Or.inr (Or.inr (Or.inr (Or.inr (Or.inl h)))))
    · obtain ⟨hk, b, o, c, rfl, h1, h2, h3, h4, h5⟩ := h
      refine Or.inr (Or.inr (Or.inr (Or.inr (Or.inr (Or.inr (Or.inl ⟨hk, b, o, c, rfl, h1, Nat.lt_of_lt_of_le h2 ho.size, h3, h4, fun i y hy => ?_⟩))))))
      obtain ⟨z, hz, hg⟩ := h5 i y hy
      exact ⟨z, (World.cell?_of_block (ho.block b h2 (fun hp => by have := hP b hp; omega))).trans hz, GAt.only ho hP n _ _ hg⟩
    · obtain ⟨hk, b, ents, rfl, h1, h2, h3, h4, h5⟩ := h
      refine Or.inr (Or.inr (Or.inr (Or.inr (Or.inr (Or.inr (Or.inr ⟨hk, b, ents, rfl, h1, Nat.lt_of_lt_of_le h2 ho.size, h3.only ho (fun hp => by have := hP b hp; omega), h4, fun i y hy => ?_⟩))))))
      obtain ⟨z, hz, hg⟩ := h5 i y hy
      exact ⟨z, hz, GAt.only ho hP n _ _ hg⟩

theorem GAt.low {w : World} {lo lo' : Nat} (hl : lo' ≤ lo) : ∀ (n : Nat) (x : Value) (v : JV), GAt w lo n x v → GAt w lo' n x v
  | 0, _, _, h => h.elim
  | n + 1, x, v, h => by
    rcases h with h | h | h | h | h | h | h | h
    · exact Or.inl h
    · exact Or.inr (Or.inl h)
    · exact Or.inr (Or.inr (Or.inl h))
    · exact Or.inr (Or.inr (Or.inr (Or.inl h)))
    · exact Or.inr (Or.inr (Or.inr (Or.inr (Or.inl h))))
    · exact Or.inr (Or.inr (Or.inr (Or.inr (Or.inr (Or.inl h)))))
    · obtain ⟨hk, b, o, c, rfl, h1, h2, h3, h4, h5⟩ := h
      refine Or.inr (Or.inr (Or.inr (Or.inr (Or.inr (Or.inr (Or.inl ⟨hk, b, o, c, rfl, by omega, h2, h3, h4, fun i y hy => ?_⟩))))))
      obtain ⟨z, hz, hg⟩ := h5 i y hy
      exact ⟨z, hz, GAt.low hl n _ _ hg⟩
    · obtain ⟨hk, b, ents, rfl, h1, h2, h3, h4, h5⟩ := h
      refine Or.inr (Or.inr (Or.inr (Or.inr (Or.inr (Or.inr (Or.inr ⟨hk, b, ents, rfl, by omega, h2, h3, h4, fun i y hy => ?_⟩))))))
      obtain ⟨z, hz, hg⟩ := h5 i y hy
      exact ⟨z, hz, GAt.low hl n _ _ hg⟩

def TG (n : Nat) : Prop := ∀ (w : World) (B : Nat) (x : Value) (v : JV), JAt w B n x v → Good n v → B ≤ w.heap.size →
  Calls Tryz.prog 22 #[x] w fun e w' => ∃ y, e = .returned (.tuple #[y, .bool true]) ∧ Below w.heap.size w w' ∧ GAt w' w.heap.size n y v

def LG (n : Nat) : Prop := ∀ (w : World) (B : Nat) (A : Option Addr) (c : Nat) (xs : List JV), VecAt (JAt w B n) w B A xs → (∀ x ∈ xs, Good n x) → xs.length ≤ c → c ≤ 9223372036854775807 → xs.length ≤ 400 → B ≤ w.heap.size →
  Calls Tryz.prog 43 #[.slice A xs.length c] w fun e w' => ∃ b c', e = .returned (.tuple #[.slice (some ⟨b, 0, none⟩) xs.length c', .bool true]) ∧ Below w.heap.size w w' ∧ w.heap.size ≤ b ∧ b < w'.heap.size ∧
    xs.length ≤ c' ∧ c' ≤ 9223372036854775807 ∧ ∀ (i : Nat) y, xs[i]? = some y → ∃ z, w'.cell? ⟨b, 0 + i, none⟩ = some z ∧ GAt w' w.heap.size n z y

def MG (n : Nat) : Prop := ∀ (w : World) (B : Nat) (x : Value) (v : JV), JAt w B (n + 1) x v → Good (n + 1) v → B ≤ w.heap.size →
  Calls Tryz.prog 44 #[x] w fun e w' => ∃ (b : Nat) (ents : List (ByteArray × Value)), e = .returned (.tuple #[.map (some b), .bool true]) ∧ Below w.heap.size w w' ∧ w.heap.size ≤ b ∧ b < w'.heap.size ∧ MapIs w' b ents ∧ ents.map (·.1) = v.keys ∧
    ∀ (i : Nat) y, v.vals[i]? = some y → ∃ e : ByteArray × Value, ents[i]? = some e ∧ GAt w' w.heap.size n e.2 y

set_option maxHeartbeats 2000000 in
set_option maxRecDepth 100000 in
theorem toGo_step (n : Nat) (hL : LG n) (hM : MG n) : TG (n + 1) := by
  intro w B x v hx hg hB
  have hx' := hide hx
  have hg' := hide hg
  obtain ⟨la, lc, ka, kc, va, vc, rfl, hl1, hl2, hl3, hl4, hl5, hl6, hl7, hl8, hl9, hla, hka, hva⟩ := hx
  obtain ⟨W, hW⟩ : ∃ W, W = w.alloc (.cells #[.int .i64 v.kind, .int .i64 v.half, .string v.text, .slice la v.list.length lc, .slice ka v.keys.length kc, .slice va v.vals.length vc] 26) := ⟨_, rfl⟩
  have bW : Below w.heap.size w W := by rw [hW]; exact Below.alloc (Below.refl _ _) (Nat.le_refl _) _
  have sW : W.heap.size = w.heap.size + 1 := by rw [hW]; simp
  have hfl := half_eq v.half
  have hq : ∀ W : World, (binOp .quo 82 (.float .f64 (floatOfInt .f64 v.half)) (.float .f64 4611686018427387904)).run Tryz.prog W = .ok (.float .f64 (halfBits v.half)) W := fun W => run_float_arith W _ _ _ _ _ _ hfl
  obtain ⟨⟨hk0, hk6⟩, -, -, -, -, -, -, -, -, hlen, -, hlist, -, -, -⟩ := hg
  have hfr : ∀ p : Addr, p.block < B → W.cell? p = w.cell? p := fun p hp => bW.cell (by omega)
  have hla' := hide (hla.keep (R' := JAt W B n) hfr (Nat.le_refl _) (fun x v h => JAt.keep hfr (Nat.le_refl _) n x v h))
  have hxW := hide (JAt.keep hfr (Nat.le_refl _) (n + 1) _ _ hx'.out)
  replace hlist := hide hlist
  replace bW := hide bW
  replace hW := hide hW
  clear hla hka hva hfr hfl
  have hkk : v.kind = 0 ∨ v.kind = 1 ∨ v.kind = 2 ∨ v.kind = 3 ∨ v.kind = 4 ∨ v.kind = 5 ∨ v.kind = 6 := by omega
  rcases hkk with hk | hk | hk | hk | hk | hk | hk
  · go_enter Tryz.func22, Tryz.ntmps22
    go_wp2
    go_ret2
    exact ⟨.nilIface, by simp, Below.alloc (Below.refl _ _) (Nat.le_refl _) _, Or.inl ⟨hk, rfl⟩⟩
  · go_enter Tryz.func22, Tryz.ntmps22
    go_wp2
    go_ret2
    exact ⟨.iface 4 (.bool false), by simp, Below.alloc (Below.refl _ _) (Nat.le_refl _) _, Or.inr (Or.inl ⟨hk, rfl⟩)⟩
  · go_enter Tryz.func22, Tryz.ntmps22
    go_wp2
    go_ret2
    exact ⟨.iface 4 (.bool true), by simp, Below.alloc (Below.refl _ _) (Nat.le_refl _) _, Or.inr (Or.inr (Or.inl ⟨hk, rfl⟩))⟩
  · by_cases hh : v.half.tmod 2 = 0
    · go_enter Tryz.func22, Tryz.ntmps22
      go_wp2
      go_ret2
      exact ⟨.iface 3 (.int .i64 (v.half.tdiv 2)), by simp, Below.alloc (Below.refl _ _) (Nat.le_refl _) _, Or.inr (Or.inr (Or.inr (Or.inl ⟨hk, hh, rfl⟩)))⟩
    · go_enter Tryz.func22, Tryz.ntmps22
      go_wp2
      go_ret2
      exact ⟨.iface 82 (.float .f64 (halfBits v.half)), by simp, Below.alloc (Below.refl _ _) (Nat.le_refl _) _, Or.inr (Or.inr (Or.inr (Or.inr (Or.inl ⟨hk, hh, rfl⟩))))⟩
  · go_enter Tryz.func22, Tryz.ntmps22
    go_wp2
    go_ret2
    exact ⟨.iface 9 (.string v.text), by simp, Below.alloc (Below.refl _ _) (Nat.le_refl _) _, Or.inr (Or.inr (Or.inr (Or.inr (Or.inr (Or.inl ⟨hk, rfl⟩)))))⟩
  · have hW2 := hW.out
    rw [hk] at hW2
    go_enter Tryz.func22, Tryz.ntmps22
    go_wp2_with fail
    rw [← hW2]
    clear hW2
    refine (hL W B la lc v.list hla'.out hlist.out hl1 hl4 hlen (by omega)).mono ?_
    rintro e W' ⟨b, c', rfl, h1, h2, h3, h4, h5, h6⟩
    replace h1 := hide h1
    replace h6 := hide h6
    go_wp2
    go_ret2
    exact ⟨.iface 83 (.slice (some ⟨b, 0, none⟩) v.list.length c'), by simp, bW.out.trans (h1.out.mono bW.out.size), Or.inr (Or.inr (Or.inr (Or.inr (Or.inr (Or.inr (Or.inl ⟨hk, b, 0, c', rfl, by omega, h3, h4, h5, fun i y hy => by
      obtain ⟨z, hz, hg⟩ := h6.out i y hy
      exact ⟨z, hz, GAt.low bW.out.size n _ _ hg⟩⟩))))))⟩
  · have hW2 := hW.out
    rw [hk] at hW2
    go_enter Tryz.func22, Tryz.ntmps22
    go_wp2_with fail
    rw [← hW2]
    clear hW2
    have hxW2 := hxW.out
    rw [hk] at hxW2
    refine (hM W B _ v hxW2 hg'.out (by omega)).mono ?_
    rintro e W' ⟨b, ents, rfl, h1, h2, h3, h4, h5, h6⟩
    replace h1 := hide h1
    replace h6 := hide h6
    replace h4 := hide h4
    replace h5 := hide h5
    clear hxW2
    go_wp2
    go_ret2
    exact ⟨.iface 86 (.map (some b)), by simp, bW.out.trans (h1.out.mono bW.out.size), Or.inr (Or.inr (Or.inr (Or.inr (Or.inr (Or.inr (Or.inr ⟨hk, b, ents, rfl, by omega, h3, h4.out, h5.out, fun i y hy => by
      obtain ⟨z, hz, hg⟩ := h6.out i y hy
      exact ⟨z, hz, GAt.low bW.out.size n _ _ hg⟩⟩))))))⟩
end Go.Proofs.YtbnbemacljjimaaGreatDoor
