/- Values as the program takes them (any): how one lies in memory. -/
import Derived.Test.YtbnbemacljjimaaGreatDoorJc01
import Derived.Maps.Own
import Derived.WideShapes
import Derived.StringKeys
import Derived.WalkLawsBesides
namespace Go.Proofs.YtbnbemacljjimaaGreatDoor
open Go.RowKit
set_option linter.unusedVariables false

/-- An element of a map reads as itself. -/
def Rv : Value → Option (DataW Value × List MemPlace) := fun v => some (.held v, [])

/-- Block b is a map with these entries, in the order of their keys. -/
def MapIs (w : World) (b : Nat) (ents : List (ByteArray × Value)) : Prop :=
  w.ownsMap Tryz.prog 9 Rv b ents.length (.map (ents.map fun (e : ByteArray × Value) => (Lit.string e.1.data.toList, DataW.held e.2)))

/-- A value as the program takes it; its blocks are not below lo. -/
def GAt (w : World) (lo : Nat) : Nat → Value → JV → Prop
  | 0, _, _ => False
  | n + 1, x, v =>
    (v.kind = 0 ∧ x = .nilIface) ∨ (v.kind = 1 ∧ x = .iface 4 (.bool false)) ∨ (v.kind = 2 ∧ x = .iface 4 (.bool true)) ∨
    (v.kind = 3 ∧ v.half.tmod 2 = 0 ∧ x = .iface 3 (.int .i64 (v.half.tdiv 2))) ∨
    (v.kind = 3 ∧ ¬ v.half.tmod 2 = 0 ∧ x = .iface 82 (.float .f64 (halfBits v.half))) ∨
    (v.kind = 4 ∧ x = .iface 9 (.string v.text)) ∨
    (v.kind = 5 ∧ ∃ b o c, x = .iface 83 (.slice (some ⟨b, o, none⟩) v.list.length c) ∧ lo ≤ b ∧ b < w.heap.size ∧ v.list.length ≤ c ∧ c ≤ 9223372036854775807 ∧
      ∀ (i : Nat) y, v.list[i]? = some y → ∃ z, w.cell? ⟨b, o + i, none⟩ = some z ∧ GAt w lo n z y) ∨
    (v.kind = 6 ∧ ∃ (b : Nat) (ents : List (ByteArray × Value)), x = .iface 86 (.map (some b)) ∧ lo ≤ b ∧ b < w.heap.size ∧ MapIs w b ents ∧ ents.map (·.1) = v.keys ∧
      ∀ (i : Nat) y, v.vals[i]? = some y → ∃ e : ByteArray × Value, ents[i]? = some e ∧ GAt w lo n e.2 y)

theorem MapIs.only {P : Nat → Prop} {w w' : World} {b : Nat} {ents} (h : MapIs w b ents) (ho : Only P w w') (hn : ¬ P b) : MapIs w' b ents := by
  have hlt := World.ownsMap.lt h
  obtain ⟨es, clock, hb, r⟩ := h
  exact ⟨es, clock, (ho.block b hlt hn).trans hb, r⟩

theorem GAt.only {P : Nat → Prop} {w w' : World} {lo : Nat} (ho : Only P w w') (hP : ∀ k, P k → k < lo) : ∀ (n : Nat) (x : Value) (v : JV), GAt w lo n x v → GAt w' lo n x v
  | 0, _, _, h => h.elim
  | n + 1, x, v, h => by
    rcases h with h | h | h | h | h | h | h | h
    · exact Or.inl h
    · exact Or.inr (Or.inl h)
    · exact Or.inr (Or.inr (Or.inl h))
    · exact Or.inr (Or.inr (Or.inr (Or.inl h)))
    · exact Or.inr (Or.inr (Or.inr (Or.inr (Or.inl h))))
    · exact Or.inr (Or.inr (Or.inr (Or.inr (Or.inr (Or.inl h)))))
    · obtain ⟨hk, b, o, c, rfl, h1, h2, h3, h4, h5⟩ := h
      refine Or.inr (Or.inr (Or.inr (Or.inr (Or.inr (Or.inr (Or.inl ⟨hk, b, o, c, rfl, h1, Nat.lt_of_lt_of_le h2 ho.size, h3, h4, fun i y hy => ?_⟩))))))
      obtain ⟨z, hz, hg⟩ := h5 i y hy
      exact ⟨z, (World.cell?_of_block (ho.block b h2 (fun hp => by have := hP b hp; omega))).trans hz, GAt.only ho hP n _ _ hg⟩
    · obtain ⟨hk, b, ents, rfl, h1, h2, h3, h4, h5⟩ := h
      refine Or.inr (Or.inr (Or.inr (Or.inr (Or.inr (Or.inr (Or.inr ⟨hk, b, ents, rfl, h1, Nat.lt_of_lt_of_le h2 ho.size, h3.only ho (fun hp => by have := hP b hp; omega), h4, fun i y hy => ?_⟩))))))
      obtain ⟨z, hz, hg⟩ := h5 i y hy
      exact ⟨z, hz, GAt.only ho hP n _ _ hg⟩

theorem GAt.low {w : World} {lo lo' : Nat} (hl : lo' ≤ lo) : ∀ (n : Nat) (x : Value) (v : JV), GAt w lo n x v → GAt w lo' n x v
  | 0, _, _, h => h.elim
  | n + 1, x, v, h => by
    rcases h with h | h | h | h | h | h | h | h
    · exact Or.inl h
    · exact Or.inr (Or.inl h)
    · exact Or.inr (Or.inr (Or.inl h))
    · exact Or.inr (Or.inr (Or.inr (Or.inl h)))
    · exact Or.inr (Or.inr (Or.inr (Or.inr (Or.inl h))))
    · exact Or.inr (Or.inr (Or.inr (Or.inr (Or.inr (Or.inl h)))))
    · obtain ⟨hk, b, o, c, rfl, h1, h2, h3, h4, h5⟩ := h
      refine Or.inr (Or.inr (Or.inr (Or.inr (Or.inr (Or.inr (Or.inl ⟨hk, b, o, c, rfl, by omega, h2, h3, h4, fun i y hy => ?_⟩))))))
      obtain ⟨z, hz, hg⟩ := h5 i y hy
      exact ⟨z, hz, GAt.low hl n _ _ hg⟩
    · obtain ⟨hk, b, ents, rfl, h1, h2, h3, h4, h5⟩ := h
      refine Or.inr (Or.inr (Or.inr (Or.inr (Or.inr (Or.inr (Or.inr ⟨hk, b, ents, rfl, by omega, h2, h3, h4, fun i y hy => ?_⟩))))))
      obtain ⟨z, hz, hg⟩ := h5 i y hy
      exact ⟨z, hz, GAt.low hl n _ _ hg⟩

def TG (n : Nat) : Prop := ∀ (w : World) (B : Nat) (x : Value) (v : JV), JAt w B n x v → Good n v → B ≤ w.heap.size →
  Calls Tryz.prog 22 #[x] w fun e w' => ∃ y, e = .returned (.tuple #[y, .bool true]) ∧ Below w.heap.size w w' ∧ GAt w' w.heap.size n y v

def LG (n : Nat) : Prop := ∀ (w : World) (B : Nat) (A : Option Addr) (c : Nat) (xs : List JV), VecAt (JAt w B n) w B A xs → (∀ x ∈ xs, Good n x) → xs.length ≤ c → c ≤ 9223372036854775807 → xs.length ≤ 400 → B ≤ w.heap.size →
  Calls Tryz.prog 43 #[.slice A xs.length c] w fun e w' => ∃ b c', e = .returned (.tuple #[.slice (some ⟨b, 0, none⟩) xs.length c', .bool true]) ∧ Below w.heap.size w w' ∧ w.heap.size ≤ b ∧ b < w'.heap.size ∧
    xs.length ≤ c' ∧ c' ≤ 9223372036854775807 ∧ ∀ (i : Nat) y, xs[i]? = some y → ∃ z, w'.cell? ⟨b, 0 + i, none⟩ = some z ∧ GAt w' w.heap.size n z y

def MG (n : Nat) : Prop := ∀ (w : World) (B : Nat) (x : Value) (v : JV), JAt w B (n + 1) x v → Good (n + 1) v → B ≤ w.heap.size →
  Calls Tryz.prog 44 #[x] w fun e w' => ∃ (b : Nat) (ents : List (ByteArray × Value)), e = .returned (.tuple #[.map (some b), .bool true]) ∧ Below w.heap.size w w' ∧ w.heap.size ≤ b ∧ b < w'.heap.size ∧ MapIs w' b ents ∧ ents.map (·.1) = v.keys ∧
    ∀ (i : Nat) y, v.vals[i]? = some y → ∃ e : ByteArray × Value, ents[i]? = some e ∧ GAt w' w.heap.size n e.2 y

set_option maxHeartbeats 2000000 in
set_option maxRecDepth 100000 in
theorem toGo_step (n : Nat) (hL : LG n) (hM : MG n) : TG (n + 1) := by
  intro w B x v hx hg hB
  have hx' := hide hx
  have hg' := hide hg
  obtain ⟨la, lc, ka, kc, va, vc, rfl, hl1, hl2, hl3, hl4, hl5, hl6, hl7, hl8, hl9, hla, hka, hva⟩ := hx
  obtain ⟨W, hW⟩ : ∃ W, W = w.alloc (.cells #[.int .i64 v.kind, .int .i64 v.half, .string v.text, .slice la v.list.length lc, .slice ka v.keys.length kc, .slice va v.vals.length vc] 26) := ⟨_, rfl⟩
  have bW : Below w.heap.size w W := by rw [hW]; exact Below.alloc (Below.refl _ _) (Nat.le_refl _) _
  have sW : W.heap.size = w.heap.size + 1 := by rw [hW]; simp
  have hfl := half_eq v.half
  have hq : ∀ W : World, (binOp .quo 82 (.float .f64 (floatOfInt .f64 v.half)) (.float .f64 4611686018427387904)).run Tryz.prog W = .ok (.float .f64 (halfBits v.half)) W := fun W => run_float_arith W _ _ _ _ _ _ hfl
  obtain ⟨⟨hk0, hk6⟩, -, -, -, -, -, -, -, -, hlen, -, hlist, -, -, -⟩ := hg
  have hfr : ∀ p : Addr, p.block < B → W.cell? p = w.cell? p := fun p hp => bW.cell (by omega)
  have hla' := hide (hla.keep (R' := JAt W B n) hfr (Nat.le_refl _) (fun x v h => JAt.keep hfr (Nat.le_refl _) n x v h))
  have hxW := hide (JAt.keep hfr (Nat.le_refl _) (n + 1) _ _ hx'.out)
  replace hlist := hide hlist
  replace bW := hide bW
  replace hW := hide hW
  clear hla hka hva hfr hfl
  have hkk : v.kind = 0 ∨ v.kind = 1 ∨ v.kind = 2 ∨ v.kind = 3 ∨ v.kind = 4 ∨ v.kind = 5 ∨ v.kind = 6 := by omega
  rcases hkk with hk | hk | hk | hk | hk | hk | hk
  · go_enter Tryz.func22, Tryz.ntmps22
    go_wp2
    go_ret2
    exact ⟨.nilIface, by simp, Below.alloc (Below.refl _ _) (Nat.le_refl _) _, Or.inl ⟨hk, rfl⟩⟩
  · go_enter Tryz.func22, Tryz.ntmps22
    go_wp2
    go_ret2
    exact ⟨.iface 4 (.bool false), by simp, Below.alloc (Below.refl _ _) (Nat.le_refl _) _, Or.inr (Or.inl ⟨hk, rfl⟩)⟩
  · go_enter Tryz.func22, Tryz.ntmps22
    go_wp2
    go_ret2
    exact ⟨.iface 4 (.bool true), by simp, Below.alloc (Below.refl _ _) (Nat.le_refl _) _, Or.inr (Or.inr (Or.inl ⟨hk, rfl⟩))⟩
  · by_cases hh : v.half.tmod 2 = 0
    · go_enter Tryz.func22, Tryz.ntmps22
      go_wp2
      go_ret2
      exact ⟨.iface 3 (.int .i64 (v.half.tdiv 2)), by simp, Below.alloc (Below.refl _ _) (Nat.le_refl _) _, Or.inr (Or.inr (Or.inr (Or.inl ⟨hk, hh, rfl⟩)))⟩
    · go_enter Tryz.func22, Tryz.ntmps22
      go_wp2
      go_ret2
      exact ⟨.iface 82 (.float .f64 (halfBits v.half)), by simp, Below.alloc (Below.refl _ _) (Nat.le_refl _) _, Or.inr (Or.inr (Or.inr (Or.inr (Or.inl ⟨hk, hh, rfl⟩))))⟩
  · go_enter Tryz.func22, Tryz.ntmps22
    go_wp2
    go_ret2
    exact ⟨.iface 9 (.string v.text), by simp, Below.alloc (Below.refl _ _) (Nat.le_refl _) _, Or.inr (Or.inr (Or.inr (Or.inr (Or.inr (Or.inl ⟨hk, rfl⟩)))))⟩
  · have hW2 := hW.out
    rw [hk] at hW2
    go_enter Tryz.func22, Tryz.ntmps22
    go_wp2_with fail
    rw [← hW2]
    clear hW2
    refine (hL W B la lc v.list hla'.out hlist.out hl1 hl4 hlen (by omega)).mono ?_
    rintro e W' ⟨b, c', rfl, h1, h2, h3, h4, h5, h6⟩
    replace h1 := hide h1
    replace h6 := hide h6
    go_wp2
    go_ret2
    exact ⟨.iface 83 (.slice (some ⟨b, 0, none⟩) v.list.length c'), by simp, bW.out.trans (h1.out.mono bW.out.size), Or.inr (Or.inr (Or.inr (Or.inr (Or.inr (Or.inr (Or.inl ⟨hk, b, 0, c', rfl, by omega, h3, h4, h5, fun i y hy => by
      obtain ⟨z, hz, hg⟩ := h6.out i y hy
      exact ⟨z, hz, GAt.low bW.out.size n _ _ hg⟩⟩))))))⟩
  · have hW2 := hW.out
    rw [hk] at hW2
    go_enter Tryz.func22, Tryz.ntmps22
    go_wp2_with fail
    rw [← hW2]
    clear hW2
    have hxW2 := hxW.out
    rw [hk] at hxW2
    refine (hM W B _ v hxW2 hg'.out (by omega)).mono ?_
    rintro e W' ⟨b, ents, rfl, h1, h2, h3, h4, h5, h6⟩
    replace h1 := hide h1
    replace h6 := hide h6
    replace h4 := hide h4
    replace h5 := hide h5
    clear hxW2
    go_wp2
    go_ret2
    exact ⟨.iface 86 (.map (some b)), by simp, bW.out.trans (h1.out.mono bW.out.size), Or.inr (Or.inr (Or.inr (Or.inr (Or.inr (Or.inr (Or.inr ⟨hk, b, ents, rfl, by omega, h3, h4.out, h5.out, fun i y hy => by
      obtain ⟨z, hz, hg⟩ := h6.out i y hy
      exact ⟨z, hz, GAt.low bW.out.size n _ _ hg⟩⟩))))))⟩
end Go.Proofs.YtbnbemacljjimaaGreatDoor

namespace Go.Proofs.YtbnbemacljjimaaGreatDoor
open Go.RowKit
set_option linter.unusedVariables false

theorem Tryz.infoAny : (Tryz.prog.info? 20).map (fun i => (i.zero, i.size, i.bytes)) = some (some .nilIface, 1, 16) := by kernel_rfl

theorem GAt.form {w : World} {lo n : Nat} {y : Value} {v : JV} (h : GAt w lo n y v) : y = .nilIface ∨ ∃ t u, y = .iface t u := by
  cases n with
  | zero => exact absurd h (fun h => h)
  | succ n =>
    rcases h with h | h | h | h | h | h | h | h
    · exact Or.inl h.2
    · exact Or.inr ⟨_, _, h.2⟩
    · exact Or.inr ⟨_, _, h.2⟩
    · exact Or.inr ⟨_, _, h.2.2⟩
    · exact Or.inr ⟨_, _, h.2.2⟩
    · exact Or.inr ⟨_, _, h.2⟩
    · obtain ⟨-, b, o, c, h, -⟩ := h
      exact Or.inr ⟨_, _, h⟩
    · obtain ⟨-, b, ents, h, -⟩ := h
      exact Or.inr ⟨_, _, h⟩

def Lst (n : Nat) (xs : List JV) (w wr : World) (S j : Nat) (cs : Array Value) : Prop :=
  Below w.heap.size w wr ∧ Blk wr S 20 cs ∧ cs.size = xs.length ∧ ∀ (i : Nat) y, i < j → xs[i]? = some y → ∃ z, cs[i]? = some z ∧ GAt wr (S + 1) n z y

theorem Lst.next {n : Nat} {xs : List JV} {w wr W2 : World} {S j : Nat} {cs : Array Value} (h : Lst n xs w wr S j cs) (hw : w.heap.size = S) (hb : Below wr.heap.size wr W2) {x : JV} (hx : xs[j]? = some x) {y : Value} {lo : Nat} (hl : S + 1 ≤ lo) (hy : GAt W2 lo n y x) :
    Lst n xs w (W2.setCell ⟨S, j, none⟩ y) S (j + 1) (cs.setIfInBounds j y) := by
  obtain ⟨h1, h2, h3, h4⟩ := h
  have hlt := h2.lt
  have hj : j < xs.length := (List.getElem?_eq_some_iff.1 hx).1
  have h2' : Blk W2 S _ cs := h2.below hb hlt
  have o1 : Only (· = S) wr (W2.setCell ⟨S, j, none⟩ y) := (Only.of_below (P := (· = S)) hb (fun k hk _ => hk)).setCell (p := ⟨S, j, none⟩) (Or.inl rfl) y
  have o2 : Only (· = S) W2 (W2.setCell ⟨S, j, none⟩ y) := (Only.refl (· = S) W2).setCell (p := ⟨S, j, none⟩) (Or.inl rfl) y
  refine ⟨?_, h2'.set_ j y, by simpa using h3, fun i z hi hz => ?_⟩
  · exact h1.trans (o1.below (by intro k hk; omega) (by omega))
  · rcases Nat.lt_or_ge i j with hlt' | hge
    · obtain ⟨u, hu, hg⟩ := h4 i z hlt' hz
      exact ⟨u, by rw [Array.getElem?_setIfInBounds_ne (by omega)]; exact hu, GAt.only o1 (by intro k hk; omega) n _ _ hg⟩
    · obtain rfl : i = j := by omega
      rw [hx] at hz
      cases hz
      exact ⟨y, by rw [Array.getElem?_setIfInBounds_self_of_lt (by omega)], GAt.low hl n _ _ (GAt.only o2 (by intro k hk; omega) n _ _ hy)⟩

set_option maxHeartbeats 2000000 in
set_option maxRecDepth 100000 in
theorem list_step (n : Nat) (hT : TG n) : LG n := by
  intro w B A c xs hx hg hc hm hlen hB
  obtain ⟨i0, hi0, hz0, hz1, hz2⟩ := info_parts Tryz.infoAny
  have hmk := fun W => run_make_rowN (P := Tryz.prog) 83 20 i0 _ Tryz.underlying83 hi0 hz0 .i64 .i64 xs.length xs.length (Nat.le_refl _) (by rw [hz2]; omega) (by omega) W
  rw [hz1] at hmk
  obtain ⟨cs0, hcs0⟩ : ∃ cs0, madeCells (Value.cells .nilIface) (xs.length * 1) = cs0 := ⟨_, rfl⟩
  have hsz0 : cs0.size = xs.length := by rw [← hcs0, size_madeCells]; omega
  rw [hcs0] at hmk
  clear hcs0 hi0 hz0 hz1 hz2
  have h0 : Lst n xs w (w.alloc (.cells cs0 20)) w.heap.size 0 cs0 := ⟨Below.alloc (Below.refl _ _) (Nat.le_refl _) _, Blk.new _ _ _, hsz0, fun i y hi => absurd hi (by omega)⟩
  replace hx := hide hx
  replace hg := hide hg
  replace h0 := hide h0
  go_enter Tryz.func43, Tryz.ntmps43
  go_wp2
  go_loopw [14] (fun s14 wr => ∃ (j : Nat) (cs : Array Value), s14 = .int .i64 j ∧ j ≤ xs.length ∧ Lst n xs w wr w.heap.size j cs) (fun i _ => xs.length - (intOf i).toNat)
  case atStart => exact ⟨0, cs0, rfl, Nat.zero_le _, h0.out⟩
  case round =>
    obtain ⟨j, cs, rfl, hj, hl⟩ := hrel
    have hbl := hl.2.1
    have hfz := hbl.frozen j
    have hbw := hl.1
    have hltS := hbl.lt
    by_cases hjl : j < xs.length
    · obtain ⟨bk, ofs, rfl, hbk, hcs⟩ := hx.out (by omega)
      obtain ⟨x, hxj⟩ : ∃ x, xs[j]? = some x := ⟨_, List.getElem?_eq_getElem hjl⟩
      obtain ⟨c0, c1, c2, c3, c4, c5, e0, e1, e2, e3, e4, e5, hxx⟩ := hcs j x hxj
      have hfr : ∀ p : Addr, p.block < B → wr.cell? p = w.cell? p := fun p hp => hbw.cell (by omega)
      replace e0 := (hfr _ hbk).trans e0
      replace e1 := (hfr _ hbk).trans e1
      replace e2 := (hfr _ hbk).trans e2
      replace e3 := (hfr _ hbk).trans e3
      replace e4 := (hfr _ hbk).trans e4
      replace e5 := (hfr _ hbk).trans e5
      replace hxx := JAt.keep hfr (Nat.le_refl _) n _ _ hxx
      have hgx := hg.out x (List.mem_of_getElem? hxj)
      have hcj : cs[j]? = some (cs[j]'(by rw [hl.2.2.1]; exact hjl)) := Array.getElem?_eq_getElem _
      rcases n with _ | m
      · exact absurd hgx (fun h => h)
      have hxx' := hxx
      obtain ⟨la, lc, ka, kc, va, vc, hagg, -⟩ := hxx'
      simp at hagg
      obtain ⟨rfl, rfl, rfl, rfl, rfl, rfl⟩ := hagg
      obtain ⟨W1, hW1⟩ : ∃ W1, W1 = wr.alloc (.cells #[.int .i64 x.kind, .int .i64 x.half, .string x.text, .slice la x.list.length lc, .slice ka x.keys.length kc, .slice va x.vals.length vc] 26) := ⟨_, rfl⟩
      have b1 : Below wr.heap.size wr W1 := by rw [hW1]; exact Below.alloc (Below.refl _ _) (Nat.le_refl _) _
      have hxx1 := JAt.keep (fun p (hp : p.block < B) => b1.cell (by have := hbw.size; omega)) (Nat.le_refl _) (m + 1) _ _ hxx
      have hBW : B ≤ W1.heap.size := by have := b1.size; have := hbw.size; omega
      replace hl := hide hl
      replace hbl := hide hbl
      replace hbw := hide hbw
      replace b1 := hide b1
      replace hxx1 := hide hxx1
      replace hgx := hide hgx
      clear hcs hfr hxx hfz
      go_wp2_with fail
      rw [← hW1]
      clear hW1
      refine (hT W1 B _ x hxx1.out hgx.out hBW).mono ?_
      rintro e W2 ⟨y, rfl, b2, hy⟩
      have hbl2 := (hbl.out.below b1.out hltS).below b2 (by have := b1.out.size; omega)
      have hfz := hbl2.frozen j
      have hcj2 : W2.cell? ⟨w.heap.size, j, none⟩ = some (cs[j]'(by rw [hl.out.2.2.1]; exact hjl)) := (hbl2.cell j).trans hcj
      have hnext := hide (hl.out.next rfl (b1.out.trans (b2.mono b1.out.size)) hxj (by have := b1.out.size; omega) hy)
      have hform := hy.form
      replace hbl2 := hide hbl2
      replace b2 := hide b2
      replace hy := hide hy
      rcases hform with rfl | ⟨t, u, rfl⟩
      · go_wp2_with fail
        go_roundw
        case rel => exact ⟨j + 1, _, by go_num, by omega, hnext.out⟩
        case measure => simp [intOf]; omega
      · go_wp2_with fail
        go_roundw
        case rel => exact ⟨j + 1, _, by go_num, by omega, hnext.out⟩
        case measure => simp [intOf]; omega
    · go_wp2
      go_ret2
      obtain ⟨h1, h2, h3, h4⟩ := hl
      refine ⟨w.heap.size, xs.length, by simp, h1, Nat.le_refl _, hltS, Nat.le_refl _, by omega, fun i y hy => ?_⟩
      have hi := (List.getElem?_eq_some_iff.1 hy).1
      obtain ⟨z, hz, hg⟩ := h4 i y (by omega) hy
      exact ⟨z, by rw [Nat.zero_add, h2.cell]; exact hz, GAt.low (by omega) n _ _ hg⟩
end Go.Proofs.YtbnbemacljjimaaGreatDoor

namespace Go.Proofs.YtbnbemacljjimaaGreatDoor
open Go.RowKit
set_option linter.unusedVariables false

theorem less_before : ∀ a b : List UInt8, Op.bytesLess a b = bytesBefore a b
  | [], [] => rfl
  | _ :: _, [] => rfl
  | [], _ :: _ => rfl
  | a :: x, b :: y => by simp [Op.bytesLess, bytesBefore, less_before x y]

theorem toList_data (s : ByteArray) : s.toList = s.data.toList := ByteArray.toList_eq s

abbrev Ent := ByteArray × Value
def entL (e : Ent) : Lit × DataW Value := (Lit.string e.1.data.toList, DataW.held e.2)

theorem put_end : ∀ (ents : List Ent) (k : ByteArray) (x : Value), (∀ e ∈ ents, bytesBefore e.1.data.toList k.data.toList = true) →
    (DataW.map (ents.map entL)).put (.string k.data.toList) (.held x) = .map ((ents ++ [(k, x)]).map entL) := by
  intro ents k x h
  have hf : (ents.map entL).filter (fun p => !p.1.sameKey (.string k.data.toList)) = ents.map entL := by
    rw [List.filter_eq_self]
    intro p hp
    obtain ⟨e, he, rfl⟩ := List.mem_map.1 hp
    have hb := h e he
    simp only [entL, Lit.sameKey, Bool.not_eq_true', beq_eq_false_iff_ne, ne_eq]
    intro hq
    rw [hq, WideAt.bytes_irrefl] at hb
    cases hb
  have hi : ∀ l : List Ent, (∀ e ∈ l, bytesBefore e.1.data.toList k.data.toList = true) → DataW.insert (entL (k, x)) (l.map entL) = (l ++ [(k, x)]).map entL := by
    intro l
    induction l with
    | nil => intro _; rfl
    | cons e r ih =>
      intro hl
      have he := hl e (by simp)
      have hn : bytesBefore k.data.toList e.1.data.toList = false := by
        cases hq : bytesBefore k.data.toList e.1.data.toList with
        | false => rfl
        | true =>
          have := WideShapes.bytes_trans _ _ _ he hq
          rw [WideAt.bytes_irrefl] at this
          cases this
      have := ih (fun e he => hl e (by simp [he]))
      simp only [List.map_cons, List.cons_append, DataW.insert, entL, Lit.before, hn] at this ⊢
      simp [this]
  show DataW.map _ = _
  rw [hf]
  congr 1
  exact hi ents h
end Go.Proofs.YtbnbemacljjimaaGreatDoor

namespace Go.Proofs.YtbnbemacljjimaaGreatDoor
open Go.RowKit
set_option linter.unusedVariables false

structure Mp (n : Nat) (v : JV) (W wr : World) (S j : Nat) (ents : List Ent) : Prop where
  only : Only (· = S) W wr
  map : MapIs wr S ents
  len : ents.length = j
  keys : ents.map (·.1) = v.keys.take j
  vals : ∀ (i : Nat) y, i < j → v.vals[i]? = some y → ∃ e : Ent, ents[i]? = some e ∧ GAt wr (S + 1) n e.2 y

theorem rise_all {ks : List ByteArray} (h : Rise ks) : ∀ (d i : Nat) (a b : ByteArray), ks[i]? = some a → ks[i + d + 1]? = some b → bytesBefore a.data.toList b.data.toList = true
  | 0, i, a, b, ha, hb => by
    have := h i a b ha hb
    rwa [less_before, toList_data, toList_data] at this
  | d + 1, i, a, b, ha, hb => by
    have hlt := (List.getElem?_eq_some_iff.1 hb).1
    obtain ⟨c, hc⟩ : ∃ c, ks[i + d + 1]? = some c := ⟨_, List.getElem?_eq_getElem (by omega)⟩
    have h1 := rise_all h d i a c ha hc
    have h2 := h (i + d + 1) c b hc hb
    rw [less_before, toList_data, toList_data] at h2
    exact WideShapes.bytes_trans _ _ _ h1 h2

theorem rise_before {v : JV} {ks : List ByteArray} (h : Rise ks) {j : Nat} {ents : List Ent} (hk : ents.map (·.1) = ks.take j) {k : ByteArray} (hkj : ks[j]? = some k) : ∀ e ∈ ents, bytesBefore e.1.data.toList k.data.toList = true := by
  intro e he
  have h1 : e.1 ∈ ks.take j := by rw [← hk]; exact List.mem_map_of_mem he
  obtain ⟨i, hi, hie⟩ := List.getElem_of_mem h1
  rw [List.length_take] at hi
  have hie' : ks[i]? = some e.1 := by
    rw [List.getElem_take] at hie
    rw [← hie]
    exact List.getElem?_eq_getElem (by omega)
  have : j = i + (j - i - 1) + 1 := by omega
  rw [this] at hkj
  exact rise_all h (j - i - 1) i _ _ hie' hkj

theorem Mp.next {n : Nat} {v : JV} {W wr W2 w1 : World} {S j : Nat} {ents : List Ent} (hm : Mp n v W wr S j ents) (hr : Rise v.keys) (hb : Below wr.heap.size wr W2) {sj : ByteArray} {x : JV} (hsj : v.keys[j]? = some sj) (hxj : v.vals[j]? = some x)
    {y : Value} {lo : Nat} (hlo : S + 1 ≤ lo) (hS : S < wr.heap.size) (hy : GAt W2 lo n y x)
    (hown : w1.ownsMap Tryz.prog 9 Rv S (ents.length + 1) ((DataW.map (ents.map entL)).put (.string sj.data.toList) (.held y))) (hg : W2.grownBy w1 (some S)) : Mp n v W w1 S (j + 1) (ents ++ [(sj, y)]) := by
  have o2 : Only (· = S) W2 w1 := (Only.refl (· = S) W2).grown hg (fun k hk => Or.inl (by cases hk; rfl))
  have o1 : Only (· = S) wr w1 := (Only.of_below (P := (· = S)) hb (fun k hk _ => hk)).trans o2
  refine ⟨hm.only.trans o1, ?_, by simp [hm.len], ?_, fun i z hi hz => ?_⟩
  · rw [put_end ents sj y (rise_before (v := v) hr hm.keys hsj)] at hown
    show w1.ownsMap Tryz.prog 9 Rv S (ents ++ [(sj, y)]).length (.map ((ents ++ [(sj, y)]).map entL))
    rw [show (ents ++ [(sj, y)]).length = ents.length + 1 by simp]
    exact hown
  · rw [List.map_append, hm.keys, List.take_add_one, hsj]
    rfl
  · rcases Nat.lt_or_ge i j with hlt | hge
    · obtain ⟨e, he, hge⟩ := hm.vals i z hlt hz
      exact ⟨e, by rw [List.getElem?_append_left (by rw [hm.len]; exact hlt)]; exact he, GAt.only o1 (by intro k hk; omega) n _ _ hge⟩
    · obtain rfl : i = j := by omega
      rw [hxj] at hz
      cases hz
      refine ⟨(sj, y), by rw [List.getElem?_append_right (by rw [hm.len]; exact Nat.le_refl _), hm.len]; simp, ?_⟩
      exact GAt.low hlo n _ _ (GAt.only o2 (by intro k hk; omega) n _ _ hy)

set_option maxHeartbeats 2000000 in
set_option maxRecDepth 100000 in
theorem map_step (n : Nat) (hT : TG n) : MG n := by
  intro w B x v hx hg hB
  obtain ⟨la, lc, ka, kc, va, vc, rfl, hl1, hl2, hl3, hl4, hl5, hl6, hl7, hl8, hl9, hla, hka, hva⟩ := hx
  obtain ⟨-, -, -, -, -, hkv, -, -, -, -, hv400, -, -, hrise, hvals⟩ := hg
  obtain ⟨W0, hW0⟩ : ∃ W0, W0 = w.alloc (.cells #[.int .i64 v.kind, .int .i64 v.half, .string v.text, .slice la v.list.length lc, .slice ka v.keys.length kc, .slice va v.vals.length vc] 26) := ⟨_, rfl⟩
  obtain ⟨W, hW⟩ : ∃ W, W = W0.alloc (.map #[] 0) := ⟨_, rfl⟩
  have s0 : W0.heap.size = w.heap.size + 1 := by rw [hW0]; simp
  have bk0 : Blk W0 w.heap.size 26 #[.int .i64 v.kind, .int .i64 v.half, .string v.text, .slice la v.list.length lc, .slice ka v.keys.length kc, .slice va v.vals.length vc] := by rw [hW0]; exact Blk.new w _ _
  have bk : Blk W w.heap.size 26 #[.int .i64 v.kind, .int .i64 v.half, .string v.text, .slice la v.list.length lc, .slice ka v.keys.length kc, .slice va v.vals.length vc] := by rw [hW]; exact bk0.alloc _
  have bW : Below w.heap.size w W := by rw [hW, hW0]; exact Below.alloc (Below.alloc (Below.refl _ _) (Nat.le_refl _) _) (by simp) _
  have sW : W.heap.size = w.heap.size + 2 := by rw [hW]; simp [s0]
  have hm0 : MapIs W (w.heap.size + 1) [] := by rw [hW, ← s0]; exact World.ownsMap_made W0 _ _ _
  have h0 : Mp n v W W (w.heap.size + 1) 0 [] := ⟨Only.refl _ _, hm0, rfl, by simp, fun i y hi => absurd hi (by omega)⟩
  have hmk := fun W => run_makeMap_hint (P := Tryz.prog) 86 9 20 .i64 (v.keys.length : Int) Tryz.underlying86 W
  have hne : (((v.keys.length : Nat) : Int) != ((v.vals.length : Nat) : Int)) = false := by simp [hkv]
  replace hkv := hide hkv
  replace h0 := hide h0
  replace bk := hide bk
  replace bW := hide bW
  replace hka := hide hka
  replace hva := hide hva
  replace hvals := hide hvals
  replace hrise := hide hrise
  clear hla hm0 bk0
  replace hW0 := hide hW0
  replace hW := hide hW
  go_enter Tryz.func44, Tryz.ntmps44
  go_wp2_with fail
  rw [← hW0.out, ← hW.out]
  go_loopw [23] (fun s23 wr => ∃ (j : Nat) (ents : List Ent), s23 = .int .i64 j ∧ j ≤ v.keys.length ∧ Mp n v W wr (w.heap.size + 1) j ents) (fun i _ => v.keys.length - (intOf i).toNat)
  case atStart => exact ⟨0, [], rfl, Nat.zero_le _, h0.out⟩
  case round =>
    obtain ⟨j, ents, rfl, hj, hm⟩ := hrel
    have hsr := hm.only.size
    have hkr := hm.only.blk bk.out (by omega)
    have kc4 := hkr.cell 4
    have kc5 := hkr.cell 5
    simp at kc4 kc5
    replace hkr := hide hkr
    have hfr : ∀ p : Addr, p.block < B → wr.cell? p = w.cell? p := fun p hp => (hm.only.cells (B := w.heap.size) (by intro k hk; omega) (by omega) p (by omega)).trans (bW.out.cell (by omega))
    have hkv' := hkv.out
    by_cases hjl : j < v.keys.length
    · obtain ⟨bs, os, rfl, hbs, hsc⟩ := hka.out.2 (by omega)
      obtain ⟨bv, ov, rfl, hbv, hvc⟩ := hva.out (by omega)
      obtain ⟨sj, hsj⟩ : ∃ s, v.keys[j]? = some s := ⟨_, List.getElem?_eq_getElem hjl⟩
      obtain ⟨x, hxj⟩ : ∃ x, v.vals[j]? = some x := ⟨_, List.getElem?_eq_getElem (by omega)⟩
      have es := (hfr _ hbs).trans (hsc j sj hsj)
      have hss := hka.out.1 _ (List.mem_of_getElem? hsj)
      obtain ⟨c0, c1, c2, c3, c4, c5, e0, e1, e2, e3, e4, e5, hxx⟩ := hvc j x hxj
      replace e0 := (hfr _ hbv).trans e0
      replace e1 := (hfr _ hbv).trans e1
      replace e2 := (hfr _ hbv).trans e2
      replace e3 := (hfr _ hbv).trans e3
      replace e4 := (hfr _ hbv).trans e4
      replace e5 := (hfr _ hbv).trans e5
      have hxr := hide (JAt.keep hfr (Nat.le_refl _) n _ _ hxx)
      have hgx := hide (hvals.out x (List.mem_of_getElem? hxj))
      have hjv : j < v.vals.length := by omega
      replace hm := hide hm
      replace hvc := hide hvc
      replace hfr := hide hfr
      clear hxx hkv'
      have hlo : w.heap.size + 1 + 1 ≤ wr.heap.size := by omega
      have hBw : B ≤ wr.heap.size := by omega
      have hkey : keyOf Tryz.prog 9 (.string sj) = some (.string sj.data.toList) := WideMaps.keyOf_string_mk Tryz.underlying9 (by unfold maxLen; omega)
      have hroom : ents.length < maxLen := by rw [hm.out.len]; unfold maxLen; omega
      replace hkey := hide hkey
      have hj0 : j = 0 ∨ 0 < j := by omega
      rcases hj0 with hj0 | hj0
      all_goals first
      | (have hj0' : ¬ (0 : Int) < (j : Int) := by omega
         replace hj0 := hide hj0)
      | (have hj0' : (0 : Int) < (j : Int) := by omega
         have hj1 : IntKind.i64.wrap ((j : Int) - 1) = ((j - 1 : Nat) : Int) := by rw [IntKind.wrap_i64]; omega
         obtain ⟨sp, hsp⟩ : ∃ s, v.keys[j - 1]? = some s := ⟨_, List.getElem?_eq_getElem (by omega)⟩
         have ep := (hfr.out _ hbs).trans (hsc (j - 1) sp hsp)
         have hlt : Op.bytesLess sp.toList sj.toList = true := hrise.out (j - 1) sp sj hsp (by rw [show j - 1 + 1 = j by omega]; exact hsj))
      all_goals
        replace hsc := hide hsc
        go_wp2_with fail
        refine (hT wr B _ x hxr.out hgx.out hBw).mono ?_
        rintro e W2 ⟨y, rfl, b2, hy⟩
        have hown : W2.ownsMap Tryz.prog 9 Rv (w.heap.size + 1) ents.length (.map (ents.map entL)) := MapIs.only (P := fun _ => False) hm.out.map (Only.of_below b2 (fun k hk _ => hk)) (fun h => h)
        have hbk2 := hide (hkr.out.below b2 (by omega))
        have hform := hy.form
        replace hown := hide hown
        replace b2 := hide b2
        replace hy := hide hy
        rcases hform with rfl | ⟨ty, u, rfl⟩
        all_goals
          go_wp2_with (at_mapUpdate; refine wpList_mapUpdate_own _ rfl _ _ _ 86 rfl 9 20 (Maps.string_keyed Tryz.underlying9) Tryz.underlying86 Rv (w.heap.size + 1) ents.length _ rfl hown.out hroom _ _ (.string sj.data.toList) rfl rfl hkey.out (.held _) [] rfl ?_; intro w1 hown1 hgrow1; have hnext := hide (hm.out.next hrise.out b2.out hsj hxj hlo (by omega) hy.out hown1 hgrow1); clear hown1 hgrow1)
          go_roundw
          case rel => exact ⟨j + 1, _, by go_num, by omega, hnext.out⟩
          case measure => simp [intOf]; omega
    · obtain rfl : j = v.keys.length := by omega
      replace hm := hide hm
      go_wp2
      go_ret2
      refine ⟨w.heap.size + 1, ents, by simp, ?_, by omega, by omega, hm.out.map, by rw [hm.out.keys]; simp, fun i y hy => ?_⟩
      · exact bW.out.trans (hm.out.only.below (B := w.heap.size) (by intro k hk; omega) (by omega))
      · have hi := (List.getElem?_eq_some_iff.1 hy).1
        obtain ⟨e, he, hg⟩ := hm.out.vals i y (by omega) hy
        exact ⟨e, he, GAt.low (by omega) n _ _ hg⟩

theorem all_go : ∀ n : Nat, LG n ∧ MG n ∧ TG n
  | 0 => by
    have hT : TG 0 := fun w B x v _ hg _ => absurd hg (fun h => h)
    exact ⟨list_step 0 hT, map_step 0 hT, hT⟩
  | n + 1 => by
    obtain ⟨h1, h2, h3⟩ := all_go n
    have hT : TG (n + 1) := toGo_step n h1 h2
    exact ⟨list_step (n + 1) hT, map_step (n + 1) hT, hT⟩
theorem toGo_any (n : Nat) : TG n := (all_go n).2.2
theorem mapToGo_any (n : Nat) : MG n := (all_go n).2.1
theorem listToGo_any (n : Nat) : LG n := (all_go n).1
end Go.Proofs.YtbnbemacljjimaaGreatDoor

namespace Go.Proofs.YtbnbemacljjimaaGreatDoor
open Go.RowKit
set_option linter.unusedVariables false

/-- What fromGo can say, down to a depth. -/
def Say : Nat → JV → Prop
  | 0, _ => False
  | n + 1, v => (0 ≤ v.kind ∧ v.kind ≤ 6) ∧ (v.kind = 3 ∨ v.half = 0) ∧ (v.kind = 4 ∨ v.text.toList = []) ∧ (v.kind = 5 ∨ v.list = []) ∧ (v.kind = 6 ∨ v.keys = []) ∧ v.keys.length = v.vals.length ∧
      (-18014398509481984 ≤ v.half ∧ v.half ≤ 18014398509481984) ∧ (v.half.tmod 2 = 0 ∨ -9007199254740992 < v.half ∧ v.half < 9007199254740992) ∧
      v.list.length ≤ 100000 ∧ v.vals.length ≤ 100000 ∧ (∀ x ∈ v.list, Say n x) ∧ Rise v.keys ∧ (∀ x ∈ v.vals, Say n x) ∧ (∀ k ∈ v.keys, k.size ≤ 9223372036854775807) ∧ v.text.size ≤ 9223372036854775807

theorem VecAt.all {R : Value → JV → Prop} {w : World} {B : Nat} {A : Option Addr} {xs : List JV} (h : VecAt R w B A xs) : ∀ x ∈ xs, ∃ u, R u x := by
  intro x hx
  obtain ⟨i, hi, rfl⟩ := List.getElem_of_mem hx
  obtain ⟨b, o, -, -, hc⟩ := h (by omega)
  obtain ⟨c0, c1, c2, c3, c4, c5, -, -, -, -, -, -, hr⟩ := hc i _ (List.getElem?_eq_getElem hi)
  exact ⟨_, hr⟩

theorem Good.say : ∀ (n : Nat) {w : World} {B : Nat} {x : Value} {v : JV}, JAt w B n x v → Good n v → Say n v
  | 0, _, _, _, _, _, h => h.elim
  | n + 1, w, B, x, v, hx, h => by
    obtain ⟨la, lc, ka, kc, va, vc, rfl, hl1, hl2, hl3, hl4, hl5, hl6, hl7, hl8, hl9, hla, hka, hva⟩ := hx
    obtain ⟨h1, h2, h3, h4, h5, h6, h7, h8, h9, h10, h11, h12, h13, h14, h15⟩ := h
    refine ⟨h1, h2, h3, h4, h5, h6, h7, h8, by omega, by omega, fun x hx => ?_, h14, fun x hx => ?_, hka.1, hl7⟩
    · obtain ⟨u, hu⟩ := hla.all x hx
      exact Good.say n hu (h12 x hx)
    · obtain ⟨u, hu⟩ := hva.all x hx
      exact Good.say n hu (h15 x hx)

theorem less_irrefl : ∀ l : List UInt8, Op.bytesLess l l = false
  | [] => rfl
  | a :: l => by simp [Op.bytesLess, less_irrefl l]

theorem sign_zero (w : World) : Calls Tryz.prog 76 #[.int .i64 0] w fun e w' => e = .returned (.int .i64 0) ∧ w = w' := by
  go_enter Tryz.func76, Tryz.ntmps76
  go_wp2
  go_ret
  exact ⟨rfl, rfl⟩

theorem texts_same (w : World) (s : ByteArray) : Calls Tryz.prog 77 #[.string s, .string s] w fun e w' => e = .returned (.int .i64 0) ∧ w = w' := by
  have h := less_irrefl s.toList
  go_enter Tryz.func77, Tryz.ntmps77
  go_wp2
  go_ret
  exact ⟨rfl, rfl⟩

def CmpSays (n : Nat) : Prop := ∀ (w : World) (B : Nat) (x y : Value) (v : JV), JAt w B n x v → JAt w B n y v → Say n v → B ≤ w.heap.size →
  Calls Tryz.prog 55 #[x, y] w fun e w' => e = .returned (.int .i64 0) ∧ Below w.heap.size w w'

def ListsSays (n : Nat) : Prop := ∀ (w : World) (B : Nat) (A A' : Option Addr) (c c' : Nat) (xs : List JV), VecAt (JAt w B n) w B A xs → VecAt (JAt w B n) w B A' xs → (∀ x ∈ xs, Say n x) → xs.length ≤ c → xs.length ≤ c' → c ≤ 9223372036854775807 → c' ≤ 9223372036854775807 → B ≤ w.heap.size →
  Calls Tryz.prog 78 #[.slice A xs.length c, .slice A' xs.length c'] w fun e w' => e = .returned (.int .i64 0) ∧ Below w.heap.size w w'

set_option maxHeartbeats 2000000 in
set_option maxRecDepth 100000 in
theorem lists_step (n : Nat) (hC : CmpSays n) : ListsSays n := by
  intro w B A A' c c' xs hx hy hs hc hc' hm hm' hB
  replace hx := hide hx
  replace hy := hide hy
  replace hs := hide hs
  go_enter Tryz.func78, Tryz.ntmps78
  go_wp2
  go_loopw [5] (fun s5 wr => ∃ (j : Nat), s5 = .int .i64 j ∧ j ≤ xs.length ∧ Below w.heap.size w wr) (fun i _ => xs.length - (intOf i).toNat)
  case atStart => exact ⟨0, rfl, Nat.zero_le _, Below.refl _ _⟩
  case round =>
    obtain ⟨j, rfl, hj, hbw⟩ := hrel
    by_cases hjl : j < xs.length
    · obtain ⟨bk, ofs, rfl, hbk, hcs⟩ := hx.out (by omega)
      obtain ⟨bk', ofs', rfl, hbk', hcs'⟩ := hy.out (by omega)
      obtain ⟨x, hxj⟩ : ∃ x, xs[j]? = some x := ⟨_, List.getElem?_eq_getElem hjl⟩
      have hsx := hide (hs.out x (List.mem_of_getElem? hxj))
      obtain ⟨c0, c1, c2, c3, c4, c5, e0, e1, e2, e3, e4, e5, hxx⟩ := hcs j x hxj
      obtain ⟨d0, d1, d2, d3, d4, d5, f0, f1, f2, f3, f4, f5, hyy⟩ := hcs' j x hxj
      obtain ⟨W1, hW1⟩ : ∃ W1, W1 = wr.drew := ⟨_, rfl⟩
      have hb1 : Below w.heap.size w W1 := by rw [hW1]; exact hbw.drew
      have hfr : ∀ p : Addr, p.block < B → W1.cell? p = w.cell? p := fun p hp => hb1.cell (by omega)
      replace e0 := (hfr _ hbk).trans e0
      replace e1 := (hfr _ hbk).trans e1
      replace e2 := (hfr _ hbk).trans e2
      replace e3 := (hfr _ hbk).trans e3
      replace e4 := (hfr _ hbk).trans e4
      replace e5 := (hfr _ hbk).trans e5
      replace f0 := (hfr _ hbk').trans f0
      replace f1 := (hfr _ hbk').trans f1
      replace f2 := (hfr _ hbk').trans f2
      replace f3 := (hfr _ hbk').trans f3
      replace f4 := (hfr _ hbk').trans f4
      replace f5 := (hfr _ hbk').trans f5
      replace hxx := hide (JAt.keep hfr (Nat.le_refl _) n _ _ hxx)
      replace hyy := hide (JAt.keep hfr (Nat.le_refl _) n _ _ hyy)
      have hBw : B ≤ W1.heap.size := Nat.le_trans hB hb1.size
      replace hb1 := hide hb1
      clear hcs hcs' hfr hbw
      go_upto_region 4 with fail
      refine region_tail 8 W1 hW1 (by kernel_rfl) (by kernel_rfl) ?_
      clear hW1
      simp only [List.take_succ_cons, List.take_zero, List.drop_succ_cons, List.drop_zero]
      repeat (go_big_quiet_step (fail))
      refine wpQuiet_nil ?_
      go_wp2_with (go_at_call 55; refine (hC W1 B _ _ x hxx.out hyy.out hsx.out hBw).mono ?_; rintro e W2 ⟨rfl, hb2⟩; have hb3 := hide (hb1.out.trans (hb2.mono hb1.out.size)); clear hb2)
      go_roundw
      case rel => exact ⟨j + 1, by go_num, by omega, hb3.out⟩
      case measure => simp [intOf]; omega
    · go_wp2
      go_ret
      exact ⟨by simp, hbw⟩

def KeysSays : Prop := ∀ (w : World) (B : Nat) (A A' : Option Addr) (c c' : Nat) (xs : List ByteArray), StrsAt w B A xs → StrsAt w B A' xs → xs.length ≤ c → xs.length ≤ c' → c ≤ 9223372036854775807 → c' ≤ 9223372036854775807 → B ≤ w.heap.size →
  Calls Tryz.prog 79 #[.slice A xs.length c, .slice A' xs.length c'] w fun e w' => e = .returned (.int .i64 0) ∧ Below w.heap.size w w'

set_option maxHeartbeats 2000000 in
set_option maxRecDepth 100000 in
theorem keys_same : KeysSays := by
  intro w B A A' c c' xs hx hy hc hc' hm hm' hB
  replace hx := hide hx
  replace hy := hide hy
  go_enter Tryz.func79, Tryz.ntmps79
  go_wp2
  go_loopw [5] (fun s5 wr => ∃ (j : Nat), s5 = .int .i64 j ∧ j ≤ xs.length ∧ Below w.heap.size w wr) (fun i _ => xs.length - (intOf i).toNat)
  case atStart => exact ⟨0, rfl, Nat.zero_le _, Below.refl _ _⟩
  case round =>
    obtain ⟨j, rfl, hj, hbw⟩ := hrel
    by_cases hjl : j < xs.length
    · obtain ⟨bk, ofs, rfl, hbk, hcs⟩ := hx.out.2 (by omega)
      obtain ⟨bk', ofs', rfl, hbk', hcs'⟩ := hy.out.2 (by omega)
      obtain ⟨s, hxj⟩ : ∃ x, xs[j]? = some x := ⟨_, List.getElem?_eq_getElem hjl⟩
      obtain ⟨W1, hW1⟩ : ∃ W1, W1 = wr.drew := ⟨_, rfl⟩
      have hb1 : Below w.heap.size w W1 := by rw [hW1]; exact hbw.drew
      have hfr : ∀ p : Addr, p.block < B → W1.cell? p = w.cell? p := fun p hp => hb1.cell (by omega)
      have e0 := (hfr _ hbk).trans (hcs j s hxj)
      have f0 := (hfr _ hbk').trans (hcs' j s hxj)
      replace hb1 := hide hb1
      clear hcs hcs' hfr hbw
      go_upto_region 4 with fail
      refine region_tail 8 W1 hW1 (by kernel_rfl) (by kernel_rfl) ?_
      clear hW1
      simp only [List.take_succ_cons, List.take_zero, List.drop_succ_cons, List.drop_zero]
      repeat (go_big_quiet_step (fail))
      refine wpQuiet_nil ?_
      go_wp2_with (go_at_call 77; refine (texts_same W1 s).mono ?_; rintro e W2 ⟨rfl, rfl⟩)
      go_roundw
      case rel => exact ⟨j + 1, by go_num, by omega, hb1.out⟩
      case measure => simp [intOf]; omega
    · go_wp2
      go_ret
      exact ⟨by simp, hbw⟩
end Go.Proofs.YtbnbemacljjimaaGreatDoor

namespace Go.Proofs.YtbnbemacljjimaaGreatDoor
open Go.RowKit
set_option linter.unusedVariables false

set_option maxHeartbeats 2000000 in
set_option maxRecDepth 100000 in
theorem cmp_step (n : Nat) (hL : ListsSays n) : CmpSays (n + 1) := by
  intro w B x y v hx hy hs hB
  obtain ⟨⟨hk0, hk6⟩, -, -, -, -, -, -, -, hln, hvn, hsl, -, hsv, -, -⟩ := hs
  obtain ⟨la, lc, ka, kc, va, vc, rfl, hl1, hl2, hl3, hl4, hl5, hl6, hl7, hl8, hl9, hla, hka, hva⟩ := hx
  obtain ⟨la', lc', ka', kc', va', vc', rfl, hl1', hl2', hl3', hl4', hl5', hl6', hl7', hl8', hl9', hla', hka', hva'⟩ := hy
  obtain ⟨W, hW⟩ : ∃ W, W = (w.alloc (.cells #[.int .i64 v.kind, .int .i64 v.half, .string v.text, .slice la v.list.length lc, .slice ka v.keys.length kc, .slice va v.vals.length vc] 26)).alloc (.cells #[.int .i64 v.kind, .int .i64 v.half, .string v.text, .slice la' v.list.length lc', .slice ka' v.keys.length kc', .slice va' v.vals.length vc'] 26) := ⟨_, rfl⟩
  have bW : Below w.heap.size w W := by rw [hW]; exact Below.alloc (Below.alloc (Below.refl _ _) (Nat.le_refl _) _) (by simp) _
  have hk1 : Blk W w.heap.size 26 #[.int .i64 v.kind, .int .i64 v.half, .string v.text, .slice la v.list.length lc, .slice ka v.keys.length kc, .slice va v.vals.length vc] := by rw [hW]; exact (Blk.new w _ _).alloc _
  have hk2 : Blk W (w.heap.size + 1) 26 #[.int .i64 v.kind, .int .i64 v.half, .string v.text, .slice la' v.list.length lc', .slice ka' v.keys.length kc', .slice va' v.vals.length vc'] := by
    rw [hW]
    have h2 := Blk.new (w.alloc (.cells #[.int .i64 v.kind, .int .i64 v.half, .string v.text, .slice la v.list.length lc, .slice ka v.keys.length kc, .slice va v.vals.length vc] 26)) 26 #[.int .i64 v.kind, .int .i64 v.half, .string v.text, .slice la' v.list.length lc', .slice ka' v.keys.length kc', .slice va' v.vals.length vc']
    have hsz : (w.alloc (.cells #[.int .i64 v.kind, .int .i64 v.half, .string v.text, .slice la v.list.length lc, .slice ka v.keys.length kc, .slice va v.vals.length vc] 26)).heap.size = w.heap.size + 1 := by simp
    rw [hsz] at h2
    exact h2
  have hsW := bW.size
  have hBW := Nat.le_trans hB hsW
  have hlt1 := hk1.lt
  have hlt2 := hk2.lt
  have hfr : ∀ p : Addr, p.block < B → W.cell? p = w.cell? p := fun p hp => bW.cell (by omega)
  replace hla := hide (hla.keep hfr (Nat.le_refl _) (fun x v h => JAt.keep hfr (Nat.le_refl _) n x v h))
  replace hla' := hide (hla'.keep hfr (Nat.le_refl _) (fun x v h => JAt.keep hfr (Nat.le_refl _) n x v h))
  replace hva := hide (hva.keep hfr (Nat.le_refl _) (fun x v h => JAt.keep hfr (Nat.le_refl _) n x v h))
  replace hva' := hide (hva'.keep hfr (Nat.le_refl _) (fun x v h => JAt.keep hfr (Nat.le_refl _) n x v h))
  replace hka := hide (hka.keep hfr (Nat.le_refl _))
  replace hka' := hide (hka'.keep hfr (Nat.le_refl _))
  replace hsl := hide hsl
  replace hsv := hide hsv
  have k10 := hk1.cell 0
  have k11 := hk1.cell 1
  have k12 := hk1.cell 2
  have k13 := hk1.cell 3
  have k14 := hk1.cell 4
  have k20 := hk2.cell 0
  have k21 := hk2.cell 1
  have k22 := hk2.cell 2
  have k23 := hk2.cell 3
  have k24 := hk2.cell 4
  simp at k10 k11 k12 k13 k14 k20 k21 k22 k23 k24
  replace bW := hide bW
  replace hk1 := hide hk1
  replace hk2 := hide hk2
  clear hfr
  have hkk : v.kind = 0 ∨ v.kind = 1 ∨ v.kind = 2 ∨ v.kind = 3 ∨ v.kind = 4 ∨ v.kind = 5 ∨ v.kind = 6 := by omega
  have hw0 : IntKind.i64.wrap (v.half - v.half) = 0 := by rw [Int.sub_self]; decide
  have hz : v.half - v.half = 0 := Int.sub_self _
  go_enter Tryz.func55, Tryz.ntmps55
  go_upto_region 1 with fail
  rw [← hW]
  clear hW
  rcases hkk with hk | hk | hk | hk | hk | hk | hk
  · rw [hk] at k10 k20
    go_wp2
    go_ret
    exact ⟨rfl, bW.out⟩
  · rw [hk] at k10 k20
    go_wp2
    go_ret
    exact ⟨rfl, bW.out⟩
  · rw [hk] at k10 k20
    go_wp2
    go_ret
    exact ⟨rfl, bW.out⟩
  · rw [hk] at k10 k20
    go_wp2_with (go_at_call 76; refine (sign_zero W).mono ?_; rintro e W2 ⟨rfl, rfl⟩)
    go_ret
    exact ⟨rfl, bW.out⟩
  · rw [hk] at k10 k20
    go_wp2_with (go_at_call 77; refine (texts_same W v.text).mono ?_; rintro e W2 ⟨rfl, rfl⟩)
    go_ret
    exact ⟨rfl, bW.out⟩
  · rw [hk] at k10 k20
    go_wp2_with (first
      | (go_at_call 78; refine (hL W B la la' lc lc' v.list hla.out hla'.out hsl.out hl1 hl1' hl4 hl4' hBW).mono ?_; rintro e W2 ⟨rfl, hb2⟩; have hb3 := hide (bW.out.trans (hb2.mono hsW)); clear hb2)
      | (go_at_call 76; refine (sign_zero _).mono ?_; rintro e W3 ⟨rfl, rfl⟩))
    go_ret
    exact ⟨rfl, hb3.out⟩
  · rw [hk] at k10 k20
    have hva2 : ∀ W2 : World, Below W.heap.size W W2 → VecAt (JAt W2 B n) W2 B va v.vals := fun W2 h => hva.out.keep (fun p hp => h.cell (by omega)) (Nat.le_refl _) (fun x v k => JAt.keep (fun p hp => h.cell (by omega)) (Nat.le_refl _) n x v k)
    have hva2' : ∀ W2 : World, Below W.heap.size W W2 → VecAt (JAt W2 B n) W2 B va' v.vals := fun W2 h => hva'.out.keep (fun p hp => h.cell (by omega)) (Nat.le_refl _) (fun x v k => JAt.keep (fun p hp => h.cell (by omega)) (Nat.le_refl _) n x v k)
    replace hva2 := hide hva2
    replace hva2' := hide hva2'
    go_wp2_with (first
      | (go_at_call 79; refine (keys_same W B ka ka' kc kc' v.keys hka.out hka'.out hl2 hl2' hl5 hl5' hBW).mono ?_; rintro e W2 ⟨rfl, hb2⟩; have r20 := (hk1.out.below hb2 hlt1).cell 5; have r21 := (hk2.out.below hb2 hlt2).cell 5; simp at r20 r21; have hs2 := hb2.size; have hz2 := hide (hva2.out _ hb2); have hz3 := hide (hva2'.out _ hb2); have hb3 := hide (bW.out.trans (hb2.mono hsW)); clear hb2)
      | (go_at_call 78; refine (hL _ B va va' vc vc' v.vals hz2.out hz3.out hsv.out hl3 hl3' hl6 hl6' (by omega)).mono ?_; rintro e W4 ⟨rfl, hb4⟩; have hb5 := hide (hb3.out.trans (hb4.mono hb3.out.size)); clear hb4)
      | (go_at_call 76; refine (sign_zero _).mono ?_; rintro e W3 ⟨rfl, rfl⟩))
    go_ret
    exact ⟨rfl, hb5.out⟩

theorem cmp_same : ∀ n : Nat, CmpSays n
  | 0 => fun w B x y v _ _ hs _ => absurd hs (fun h => h)
  | n + 1 => cmp_step n (lists_step n (cmp_same n))

set_option maxHeartbeats 1000000 in
set_option maxRecDepth 100000 in
theorem same_any (n : Nat) (w : World) (B : Nat) (x y : Value) (v : JV) (hx : JAt w B n x v) (hy : JAt w B n y v) (hs : Say n v) (hB : B ≤ w.heap.size) :
    Calls Tryz.prog 27 #[x, y] w fun e w' => e = .returned (.bool true) ∧ Below w.heap.size w w' := by
  rcases n with _ | n
  · exact hs.elim
  have hx' := hide hx
  have hy' := hide hy
  obtain ⟨la, lc, ka, kc, va, vc, rfl, -⟩ := hx
  obtain ⟨la', lc', ka', kc', va', vc', rfl, -⟩ := hy
  obtain ⟨W, hW⟩ : ∃ W, W = (w.alloc (.cells #[.int .i64 v.kind, .int .i64 v.half, .string v.text, .slice la v.list.length lc, .slice ka v.keys.length kc, .slice va v.vals.length vc] 26)).alloc (.cells #[.int .i64 v.kind, .int .i64 v.half, .string v.text, .slice la' v.list.length lc', .slice ka' v.keys.length kc', .slice va' v.vals.length vc'] 26) := ⟨_, rfl⟩
  have bW : Below w.heap.size w W := by rw [hW]; exact Below.alloc (Below.alloc (Below.refl _ _) (Nat.le_refl _) _) (by simp) _
  have hfr : ∀ p : Addr, p.block < B → W.cell? p = w.cell? p := fun p hp => bW.cell (by omega)
  have hBW := Nat.le_trans hB bW.size
  replace hx' := hide (JAt.keep hfr (Nat.le_refl _) (n + 1) _ _ hx'.out)
  replace hy' := hide (JAt.keep hfr (Nat.le_refl _) (n + 1) _ _ hy'.out)
  replace bW := hide bW
  replace hs := hide hs
  clear hfr
  go_enter Tryz.func27, Tryz.ntmps27
  go_wp2_with fail
  rw [← hW]
  clear hW
  refine (cmp_same (n + 1) W B _ _ v hx'.out hy'.out hs.out hBW).mono ?_
  rintro e W2 ⟨rfl, hb2⟩
  replace hb2 := hide (bW.out.trans (hb2.mono bW.out.size))
  go_wp2
  go_ret
  exact ⟨rfl, hb2.out⟩
end Go.Proofs.YtbnbemacljjimaaGreatDoor
