/- What values the program gives, and that a value is the same as itself. -/
import Derived.Test.YtbnbemacljjimaaGreatDoorGoC
import Derived.WalkLawsBesides
namespace Go.Proofs.YtbnbemacljjimaaGreatDoor
open Go.RowKit
set_option linter.unusedVariables false

/-- What fromGo can say, down to a depth. -/
def Say : Nat → JV → Prop
  | 0, _ => False
  | n + 1, v => (0 ≤ v.kind ∧ v.kind ≤ 6) ∧ (v.kind = 3 ∨ v.half = 0) ∧ (v.kind = 4 ∨ v.text.toList = []) ∧ (v.kind = 5 ∨ v.list = []) ∧ (v.kind = 6 ∨ v.keys = []) ∧ v.keys.length = v.vals.length ∧
      (-18014398509481984 ≤ v.half ∧ v.half ≤ 18014398509481984) ∧ (v.half.tmod 2 = 0 ∨ -9007199254740992 < v.half ∧ v.half < 9007199254740992) ∧
      v.list.length ≤ 100000 ∧ v.vals.length ≤ 100000 ∧ (∀ x ∈ v.list, Say n x) ∧ Rise v.keys ∧ (∀ x ∈ v.vals, Say n x) ∧ (∀ k ∈ v.keys, k.size ≤ 9223372036854775807) ∧ v.text.size ≤ 9223372036854775807

theorem VecAt.all {R : Value → JV → Prop} {w : World} {B : Nat} {A : Option Addr} {xs : List JV} (h : VecAt R w B A xs) : ∀ x ∈ xs, ∃ u, R u x := by
  intro x hx
  obtain ⟨i, hi, rfl⟩ := List.getElem_of_mem hx
  obtain ⟨b, o, -, -, hc⟩ := h (by omega)
  obtain ⟨c0, c1, c2, c3, c4, c5, -, -, -, -, -, -, hr⟩ := hc i _ (List.getElem?_eq_getElem hi)
  exact ⟨_, hr⟩

theorem Good.say : ∀ (n : Nat) {w : World} {B : Nat} {x : Value} {v : JV}, JAt w B n x v → Good n v → Say n v
  | 0, _, _, _, _, _, h => h.elim
  | n + 1, w, B, x, v, hx, h => by
    obtain ⟨la, lc, ka, kc, va, vc, rfl, hl1, hl2, hl3, hl4, hl5, hl6, hl7, hl8, hl9, hla, hka, hva⟩ := hx
    obtain ⟨h1, h2, h3, h4, h5, h6, h7, h8, h9, h10, h11, h12, h13, h14, h15⟩ := h
    refine ⟨h1, h2, h3, h4, h5, h6, h7, h8, by omega, by omega, fun x hx => ?_, h14, fun x hx => ?_, hka.1, hl7⟩
    · obtain ⟨u, hu⟩ := hla.all x hx
      exact Good.say n hu (h12 x hx)
    · obtain ⟨u, hu⟩ := hva.all x hx
      exact Good.say n hu (h15 x hx)

theorem less_irrefl : ∀ l : List UInt8, Op.bytesLess l l = false
  | [] => rfl
  | a :: l => by simp [Op.bytesLess, less_irrefl l]

theorem sign_zero (w : World) : Calls Tryz.prog 76 #[.int .i64 0] w fun e w' => e = .returned (.int .i64 0) ∧ w = w' := by
  go_enter Tryz.func76, Tryz.ntmps76
  go_wp2
  go_ret
  exact ⟨rfl, rfl⟩

theorem texts_same (w : World) (s : ByteArray) : Calls Tryz.prog 77 #[.string s, .string s] w fun e w' => e = .returned (.int .i64 0) ∧ w = w' := by
  have h := less_irrefl s.toList
  go_enter Tryz.func77, Tryz.ntmps77
  go_wp2
  go_ret
  exact ⟨rfl, rfl⟩

def CmpSays (n : Nat) : Prop := ∀ (w : World) (B : Nat) (x y : Value) (v : JV), JAt w B n x v → JAt w B n y v → Say n v → B ≤ w.heap.size →
  Calls Tryz.prog 55 #[x, y] w fun e w' => e = .returned (.int .i64 0) ∧ Below w.heap.size w w'

def ListsSays (n : Nat) : Prop := ∀ (w : World) (B : Nat) (A A' : Option Addr) (c c' : Nat) (xs : List JV), VecAt (JAt w B n) w B A xs → VecAt (JAt w B n) w B A' xs → (∀ x ∈ xs, Say n x) → xs.length ≤ c → xs.length ≤ c' → c ≤ 9223372036854775807 → c' ≤ 9223372036854775807 → B ≤ w.heap.size →
  Calls Tryz.prog 78 #[.slice A xs.length c, .slice A' xs.length c'] w fun e w' => e = .returned (.int .i64 0) ∧ Below w.heap.size w w'

set_option maxHeartbeats 2000000 in
set_option maxRecDepth 100000 in
theorem lists_step (n : Nat) (hC : CmpSays n) : ListsSays n := by
  intro w B A A' c c' xs hx hy hs hc hc' hm hm' hB
  replace hx := hide hx
  replace hy := hide hy
  replace hs := hide hs
  go_enter Tryz.func78, Tryz.ntmps78
  go_wp2
  go_loopw [5] (fun s5 wr => ∃ (j : Nat), s5 = .int .i64 j ∧ j ≤ xs.length ∧ Below w.heap.size w wr) (fun i _ => xs.length - (intOf i).toNat)
  case atStart => exact ⟨0, rfl, Nat.zero_le _, Below.refl _ _⟩
  case round =>
    obtain ⟨j, rfl, hj, hbw⟩ := hrel
    by_cases hjl : j < xs.length
    · obtain ⟨bk, ofs, rfl, hbk, hcs⟩ := hx.out (by omega)
      obtain ⟨bk', ofs', rfl, hbk', hcs'⟩ := hy.out (by omega)
      obtain ⟨x, hxj⟩ : ∃ x, xs[j]? = some x := ⟨_, List.getElem?_eq_getElem hjl⟩
      have hsx := hide (hs.out x (List.mem_of_getElem? hxj))
      obtain ⟨c0, c1, c2, c3, c4, c5, e0, e1, e2, e3, e4, e5, hxx⟩ := hcs j x hxj
      obtain ⟨d0, d1, d2, d3, d4, d5, f0, f1, f2, f3, f4, f5, hyy⟩ := hcs' j x hxj
      obtain ⟨W1, hW1⟩ : ∃ W1, W1 = wr.drew := ⟨_, rfl⟩
      have hb1 : Below w.heap.size w W1 := by rw [hW1]; exact hbw.drew
      have hfr : ∀ p : Addr, p.block < B → W1.cell? p = w.cell? p := fun p hp => hb1.cell (by omega)
      replace e0 := (hfr _ hbk).trans e0
      replace e1 := (hfr _ hbk).trans e1
      replace e2 := (hfr _ hbk).trans e2
      replace e3 := (hfr _ hbk).trans e3
      replace e4 := (hfr _ hbk).trans e4
      replace e5 := (hfr _ hbk).trans e5
      replace f0 := (hfr _ hbk').trans f0
      replace f1 := (hfr _ hbk').trans f1
      replace f2 := (hfr _ hbk').trans f2
      replace f3 := (hfr _ hbk').trans f3
      replace f4 := (hfr _ hbk').trans f4
      replace f5 := (hfr _ hbk').trans f5
      replace hxx := hide (JAt.keep hfr (Nat.le_refl _) n _ _ hxx)
      replace hyy := hide (JAt.keep hfr (Nat.le_refl _) n _ _ hyy)
      have hBw : B ≤ W1.heap.size := Nat.le_trans hB hb1.size
      replace hb1 := hide hb1
      clear hcs hcs' hfr hbw
      go_upto_region 4 with fail
      refine region_tail 8 W1 hW1 (by kernel_rfl) (by kernel_rfl) ?_
      clear hW1
      simp only [List.take_succ_cons, List.take_zero, List.drop_succ_cons, List.drop_zero]
      repeat (go_big_quiet_step (fail))
      refine wpQuiet_nil ?_
      go_wp2_with (go_at_call 55; refine (hC W1 B _ _ x hxx.out hyy.out hsx.out hBw).mono ?_; rintro e W2 ⟨rfl, hb2⟩; have hb3 := hide (hb1.out.trans (hb2.mono hb1.out.size)); clear hb2)
      go_roundw
      case rel => exact ⟨j + 1, by go_num, by omega, hb3.out⟩
      case measure => simp [intOf]; omega
    · go_wp2
      go_ret
      exact ⟨by simp, hbw⟩

def KeysSays : Prop := ∀ (w : World) (B : Nat) (A A' : Option Addr) (c c' : Nat) (xs : List ByteArray), StrsAt w B A xs → StrsAt w B A' xs → xs.length ≤ c → xs.length ≤ c' → c ≤ 9223372036854775807 → c' ≤ 9223372036854775807 → B ≤ w.heap.size →
  Calls Tryz.prog 79 #[.slice A xs.length c, .slice A' xs.length c'] w fun e w' => e = .returned (.int .i64 0) ∧ Below w.heap.size w w'

set_option maxHeartbeats 2000000 in
set_option maxRecDepth 100000 in
theorem keys_same : KeysSays := by
  intro w B A A' c c' xs hx hy hc hc' hm hm' hB
  replace hx := hide hx
  replace hy := hide hy
  go_enter Tryz.func79, Tryz.ntmps79
  go_wp2
  go_loopw [5] (fun s5 wr => ∃ (j : Nat), s5 = .int .i64 j ∧ j ≤ xs.length ∧ Below w.heap.size w wr) (fun i _ => xs.length - (intOf i).toNat)
  case atStart => exact ⟨0, rfl, Nat.zero_le _, Below.refl _ _⟩
  case round =>
    obtain ⟨j, rfl, hj, hbw⟩ := hrel
    by_cases hjl : j < xs.length
    · obtain ⟨bk, ofs, rfl, hbk, hcs⟩ := hx.out.2 (by omega)
      obtain ⟨bk', ofs', rfl, hbk', hcs'⟩ := hy.out.2 (by omega)
      obtain ⟨s, hxj⟩ : ∃ x, xs[j]? = some x := ⟨_, List.getElem?_eq_getElem hjl⟩
      obtain ⟨W1, hW1⟩ : ∃ W1, W1 = wr.drew := ⟨_, rfl⟩
      have hb1 : Below w.heap.size w W1 := by rw [hW1]; exact hbw.drew
      have hfr : ∀ p : Addr, p.block < B → W1.cell? p = w.cell? p := fun p hp => hb1.cell (by omega)
      have e0 := (hfr _ hbk).trans (hcs j s hxj)
      have f0 := (hfr _ hbk').trans (hcs' j s hxj)
      replace hb1 := hide hb1
      clear hcs hcs' hfr hbw
      go_upto_region 4 with fail
      refine region_tail 8 W1 hW1 (by kernel_rfl) (by kernel_rfl) ?_
      clear hW1
      simp only [List.take_succ_cons, List.take_zero, List.drop_succ_cons, List.drop_zero]
      repeat (go_big_quiet_step (fail))
      refine wpQuiet_nil ?_
      go_wp2_with (go_at_call 77; refine (texts_same W1 s).mono ?_; rintro e W2 ⟨rfl, rfl⟩)
      go_roundw
      case rel => exact ⟨j + 1, by go_num, by omega, hb1.out⟩
      case measure => simp [intOf]; omega
    · go_wp2
      go_ret
      exact ⟨by simp, hbw⟩
end Go.Proofs.YtbnbemacljjimaaGreatDoor
