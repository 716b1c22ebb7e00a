/- The printed whole number: FormatUint, FormatInt at base 10. -/
import Derived.Test.YtbnbemacljjimaaGreatDoorJc07
import Derived.Test.YtbnbemacljjimaaGreatDoorJc03
import Derived.Lib.ConvBytes
namespace Go.Proofs.YtbnbemacljjimaaGreatDoor
open Go.RowKit Go.Lib
set_option linter.unusedVariables false

/-- Digits as a text. -/
def txt (ds : List Nat) : ByteArray := ⟨(ds.map fun d => UInt8.ofNat (48 + d)).toArray⟩

theorem txt_size (ds : List Nat) : (txt ds).size = ds.length := by simp [txt, ByteArray.size]

theorem nums_txt (ds : List Nat) : strOfNums (ds.map fun d => ((48 + d : Nat) : Int)) = txt ds := by
  unfold strOfNums txt
  simp only [List.map_map]
  rfl

/-- The loop's state: i places left, x still to be printed. -/
def UFr (n : Nat) (w wr : World) (i x : Nat) : Prop :=
  ∃ (cs : Array Value) (tl : List Nat), Below w.heap.size w wr ∧ Blk wr w.heap.size 131 cs ∧ cs.size = 64 ∧ i + tl.length = 64 ∧ Dig tl ∧
    (∀ j, j < tl.length → cs[i + j]? = some (.int .u8 (48 + dAt tl j : Nat))) ∧ (tl = [] ∧ x = n ∨ tl ≠ [] ∧ dg n = (if x = 0 then [] else dg x) ++ tl)

theorem run_sliceAt_array_l {P : Program} (w : World) (t : TypeId) (a : Addr) (ht : P.underlying t = some (.array (P.arrayLen t) (P.elem t))) (kl : IntKind) (l : Int) (h0 : 0 ≤ l) (h1 : l ≤ P.arrayLen t) :
    (Instr.sliceAt t (.pointer (some a)) (some (.int kl l)) none none).run P w =
      ((sizeOf (P.elem t)).run P w).andThen fun s w => .ok (slicedAt a l.toNat (P.arrayLen t) (P.arrayLen t) s) w := by
  simp [Instr.sliceAt, Instr.sureAddr, slicedAt, run_underlying ht, Instr.sliceBounds, run_sliceBound, *]

theorem hex_at (d : Nat) (hd : d < 10) (h : d < ByteArray.size ⟨#[48, 49, 50, 51, 52, 53, 54, 55, 56, 57, 97, 98, 99, 100, 101, 102, 103, 104, 105, 106, 107, 108, 109, 110, 111, 112, 113, 114, 115, 116, 117, 118, 119, 120, 121, 122]⟩) :
    (ByteArray.mk #[48, 49, 50, 51, 52, 53, 54, 55, 56, 57, 97, 98, 99, 100, 101, 102, 103, 104, 105, 106, 107, 108, 109, 110, 111, 112, 113, 114, 115, 116, 117, 118, 119, 120, 121, 122])[d].toNat = 48 + d := by
  match d, hd with
  | 0, _ => rfl
  | 1, _ => rfl
  | 2, _ => rfl
  | 3, _ => rfl
  | 4, _ => rfl
  | 5, _ => rfl
  | 6, _ => rfl
  | 7, _ => rfl
  | 8, _ => rfl
  | 9, _ => rfl

/-- One step of the state. -/
theorem UFr.next {n : Nat} {w wr : World} {k x : Nat} (h : UFr n w wr (k + 1) x) (hgo : k + 1 = 64 ∨ 0 < x) :
    UFr n w (wr.setCell ⟨w.heap.size, k, none⟩ (.int .u8 (48 + x % 10 : Nat))) k (x / 10) := by
  obtain ⟨cs, tl, hbw, hblk, hcs, hil, htd, hcell, hst⟩ := h
  refine ⟨_, (x % 10) :: tl, hbw.setCell (Nat.le_refl _) _, hblk.set_ k _, by simpa using hcs, by simp; omega, ?_, ?_, .inr ⟨by simp, ?_⟩⟩
  · intro d hd
    rcases List.mem_cons.1 hd with rfl | hd
    · exact Nat.mod_lt _ (by decide)
    · exact htd d hd
  · intro j hj
    cases j with
    | zero => simp [dAt, Array.getElem?_setIfInBounds, hcs]; omega
    | succ j =>
      have e : k + (j + 1) = k + 1 + j := by omega
      have e2 := hcell j (by simpa using hj)
      rw [e, Array.getElem?_setIfInBounds_ne (by omega), e2]
      rfl
  · have hs : dg n = dg x ++ tl := by
      rcases hst with ⟨rfl, rfl⟩ | ⟨hne, hst⟩
      · simp
      · have hl : 0 < tl.length := List.length_pos_iff.2 hne
        rw [if_neg (by omega)] at hst
        exact hst
    rw [hs]
    by_cases h10 : x < 10
    · rw [if_pos (Nat.div_eq_of_lt h10), dg_small h10, Nat.mod_eq_of_lt h10]; rfl
    · rw [if_neg (by omega), dg_big h10, List.append_assoc]; rfl

theorem UFr.room {n : Nat} (hn : n < 2 ^ 64) {w wr : World} {i x : Nat} (h : UFr n w wr i x) : 44 ≤ i := by
  obtain ⟨cs, tl, hbw, hblk, hcs, hil, htd, hcell, hst⟩ := h
  have hl := dg_le 19 n (by omega)
  rcases hst with ⟨rfl, rfl⟩ | ⟨hne, hst⟩
  · simp at hil; omega
  · rw [hst] at hl
    simp at hl
    omega

set_option maxHeartbeats 2000000 in
set_option maxRecDepth 100000 in
theorem formatUint_any (n : Nat) (hn : n < 2 ^ 64) (w : World) :
    Calls Tryz.prog 143 #[.int .u64 (n : Nat), .int .i64 10] w fun e w' => e = .returned (.string (txt (dg n))) ∧ Below w.heap.size w w' := by
  go_enter Tryz.func143, Tryz.ntmps143
  go_wp2
  go_loopw [0, 6] (fun s0 s6 wr => ∃ i x : Nat, s0 = .int .u64 (x : Nat) ∧ s6 = .int .i64 i ∧ x ≤ n ∧ UFr n w wr i x) (fun _ i _ => (RowKit.intOf i).toNat)
  case atStart => exact ⟨64, n, rfl, rfl, Nat.le_refl _, _, [], (Below.refl _ _).alloc (Nat.le_refl _) _, Blk.new _ _ _, rfl, rfl, by intro d hd; simp at hd, by intro j hj; simp at hj, .inl ⟨rfl, rfl⟩⟩
  case round =>
    obtain ⟨i, x, rfl, rfl, hx, hu⟩ := hrel
    have hr := hu.room hn
    have hu2 := hu
    obtain ⟨cs, tl, hbw, hblk, hcs, hil, htd, hcell, hst⟩ := hu2
    obtain ⟨k, rfl⟩ : ∃ k, i = k + 1 := ⟨i - 1, by omega⟩
    have hf : wr.frozen? ⟨w.heap.size, k, none⟩ = false := hblk.frozen k
    obtain ⟨u0, hu0⟩ : ∃ u0, wr.cell? ⟨w.heap.size, k, none⟩ = some u0 := by
      rw [hblk.cell]
      exact ⟨_, Array.getElem?_eq_getElem (by omega)⟩
    by_cases h64 : k + 1 = 64
    · have hn' := hide (hu.next (.inl h64))
      obtain rfl : k = 63 := by omega
      replace hu := hide hu
      replace hst := hide hst
      replace hcell := hide hcell
      replace hcs := hide hcs
      replace hblk := hide hblk
      clear hil
      go_wp2
      go_roundw
      case rel => exact ⟨63, x / 10, by simp, rfl, by omega, by rw [hex_at _ (Nat.mod_lt _ (by decide))]; exact hn'.out⟩
      case measure => decide
    · by_cases h0 : 0 < x
      · have hn' := hide (hu.next (.inr h0))
        have hk : k < 63 := by omega
        replace hu := hide hu
        replace hst := hide hst
        replace hcell := hide hcell
        replace hcs := hide hcs
        replace hblk := hide hblk
        clear hil
        go_wp2
        go_roundw
        case rel => exact ⟨k, x / 10, by simp, by first | rfl | go_num, by omega, by rw [hex_at _ (Nat.mod_lt _ (by decide))]; exact hn'.out⟩
        case measure => simp [RowKit.intOf]
      · obtain rfl : x = 0 := by omega
        have hdg : dg n = tl := by
          rcases hst with ⟨rfl, rfl⟩ | ⟨hne, hst⟩
          · simp at hil; omega
          · simpa using hst
        have hcv := hide (run_convert_bytes_arg (P := Tryz.prog) wr 119 5 (by rfl) (by rfl) w.heap.size (k + 1) tl.length tl.length (tl.map fun d => ((48 + d : Nat) : Int)) (by simp) (by
          intro j hj
          rw [hblk.cell, hcell j hj]
          simp [dAt, List.getD, List.getElem?_eq_getElem hj]) 9 (by rfl))
        replace hu := hide hu
        replace hst := hide hst
        replace hcell := hide hcell
        replace hcs := hide hcs
        replace hblk := hide hblk
        have hsl : (Instr.sliceAt 131 (.pointer (some ⟨w.heap.size, 0, none⟩)) (some (.int .i64 ((k : Int) + 1))) none none).run Tryz.prog wr = .ok (.slice (some ⟨w.heap.size, k + 1, none⟩) tl.length tl.length) wr := by
          have e : Tryz.prog.arrayLen 131 = 64 := by rfl
          rw [run_sliceAt_array_l wr 131 _ (by rfl) .i64 ((k : Int) + 1) (by omega) (by rw [e]; omega), e]
          have e2 : (Tryz.prog.elem 131) = 5 := by rfl
          have e3 : (Go.sizeOf 5).run Tryz.prog wr = .ok 1 wr := by rfl
          rw [e2, e3]
          simp only [Result.andThen, slicedAt]
          rw [if_neg (by omega), show 64 - ((k : Int) + 1).toNat = tl.length by omega]
          simp [Addr.add, show ((k : Int) + 1).toNat = k + 1 by omega]
        have hcv := hcv.out
        go_wp2
        go_ret
        exact ⟨by rw [← nums_txt]; congr 3, hbw⟩

/-- The printed text of a whole number. -/
def itxt (n : Int) : ByteArray := if n < 0 then ⟨#[45]⟩ ++ txt (dg n.natAbs) else txt (dg n.natAbs)

theorem wrap_neg_neg {m : Nat} (h0 : 0 < m) (h1 : (m : Int) ≤ 9223372036854775808) : IntKind.u64.wrap (-IntKind.u64.wrap (-(m : Int))) = m := by
  have e : ∀ x : Int, IntKind.u64.wrap x = x % 18446744073709551616 := fun x => rfl
  rw [e, e]
  omega

set_option maxHeartbeats 2000000 in
set_option maxRecDepth 100000 in
theorem formatInt_any (n : Int) (h0 : -9223372036854775808 ≤ n) (h1 : n ≤ 9223372036854775807) (w : World) :
    Calls Tryz.prog 121 #[.int .i64 n, .int .i64 10] w fun e w' => e = .returned (.string (itxt n)) ∧ Below w.heap.size w w' := by
  unfold itxt
  have hlt : n.natAbs < 2 ^ 64 := by omega
  go_enter Tryz.func121, Tryz.ntmps121
  by_cases hneg : n < 0
  · rw [if_pos hneg]
    obtain ⟨m, rfl⟩ : ∃ m : Nat, n = -(m : Int) := ⟨n.natAbs, by omega⟩
    rw [Int.natAbs_neg, Int.natAbs_natCast] at hlt ⊢
    have hf := formatUint_any m hlt
    have hl : (txt (dg m)).size ≤ 20 := by rw [txt_size]; exact dg_le 19 m (by omega)
    clear hlt
    have hw := wrap_neg_neg (m := m) (by omega) (by omega)
    replace hw := hide hw
    go_wp2_with (rw [hw.out]; go_at_call 143; refine (hf _).mono ?_; rintro e w1 ⟨rfl, hb1⟩)
    go_ret
    exact ⟨rfl, hb1⟩
  · rw [if_neg hneg]
    obtain ⟨m, rfl⟩ : ∃ m : Nat, n = (m : Int) := ⟨n.natAbs, by omega⟩
    rw [Int.natAbs_natCast] at hlt ⊢
    have hf := formatUint_any m hlt
    clear hlt
    go_wp2_with (go_at_call 143; refine (hf _).mono ?_; rintro e w1 ⟨rfl, hb1⟩)
    go_ret
    exact ⟨rfl, hb1⟩
end Go.Proofs.YtbnbemacljjimaaGreatDoor

namespace Go.Proofs.YtbnbemacljjimaaGreatDoor
open Go.RowKit Go.Lib
set_option linter.unusedVariables false

/-- The bytes behind a slice. -/
def DS (w : World) (v : Value) (ds : List Nat) : Prop :=
  ∃ A c, v = .slice A ds.length c ∧ ds.length ≤ c ∧ c ≤ 9223372036854775807 ∧ (0 < ds.length → ∃ g o cs fz, A = some ⟨g, o, none⟩ ∧ w.heap[g]? = some (.cells cs 5 fz) ∧ ∀ j, j < ds.length → cs[o + j]? = some (.int .u8 (dAt ds j : Nat)))

/-- A decimal at block p. -/
def Dc (w : World) (p : Nat) (ds : List Nat) (dp : Int) : Prop :=
  ∃ sv, Blk w p 232 #[sv, .int .i64 dp] ∧ DS w sv ds

theorem DS.keep {w w' : World} {v : Value} {ds : List Nat} (h : DS w v ds) (hk : ∀ (g : Nat) cs fz, w.heap[g]? = some (.cells cs 5 fz) → w'.heap[g]? = w.heap[g]?) : DS w' v ds := by
  obtain ⟨A, c, rfl, h1, h2, h3⟩ := h
  refine ⟨A, c, rfl, h1, h2, fun h0 => ?_⟩
  obtain ⟨g, o, cs, fz, rfl, hg, hc⟩ := h3 h0
  exact ⟨g, o, cs, fz, rfl, (hk g cs fz hg).trans hg, hc⟩

theorem lt_of_heap {w : World} {g : Nat} {o : Obj} (h : w.heap[g]? = some o) : g < w.heap.size := by
  by_cases hl : g < w.heap.size
  · exact hl
  · rw [Array.getElem?_eq_none (by omega)] at h
    cases h

theorem DS.grown {w w' : World} {v : Value} {ds : List Nat} {p : Nat} (h : DS w v ds) (hg : w.grownBy w' (some p)) {cs : Array Value} {t : TypeId} (hp : Blk w p t cs) (ht : t ≠ 5) : DS w' v ds :=
  h.keep fun g cs' fz hc => hg.block g (lt_of_heap hc) (by
    intro e
    injection e with e
    subst e
    unfold Blk at hp
    rw [hp] at hc
    injection hc with hc
    injection hc with _ hc
    exact ht hc)

theorem DS.below {w w' : World} {v : Value} {ds : List Nat} (h : DS w v ds) (hb : Below w.heap.size w w') : DS w' v ds :=
  h.keep fun g cs' fz hc => hb.block g (lt_of_heap hc)

theorem DS.cell {w : World} {A : Option Addr} {c n : Nat} {ds : List Nat} (h : DS w (.slice A n c) ds) (j : Nat) (hj : j < ds.length) : ∃ g o, A = some ⟨g, o, none⟩ ∧ n = ds.length ∧ w.cell? ⟨g, o + j, none⟩ = some (.int .u8 (dAt ds j : Nat)) := by
  obtain ⟨A', c', e, h1, h2, h3⟩ := h
  injection e with e1 e2 e3
  subst e1 e2 e3
  obtain ⟨g, o, cs, fz, rfl, hg, hc⟩ := h3 (by omega)
  refine ⟨g, o, rfl, rfl, ?_⟩
  rw [Joins.cell_of_block hg]
  exact hc j hj

def dpOf (ds : List Nat) (dp : Int) : Int := if ds = [] then 0 else dp
def clen : Option Value → Nat
  | some (.slice _ n _) => n
  | _ => 0
theorem clen_at {w : World} {a : Addr} {A : Option Addr} {n c : Nat} (h : w.cell? a = some (.slice A n c)) : clen (w.cell? a) = n := by rw [h]; rfl

theorem dAt_last {es : List Nat} (hl : 0 < es.length) : es.getLast? = some (dAt es (es.length - 1)) := by
  rw [List.getLast?_eq_getElem?]
  simp [dAt, List.getD, List.getElem?_eq_getElem (show es.length - 1 < es.length by omega)]

theorem DS.init {w : World} {g o c : Nat} {es : List Nat} {cs : Array Value} {fz : Nat × Nat} (h1 : es.length ≤ c) (h2 : c ≤ 9223372036854775807) (hg : w.heap[g]? = some (.cells cs 5 fz)) (hc : ∀ j, j < es.length → cs[o + j]? = some (.int .u8 (dAt es j : Nat))) : DS w (.slice (some ⟨g, o, none⟩) (es.length - 1) c) es.dropLast := by
  refine ⟨some ⟨g, o, none⟩, c, by simp, by simp; omega, h2, fun hl => ⟨g, o, cs, fz, rfl, hg, fun j hj => ?_⟩⟩
  simp at hj
  rw [hc j (by omega)]
  simp [dAt, List.getD, hj, List.getElem?_eq_getElem (show j < es.length by omega)]

set_option maxHeartbeats 2000000 in
set_option maxRecDepth 100000 in
theorem trim_any (w : World) (p : Nat) (ds : List Nat) (dp : Int) (h : Dc w p ds dp) :
    Calls Tryz.prog 198 #[.pointer (some ⟨p, 0, none⟩)] w fun e w' => e = .returned (.pointer (some ⟨p, 0, none⟩)) ∧ w.grownBy w' (some p) ∧ Dc w' p (trimD ds) (dpOf (trimD ds) dp) := by
  go_enter Tryz.func198, Tryz.ntmps198
  go_wp2
  go_loopw [] (fun wr => ∃ es : List Nat, w.grownBy wr (some p) ∧ Dc wr p es dp ∧ trimD es = trimD ds) (fun wr => clen (wr.cell? ⟨p, 0, none⟩))
  case atStart => exact ⟨ds, World.grownBy.refl _ _, h, rfl⟩
  case round =>
    obtain ⟨es, hgr, ⟨sv, hblk, A, c, rfl, h1, h2, h3⟩, het⟩ := hrel
    have hc0 : wr.cell? ⟨p, 0, none⟩ = some (.slice A es.length c) := by rw [hblk.cell]; rfl
    by_cases hl : 0 < es.length
    · obtain ⟨g, o, cs, fz, rfl, hg, hc⟩ := h3 hl
      have hcl : wr.cell? ⟨g, o + (es.length - 1), none⟩ = some (.int .u8 (dAt es (es.length - 1) : Nat)) := by rw [Joins.cell_of_block hg]; exact hc _ (by omega)
      obtain ⟨d, hd⟩ : ∃ d, dAt es (es.length - 1) = d := ⟨_, rfl⟩
      rw [hd] at hcl
      have hk := hide (And.intro hgr (And.intro hblk (And.intro h1 (And.intro h2 (And.intro hg (And.intro hc (And.intro hd het)))))))
      clear hgr hblk h3 hg hc het hd
      go_wp2
      go_quiet (fail)
      obtain ⟨W1, hW1⟩ : ∃ W1, W1 = wr.drewN nq := ⟨_, rfl⟩
      rw [← hW1]
      have hc0' : W1.cell? ⟨p, 0, none⟩ = some (.slice (some ⟨g, o, none⟩) es.length c) := by rw [hW1]; exact hc0
      have hf0 : W1.frozen? ⟨p, 0, none⟩ = false := by rw [hW1]; exact hk.out.2.1.frozen 0
      replace hW1 := hide hW1
      by_cases hz : d = 0
      · subst hz
        go_wp2_with fail
        go_region
        obtain ⟨hgr, hblk, h1, h2, hg, hc, hd, het⟩ := hk.out
        rw [hW1.out]
        have hgr1 := only_setCell (only_drewN hgr nq) (p := ⟨p, 0, none⟩) (.inl rfl) (.slice (some ⟨g, o, none⟩) (es.length - 1) c)
        have hb1 := (hblk.drewN nq).set_ 0 (.slice (some ⟨g, o, none⟩) (es.length - 1) c)
        have hne : p ≠ g := by
          intro e
          subst e
          unfold Blk at hblk
          rw [hblk] at hg
          injection hg with hg
          injection hg with _ hg
          exact absurd hg (by decide)
        have hg1 : ((wr.drewN nq).setCell ⟨p, 0, none⟩ (.slice (some ⟨g, o, none⟩) (es.length - 1) c)).heap[g]? = some (.cells cs 5 fz) := by
          exact (Below.heap_setCell _ _ _ _ (Ne.symm hne)).trans hg
        have hds := DS.init h1 h2 hg1 hc
        go_wp2
        go_roundw
        case rel => exact ⟨es.dropLast, only_drew hgr1, ⟨_, hb1.drew, hds.keep fun _ _ _ _ => rfl⟩, by rw [← het, trimD_eq es, if_pos (by rw [dAt_last hl, hd])]⟩
        case measure =>
          rw [clen_at hc0, clen_at (A := some ⟨g, o, none⟩) (n := es.length - 1) (c := c) (by rw [hb1.drew.cell]; rfl)]
          omega
      · have hz' : (((d : Nat) : Int) == 0) = false := by simp; omega
        have hdp : dpOf (trimD es) dp = dp ∧ trimD es = es := by
          have e : trimD es = es := by
            rw [trimD_eq es, if_neg]
            rw [dAt_last hl, hk.out.2.2.2.2.2.2.1]
            simpa using hz
          rw [e]
          unfold dpOf
          rw [if_neg (by intro e; subst e; simp at hl)]
          exact ⟨rfl, rfl⟩
        replace hdp := hide hdp
        go_wp2
        go_ret
        obtain ⟨hgr, hblk, h1, h2, hg, hc, hd, het⟩ := hk.out
        rw [hW1.out, ← het, hdp.out.2]
        have hdp2 := hdp.out.1
        rw [hdp.out.2] at hdp2
        rw [hdp2]
        exact ⟨rfl, only_drewN hgr nq, _, hblk.drewN nq, some ⟨g, o, none⟩, c, rfl, h1, h2, fun _ => ⟨g, o, cs, fz, rfl, hg, hc⟩⟩
    · have he0 : es = [] := List.eq_nil_of_length_eq_zero (by omega)
      subst he0
      clear h3
      have hc1 : wr.cell? ⟨p, 1, none⟩ = some (.int .i64 dp) := by rw [hblk.cell]; rfl
      have hf1 : wr.frozen? ⟨p, 1, none⟩ = false := hblk.frozen 1
      have hk := hide (And.intro hgr (And.intro hblk (And.intro h1 (And.intro h2 het))))
      clear hgr hblk het
      replace h := hide h
      go_wp2
      go_quiet (fail)
      obtain ⟨W1, hW1⟩ : ∃ W1, W1 = wr.drewN nq := ⟨_, rfl⟩
      rw [← hW1]
      have hc0' : W1.cell? ⟨p, 0, none⟩ = some (.slice A 0 c) := by rw [hW1]; exact hc0
      have hc1' : W1.cell? ⟨p, 1, none⟩ = some (.int .i64 dp) := by rw [hW1]; exact hc1
      have hf1' : W1.frozen? ⟨p, 1, none⟩ = false := by rw [hW1]; exact hf1
      replace hW1 := hide hW1
      clear hc0 hc1 hf1
      go_wp2
      go_ret
      obtain ⟨hgr, hblk, h1, h2, het⟩ := hk.out
      have e : trimD [] = ([] : List Nat) := by rw [trimD_eq]; rfl
      rw [hW1.out, ← het, e]
      refine ⟨rfl, only_setCell (only_drewN hgr nq) (p := ⟨p, 1, none⟩) (.inl rfl) _, _, (hblk.drewN nq).set_ 1 _, ?_⟩
      exact ⟨A, c, rfl, h1, h2, fun hl => absurd hl (by simp)⟩
end Go.Proofs.YtbnbemacljjimaaGreatDoor

namespace Go.Proofs.YtbnbemacljjimaaGreatDoor
open Go.RowKit Go.Lib
set_option linter.unusedVariables false

def dv (d : Nat) : Value := .int .u8 (d : Nat)

theorem Tryz.infoByte : (Tryz.prog.info? 5).map (fun i => (i.zero, i.size, i.bytes)) = some (some (.int .u8 0), 1, 1) := by kernel_rfl

/-- append of one byte, which lies in the newest block. -/
theorem wpList_push {ops : Array Oper} {rest : List Oper} {o : Oper} {a : Act} {Q : Exit → Act → World → Prop} (w : World) (hgd : o.guard = none) (s x : Operand)
    (ho : o.op = .call { callee := .builtin .append, args := #[s, x], argTypes := #[119, 119] }) (base : Nat) (v : Value) (n : Nat) (xs : List Value) (u : Value) (hs : a.eval s = v) (hown : w.ownsRow base 5 1 v n xs)
    (hx : a.eval x = .slice (some ⟨w.heap.size, 0, none⟩) 1 1) (hu : u.oneCell' = true) (hn : n < 1000000) (hbase : base ≤ w.heap.size)
    (h : ∀ g cap w', w'.ownsRow base 5 1 (.slice (some ⟨g, 0, none⟩) (n + 1) cap) (n + 1) (xs ++ [u]) → w.grownBy w' v.ownBlock → (v.ownBlock = some g ∨ w.heap.size ≤ g) → wpList Tryz.prog ops Q rest (a.put o.dst (.slice (some ⟨g, 0, none⟩) (n + 1) cap)) w') :
    wpList Tryz.prog ops Q (o :: rest) a (w.alloc (.cells #[u] 5)) := by
  obtain ⟨i5, hi, hz0, hz1, hz2⟩ := info_parts Tryz.infoByte
  refine wpList_append_own_at _ hgd s x 119 ho base 5 i5 _ 1 1 Tryz.underlying119 hi hz0 hz1 hz2 rfl (Nat.zero_lt_succ _) v n xs hs (hown.alloc _) ⟨w.heap.size, 0, none⟩ 1 1 [u] hx rfl (cell_one_new w u 5) (by intro y hy; simp at hy; subst hy; exact hu) (by unfold maxLen; omega) (by omega) (by simp; omega) ?_
  intro v' w' own4 g4 _ loc4
  obtain ⟨g', cap', hv', _, _⟩ := own4.form (Nat.succ_pos _)
  subst hv'
  have hg : w.grownBy w' v.ownBlock := (World.grownBy.trans (only_alloc (World.grownBy.refl w _) _) g4)
  refine h g' cap' w' own4 hg ?_
  rcases loc4 with h1 | h1
  · exact .inl h1.symm
  · simp [Value.ownBlock] at h1
    exact .inr (by omega)

/-- The loop's state: i digits are taken over. -/
def NFr (ts : List Nat) (w wr : World) (p tb : Nat) (i : Nat) : Prop :=
  ∃ sv, Below w.heap.size w wr ∧ Blk wr p 232 #[sv, .int .i64 0] ∧ wr.ownsRow w.heap.size 5 1 sv i ((ts.take i).map dv) ∧ (∀ g, sv.ownBlock = some g → g ≠ tb) ∧
    (∀ j, j < ts.length → wr.cell? ⟨tb, j, none⟩ = some (.int .u8 (48 + dAt ts j : Nat)))

theorem lt_of_cell {w : World} {g i : Nat} {u : Value} (h : w.cell? ⟨g, i, none⟩ = some u) : g < w.heap.size := by
  by_cases hl : g < w.heap.size
  · exact hl
  · exfalso
    have e : w.heap[g]? = none := Array.getElem?_eq_none (by omega)
    simp [World.cell?, e] at h

theorem NFr.next {ts : List Nat} {w wr w' : World} {p tb i g cap : Nat} {sv : Value} (hp : w.heap.size ≤ p) (hi : i < ts.length)
    (hbw : Below w.heap.size w wr) (hblk : Blk wr p 232 #[sv, .int .i64 0]) (hown : wr.ownsRow w.heap.size 5 1 sv i ((ts.take i).map dv)) (hloc : ∀ g, sv.ownBlock = some g → g ≠ tb)
    (hcell : ∀ j, j < ts.length → wr.cell? ⟨tb, j, none⟩ = some (.int .u8 (48 + dAt ts j : Nat)))
    (own4 : w'.ownsRow w.heap.size 5 1 (.slice (some ⟨g, 0, none⟩) (i + 1) cap) (i + 1) ((ts.take i).map dv ++ [dv (dAt ts i)])) (g4 : wr.grownBy w' sv.ownBlock) (loc4 : sv.ownBlock = some g ∨ wr.heap.size ≤ g) :
    Blk w' p 232 #[sv, .int .i64 0] ∧ NFr ts w (w'.setCell ⟨p, 0, none⟩ (.slice (some ⟨g, 0, none⟩) (i + 1) cap)) p tb (i + 1) := by
  have hne : sv.ownBlock ≠ some p := own_blk_ne hown hblk (by decide)
  have hb4 : Blk w' p 232 #[sv, .int .i64 0] := hblk.grown g4 (Ne.symm hne)
  have htb : tb < wr.heap.size := lt_of_cell (hcell i hi)
  have hgt : g ≠ tb := by
    rcases loc4 with h1 | h1
    · exact hloc g h1
    · omega
  have hpt : p ≠ tb := by
    intro e
    subst e
    have h1 := hblk.cell i
    rw [hcell i hi] at h1
    have h2 : i < 2 := by
      by_cases h2 : i < 2
      · exact h2
      · rw [Array.getElem?_eq_none (by simp; omega)] at h1; cases h1
    match i, h2 with
    | 0, _ =>
      simp at h1
      have hno := hown.2
      rw [← h1] at hno
      rcases hno with ⟨h, _⟩ | ⟨_, _, _, h, _⟩ <;> cases h
    | 1, _ => simp at h1
  have hgp : g ≠ p := by
    intro e
    subst e
    exact own_blk_ne own4 hb4 (by decide) rfl
  refine ⟨hb4, _, ?_, hb4.set_ 0 _, ?_, ?_, ?_⟩
  · refine Below.setCell (hbw.trans ⟨g4.os, g4.tape, g4.output, g4.size, fun k hk => g4.block k (Nat.lt_of_lt_of_le hk hbw.size) ?_⟩) hp _
    intro e
    have := (hown.lt k e.symm).1
    omega
  · have e : ts.take (i + 1) = ts.take i ++ [dAt ts i] := by
      rw [List.take_add_one, List.getElem?_eq_getElem hi]
      simp [dAt, List.getElem?_eq_getElem hi]
    rw [e, List.map_append]
    exact ownsRow_setCell_other own4 (by simp [Value.ownBlock]; exact hgp) _
  · intro g' hg'
    injection hg' with hg'
    rw [← hg']; exact hgt
  · intro j hj
    rw [World.cell?_of_block (Below.heap_setCell _ _ _ _ (Ne.symm hpt))]
    rw [World.cell?_of_block (g4.block tb htb (fun e => hloc tb e.symm rfl))]
    exact hcell j hj

set_option maxHeartbeats 2000000 in
set_option maxRecDepth 100000 in
theorem newDecimal_any (n : Nat) (hn : n < 2 ^ 64) (h0 : 0 < n) (w : World) :
    Calls Tryz.prog 166 #[.int .u64 (n : Nat)] w fun e w' => ∃ p, e = .returned (.pointer (some ⟨p, 0, none⟩)) ∧ w.heap.size ≤ p ∧ Below w.heap.size w w' ∧ Dc w' p (trimD (dg n)) ((dg n).length : Nat) := by
  have hf := formatUint_any n hn
  have hl : (txt (dg n)).size ≤ 20 := by rw [txt_size]; exact dg_le 19 n (by omega)
  go_enter Tryz.func166, Tryz.ntmps166
  go_wp2_with (go_at_call 143; refine (hf _).mono ?_; rintro e w1 ⟨rfl, hb1⟩)
  have hcv := Go.Lib.run_convert_string_bytes (P := Tryz.prog) w1 9 119 5 (txt (dg n)) (by rfl) (by rfl) (by rfl)
  obtain ⟨W2, hW2⟩ : ∃ W2, W2 = bytesWorld w1 5 (txt (dg n)) := ⟨_, rfl⟩
  rw [← hW2] at hcv
  replace hcv := hide hcv
  have hB2 : Below w1.heap.size w1 W2 := by
    rw [hW2]
    refine ⟨rfl, rfl, rfl, by rw [bytesWorld_size]; omega, fun k hk => bytesWorld_at_old w1 5 _ k hk⟩
  have hblk0 : Blk w1 w.heap.size 232 #[.slice none 0 0, .int .i64 0] := (Blk.new w _ _).below hb1 (by simp)
  have hbw2 : Below w.heap.size w W2 := ((((Below.refl _ w).alloc (Nat.le_refl _) _).trans (hb1.mono (by simp))).trans (hB2.mono (Nat.le_trans (by simp) hb1.size)))
  have hcell2 : ∀ j, j < (dg n).length → W2.cell? ⟨w1.heap.size, j, none⟩ = some (.int .u8 (48 + dAt (dg n) j : Nat)) := by
    intro j hj
    rw [hW2, bytesWorld_cell w1 5 _ j (by rw [txt_size]; exact hj)]
    have hd : dAt (dg n) j < 10 := dAt_lt (dg_dig n) j
    have e1 : (txt (dg n)).data.toList = (dg n).map fun d => UInt8.ofNat (48 + d) := rfl
    have e2 : ((dg n).map fun d => UInt8.ofNat (48 + d)).getD j 0 = UInt8.ofNat (48 + dAt (dg n) j) := by
      simp [dAt, List.getElem?_eq_getElem hj]
    rw [e1, e2, UInt8.toNat_ofNat_of_lt' (by show 48 + dAt (dg n) j < 256; omega)]
  have hne : w.heap.size ≠ w1.heap.size := by have := hblk0.lt; omega
  have hblk2 : Blk W2 w.heap.size 232 #[.slice none 0 0, .int .i64 0] := hblk0.below hB2 hblk0.lt
  have hst : NFr (dg n) w W2 w.heap.size w1.heap.size 0 := ⟨_, hbw2, hblk2, ⟨rfl, .inl ⟨rfl, rfl⟩⟩, (by intro g hg; cases hg), hcell2⟩
  have hcv := hcv.out
  rw [txt_size] at hcv
  rw [hcv]
  clear hcv hW2 hblk0 hB2 hf hblk2 hbw2 hcell2
  replace hst := hide hst
  replace hb1 := hide hb1
  go_wp2
  go_loopw [10] (fun s10 wr => ∃ i : Nat, s10 = .int .i64 i ∧ i ≤ (dg n).length ∧ NFr (dg n) w wr w.heap.size w1.heap.size i) (fun i _ => (dg n).length - (RowKit.intOf i).toNat)
  case atStart => exact ⟨0, rfl, Nat.zero_le _, hst.out⟩
  case round =>
    obtain ⟨i, rfl, hi, sv, hbw, hblk, hown, hloc, hcell⟩ := hrel
    by_cases hlt : i < (dg n).length
    · have hcx := hcell i hlt
      have hc0 : wr.cell? ⟨w.heap.size, 0, none⟩ = some sv := by rw [hblk.cell]; rfl
      have hf0 := hblk.frozen 0
      have hd : dAt (dg n) i < 10 := dAt_lt (dg_dig n) i
      have hL : (dg n).length ≤ 20 := by rw [txt_size] at hl; exact hl
      have hown' := hide hown
      have hk := hide (And.intro hbw (And.intro hblk (And.intro hloc hcell)))
      clear hbw hown hloc hcell
      obtain ⟨d, hde⟩ : ∃ d, dAt (dg n) i = d := ⟨_, rfl⟩
      rw [hde] at hcx hd
      have hsub : IntKind.u8.wrap (((48 + d : Nat) : Int) - 48) = d := by
        have e : ∀ x : Int, IntKind.u8.wrap x = x % 256 := fun x => rfl
        rw [e]; omega
      have hu : Value.int .u8 (48 + (d : Int) - 48) = dv (dAt (dg n) i) := by rw [hde]; unfold dv; congr 1; omega
      have hbs : w.heap.size ≤ wr.heap.size := hk.out.1.size
      replace hu := hide hu
      replace hde := hide hde
      clear hsub
      go_wp2_with (refine wpList_push wr rfl (.tmp 15) (.tmp 18) rfl w.heap.size sv i _ (.int .u8 (48 + (d : Int) - 48)) rfl hown'.out rfl rfl (by omega) hbs ?_; intro g cap W4 own4 g4 loc4; rw [hu.out] at own4; have hn4 := NFr.next (Nat.le_refl _) hlt hk.out.1 hk.out.2.1 hown'.out hk.out.2.2.1 hk.out.2.2.2 own4 g4 loc4; clear own4 g4 loc4; have c4 : W4.cell? ⟨w.heap.size, 0, none⟩ = some sv := hn4.1.cell 0; have f4 := hn4.1.frozen 0; replace hn4 := hide hn4)
      go_roundw
      case rel => exact ⟨i + 1, by go_num, by omega, hn4.out.2⟩
      case measure => simp [RowKit.intOf]; omega
    · obtain rfl : i = (dg n).length := by omega
      have hc0 : wr.cell? ⟨w.heap.size, 0, none⟩ = some sv := by rw [hblk.cell]; rfl
      have hc1 : wr.cell? ⟨w.heap.size, 1, none⟩ = some (.int .i64 0) := by rw [hblk.cell]; rfl
      have hf1 := hblk.frozen 1
      have hL : (dg n).length ≤ 20 := by rw [txt_size] at hl; exact hl
      obtain ⟨g, cap, rfl⟩ := Go.Joins.ownsRow_form hown (List.length_pos_iff.2 (dg_ne n))
      rw [List.take_length] at hown
      have hDc : Dc (wr.setCell ⟨w.heap.size, 1, none⟩ (.int .i64 ((dg n).length : Nat))) w.heap.size (dg n) ((dg n).length : Nat) := by
        refine ⟨_, hblk.set_ 1 _, ?_⟩
        have hne : g ≠ w.heap.size := fun e => own_blk_ne hown hblk (by decide) (by rw [e]; rfl)
        have hown2 := ownsRow_setCell_other hown (a := ⟨w.heap.size, 1, none⟩) (by simp [Value.ownBlock]; exact hne) (.int .i64 ((dg n).length : Nat))
        rcases hown2.2 with ⟨h1, h2⟩ | ⟨g', cap', cur, hv, h1, h2, h3, h4, h5, h6⟩
        · cases h1
        · injection hv with hv1 hv2 hv3
          injection hv1 with hv1
          injection hv1 with hv1
          subst hv1 hv3
          refine ⟨_, _, rfl, h3, h4, fun _ => ⟨g, 0, cur, (0, 0), rfl, h2, fun j hj => ?_⟩⟩
          have e : (cur.toList.take ((dg n).length * 1))[j]? = some (dv (dAt (dg n) j)) := by
            rw [h6, List.getElem?_map, List.getElem?_eq_getElem hj]
            simp [dAt, List.getElem?_eq_getElem hj]
          rw [List.getElem?_take_of_lt (by omega), Array.getElem?_toList] at e
          rw [Nat.zero_add]
          exact e
      have hB := (hbw.setCell (p := ⟨w.heap.size, 1, none⟩) (Nat.le_refl _) (.int .i64 ((dg n).length : Nat)))
      replace hDc := hide hDc
      replace hB := hide hB
      clear hblk hown hloc hcell hbw
      go_wp2_with (go_at_call 198; refine (trim_any _ _ _ _ hDc.out).mono ?_; rintro e w3 ⟨rfl, hg3, hd3⟩)
      go_ret
      refine ⟨_, rfl, Nat.le_refl _, hB.out.trans ⟨hg3.os, hg3.tape, hg3.output, hg3.size, fun k hk => hg3.block k (Nat.lt_of_lt_of_le hk hB.out.size) (by intro e; injection e with e; omega)⟩, ?_⟩
      have hne : trimD (dg n) ≠ [] := (trim_fst (dg_fst h0) (dg_ne n)).1
      unfold dpOf at hd3
      rw [if_neg hne] at hd3
      exact hd3
end Go.Proofs.YtbnbemacljjimaaGreatDoor

namespace Go.Proofs.YtbnbemacljjimaaGreatDoor
open Go.RowKit Go.Lib
set_option linter.unusedVariables false

theorem pow_le55 {k : Nat} (hk : k ≤ 55) : 2 ^ k ≤ 36028797018963968 := Nat.le_trans (Nat.pow_le_pow_right (by decide) hk) (by decide)

theorem ph1_small {ds : List Nat} {k i : Nat} (hne : ds ≠ []) (hf : Fst ds) (hk : k ≤ 55) (h : Ph1 ds k (i + 1)) : i ≤ 17 := by
  have h1 := h i (Nat.lt_succ_self i)
  have h2 := pow_le55 hk
  by_cases hi : i ≤ 17
  · exact hi
  · exfalso
    obtain ⟨j, rfl⟩ : ∃ j, i = j + 1 := ⟨i - 1, by omega⟩
    have h3 := pv_ge hne hf j
    have h4 : (10 : Nat) ^ 17 ≤ 10 ^ j := Nat.pow_le_pow_right (by decide) (by omega)
    have h5 : (10 : Nat) ^ 17 = 100000000000000000 := by decide
    omega

theorem pv_zero {ds : List Nat} (hne : ds ≠ []) (hf : Fst ds) {i : Nat} (hi : 0 < i) : 0 < pv ds i := by
  obtain ⟨j, rfl⟩ : ∃ j, i = j + 1 := ⟨i - 1, by omega⟩
  have := pv_ge hne hf j
  have : 0 < 10 ^ j := Nat.pow_pos (by decide)
  omega

theorem shr_zero {n k : Nat} (h : n < 2 ^ k) : (((n : Nat) : Int) / 2 ^ k == 0) = true := by
  have e : ((n : Nat) : Int) / 2 ^ k = ((n / 2 ^ k : Nat) : Int) := by simp
  rw [e, Nat.div_eq_of_lt h]; rfl
theorem shr_pos {n k : Nat} (h : ¬ n < 2 ^ k) : (((n : Nat) : Int) / 2 ^ k == 0) = false := by
  have e : ((n : Nat) : Int) / 2 ^ k = ((n / 2 ^ k : Nat) : Int) := by simp
  have : 0 < n / 2 ^ k := Nat.div_pos (by omega) (Nat.pow_pos (by decide))
  rw [e]
  simp
  omega

/-- The digits as the walk reads them. -/
def Dg (w : World) (p g o c : Nat) (ds : List Nat) (dp : Int) : Prop :=
  Blk w p 232 #[.slice (some ⟨g, o, none⟩) ds.length c, .int .i64 dp] ∧ ds.length ≤ c ∧ c ≤ 9223372036854775807 ∧ p ≠ g ∧ g < w.heap.size ∧ ∀ j, j < ds.length → w.cell? ⟨g, o + j, none⟩ = some (.int .u8 (dAt ds j : Nat))

theorem Dc.dg {w : World} {p : Nat} {ds : List Nat} {dp : Int} (h : Dc w p ds dp) (hne : ds ≠ []) : ∃ g o c, Dg w p g o c ds dp := by
  obtain ⟨sv, hb, A, c, rfl, h1, h2, h3⟩ := h
  obtain ⟨g, o, cs, fz, rfl, hg, hc⟩ := h3 (List.length_pos_iff.2 hne)
  refine ⟨g, o, c, hb, h1, h2, ?_, lt_of_heap hg, fun j hj => ?_⟩
  · intro e
    subst e
    unfold Blk at hb
    rw [hb] at hg
    injection hg with hg
    injection hg with _ hg
    exact absurd hg (by decide)
  · rw [Joins.cell_of_block hg]
    exact hc j hj

theorem low_bits {n k : Nat} (hn : n < 18446744073709551616) (hk : k ≤ 55) : bits BinOp.and IntKind.u64 (n : Int) (IntKind.u64.wrap (IntKind.u64.wrap (2 ^ k) - 1)) = (n % 2 ^ k : Nat) := by
  have h1 := pow_le55 hk
  have h0 : 0 < 2 ^ k := Nat.pow_pos (by decide)
  have e : ∀ x : Int, IntKind.u64.wrap x = x % 18446744073709551616 := fun x => rfl
  have e2 : ((2 : Int) ^ k) = ((2 ^ k : Nat) : Int) := by simp
  rw [e, e, e2]
  generalize hK : 2 ^ k = K at *
  have e3 : (((K : Nat) : Int) % 18446744073709551616 - 1) % 18446744073709551616 = ((K - 1 : Nat) : Int) := by omega
  rw [e3, bits_and_u64_nat _ _ hn (by omega), ← hK, Nat.and_two_pow_sub_one_eq_mod]

theorem next_val {n k d : Nat} (hn : n < 10 * 2 ^ k) (hk : k ≤ 55) (hd : d < 10) : IntKind.u64.wrap (IntKind.u64.wrap (bits BinOp.and IntKind.u64 (n : Int) (IntKind.u64.wrap (IntKind.u64.wrap (2 ^ k) - 1)) * 10) + (d : Nat)) = (n % 2 ^ k * 10 + d : Nat) := by
  have h1 := pow_le55 hk
  have h0 : 0 < 2 ^ k := Nat.pow_pos (by decide)
  have hm := Nat.mod_lt n h0
  rw [low_bits (by omega) hk]
  have e : ∀ x : Int, IntKind.u64.wrap x = x % 18446744073709551616 := fun x => rfl
  rw [e, e]
  omega

theorem next_val0 {n k : Nat} (hn : n < 10 * 2 ^ k) (hk : k ≤ 55) : IntKind.u64.wrap (bits BinOp.and IntKind.u64 (n : Int) (IntKind.u64.wrap (IntKind.u64.wrap (2 ^ k) - 1)) * 10) = (n % 2 ^ k * 10 : Nat) := by
  have h1 := pow_le55 hk
  have h0 : 0 < 2 ^ k := Nat.pow_pos (by decide)
  have hm := Nat.mod_lt n h0
  rw [low_bits (by omega) hk]
  have e : ∀ x : Int, IntKind.u64.wrap x = x % 18446744073709551616 := fun x => rfl
  rw [e]
  omega

/-- The second loop's state. -/
def HFr (ds : List Nat) (k i0 : Nat) (dp : Int) (w wr : World) (p g o c i n : Nat) (sv : Value) : Prop :=
  ∃ out : List Nat, Ph2 ds k i0 i n out ∧ wr.ownsRow w.heap.size 5 1 sv out.length (out.map dv) ∧ w.grownBy wr (some p) ∧ g < w.heap.size ∧ Dg wr p g o c ds dp

theorem HFr.next {ds out : List Nat} {k i0 : Nat} {dp : Int} {w wr w4 : World} {p g o c i q g2 cap n' : Nat} {sv : Value}
    (hown : wr.ownsRow w.heap.size 5 1 sv out.length (out.map dv)) (hgr : w.grownBy wr (some p)) (hgl : g < w.heap.size) (hdg : Dg wr p g o c ds dp) (hnx : Ph2 ds k i0 (i + 1) n' (out ++ [q]))
    (own4 : w4.ownsRow w.heap.size 5 1 (.slice (some ⟨g2, 0, none⟩) (out.length + 1) cap) (out.length + 1) (out.map dv ++ [.int .u8 (q : Nat)])) (g4 : wr.grownBy w4 sv.ownBlock) :
    HFr ds k i0 dp w w4 p g o c (i + 1) n' (.slice (some ⟨g2, 0, none⟩) (out.length + 1) cap) := by
  have hsv : ∀ x, sv.ownBlock = some x → w.heap.size ≤ x := fun x hx => (hown.lt x hx).1
  have hgne : some g ≠ sv.ownBlock := fun e => by have := hsv g e.symm; omega
  obtain ⟨q1, q2, q3, q4, q5, q6⟩ := hdg
  refine ⟨out ++ [q], hnx, by simpa [dv] using own4, ?_, hgl, q1.grown g4 (Ne.symm (own_blk_ne hown q1 (by decide))), q2, q3, q4, Nat.lt_of_lt_of_le q5 g4.size, fun j hj => ?_⟩
  · exact ⟨g4.os.trans hgr.os, g4.tape.trans hgr.tape, g4.output.trans hgr.output, Nat.le_trans hgr.size g4.size, fun x hx hn => (g4.block x (Nat.lt_of_lt_of_le hx hgr.size) (fun e => by have := hsv x e.symm; omega)).trans (hgr.block x hx hn)⟩
  · rw [World.cell?_of_block (g4.block g q5 hgne)]
    exact q6 j hj

theorem HFr.cell0 {ds : List Nat} {k i0 : Nat} {dp : Int} {w wr : World} {p g o c i n : Nat} {sv : Value} (h : HFr ds k i0 dp w wr p g o c i n sv) : wr.cell? ⟨p, 0, none⟩ = some (.slice (some ⟨g, o, none⟩) ds.length c) := by
  obtain ⟨_, _, _, _, _, h⟩ := h
  exact h.1.cell 0
theorem HFr.digit {ds : List Nat} {k i0 : Nat} {dp : Int} {w wr : World} {p g o c i n : Nat} {sv : Value} (h : HFr ds k i0 dp w wr p g o c i n sv) (j : Nat) (hj : j < ds.length) : wr.cell? ⟨g, o + j, none⟩ = some (.int .u8 (dAt ds j : Nat)) := by
  obtain ⟨_, _, _, _, _, h⟩ := h
  exact h.2.2.2.2.2 j hj

theorem own_ds {w : World} {base g cap : Nat} {ds : List Nat} (hown : w.ownsRow base 5 1 (.slice (some ⟨g, 0, none⟩) ds.length cap) ds.length (ds.map dv)) : DS w (.slice (some ⟨g, 0, none⟩) ds.length cap) ds := by
  rcases hown.2 with ⟨h1, h2⟩ | ⟨g', cap', cur, hv, h1, h2, h3, h4, h5, h6⟩
  · cases h1
  · injection hv with hv1 hv2 hv3
    injection hv1 with hv1
    injection hv1 with hv1
    subst hv1 hv3
    refine ⟨_, _, rfl, h3, h4, fun _ => ⟨g, 0, cur, (0, 0), rfl, h2, fun j hj => ?_⟩⟩
    have e : (cur.toList.take (ds.length * 1))[j]? = some (dv (dAt ds j)) := by
      rw [h6, List.getElem?_map, List.getElem?_eq_getElem hj]
      simp [dAt, List.getElem?_eq_getElem hj]
    rw [List.getElem?_take_of_lt (by omega), Array.getElem?_toList] at e
    rw [Nat.zero_add]
    exact e

set_option maxHeartbeats 2000000 in
set_option maxRecDepth 100000 in
theorem half_any' (w : World) (p k : Nat) (ds : List Nat) (dp : Int) (h : Dc w p ds dp) (hd : Dig ds) (hne : ds ≠ []) (hf : Fst ds) (hl : ds.length ≤ 1000) (hk0 : 1 ≤ k) (hk : k ≤ 55) (hdp : -1000000 ≤ dp ∧ dp ≤ 1000000) :
    Calls Tryz.prog 200 #[.pointer (some ⟨p, 0, none⟩), .int .i64 (k : Nat)] w fun e w' => e = .returned (.tuple #[]) ∧ w.grownBy w' (some p) ∧
      ∃ i0 i o, Ph1 ds k i0 ∧ 1 ≤ i0 ∧ Ph2 ds k i0 i 0 o ∧ ds.length ≤ i ∧ Dc w' p (trimD o) (dpOf (trimD o) (dp + 1 - i0)) := by
  obtain ⟨g, o, c, hg⟩ := h.dg hne
  have h55 := pow_le55 hk
  have hp0 : 0 < 2 ^ k := Nat.pow_pos (by decide)
  go_enter Tryz.func200, Tryz.ntmps200
  go_wp2
  go_loopw [4, 5] (fun s4 s5 wr => ∃ i : Nat, s4 = .int .u64 (pv ds i : Nat) ∧ s5 = .int .i64 i ∧ Ph1 ds k i ∧ w = wr) (fun _ i _ => 100 - (RowKit.intOf i).toNat)
  case atStart => exact ⟨0, rfl, rfl, fun j hj => absurd hj (Nat.not_lt_zero j), rfl⟩
  case round =>
    obtain ⟨i, rfl, rfl, hph, rfl⟩ := hrel
    have hc0 : w.cell? ⟨p, 0, none⟩ = some (.slice (some ⟨g, o, none⟩) ds.length c) := hg.1.cell 0
    have hi18 : i ≤ 18 := by
      cases i with
      | zero => omega
      | succ i => have := ph1_small hne hf hk hph; omega
    by_cases hm : pv ds i < 2 ^ k
    · have hz := shr_zero hm
      have hph' : Ph1 ds k (i + 1) := fun j hj => by
        by_cases e : j = i
        · rw [e]; exact hm
        · exact hph j (by omega)
      have hi17 := ph1_small hne hf hk hph'
      have hpv' : pv ds (i + 1) = pv ds i * 10 + dAt ds i := rfl
      have hda := dAt_lt hd i
      have hlt55 : pv ds i < 36028797018963968 := by omega
      replace hph' := hide hph'
      replace hph := hide hph
      replace hg := hide hg
      replace h := hide h
      replace hpv' := hide hpv'
      obtain ⟨m, hmm⟩ : ∃ m, pv ds i = m := ⟨_, rfl⟩
      rw [hmm] at hz hm hlt55 ⊢
      replace hmm := hide hmm
      replace h55 := hide h55
      replace hm := hide hm
      by_cases hil : i < ds.length
      · have hci : w.cell? ⟨g, o + i, none⟩ = some (.int .u8 (dAt ds i : Nat)) := hg.out.2.2.2.2.2 i hil
        go_wp2
        go_roundw
        case rel => exact ⟨i + 1, by rw [hpv'.out, hmm.out]; simp, by go_num, hph'.out, trivial⟩
        case measure => simp [RowKit.intOf]; omega
      · have hil0 : 0 < i := by have := List.length_pos_iff.2 hne; omega
        have hmp : 0 < m := by rw [← hmm.out]; exact pv_zero hne hf hil0
        have hd0 : dAt ds i = 0 := by unfold dAt; rw [List.getD_eq_getElem?_getD, List.getElem?_eq_none (by omega)]; rfl
        replace hd0 := hide hd0
        go_wp2
        go_roundw
        case rel => exact ⟨i + 1, by rw [hpv'.out, hmm.out, hd0.out]; simp, by go_num, hph'.out, trivial⟩
        case measure => simp [RowKit.intOf]; omega
    · have hz := shr_pos hm
      have h2 := ph2_start hd hph (by omega : 2 ^ k ≤ pv ds i)
      have hi1 : 1 ≤ i := by
        rcases Nat.eq_zero_or_pos i with e | e
        · subst e; exfalso; exact hm hp0
        · exact e
      have hc1 : w.cell? ⟨p, 1, none⟩ = some (.int .i64 dp) := hg.1.cell 1
      have hf1 := hg.1.frozen 1
      replace hg := hide hg
      replace h := hide h
      replace hph := hide hph
      replace h2 := hide h2
      replace h55 := hide h55
      replace hm := hide hm
      go_wp2
      have hst : HFr ds k i (dp + 1 - i) w (w.setCell ⟨p, 1, none⟩ (.int .i64 (dp - ((i : Int) - 1)))) p g o c i (pv ds i) (.slice none 0 0) := by
        obtain ⟨q1, q2, q3, q4, q5, q6⟩ := hg.out
        refine ⟨[], h2.out, ⟨rfl, .inl ⟨rfl, rfl⟩⟩, only_setCell (World.grownBy.refl _ _) (.inl rfl) _, q5, ?_, q2, q3, q4, by simp; omega, fun j hj => ?_⟩
        · have e : dp + 1 - (i : Int) = dp - ((i : Int) - 1) := by omega
          rw [e]
          exact q1.set_ 1 _
        · rw [World.cell?_of_block (Below.heap_setCell _ _ _ _ (Ne.symm q4))]
          exact q6 j hj
      replace hst := hide hst
      clear hc0 hc1 hf1 hz h2
      obtain ⟨W1, hW1⟩ : ∃ W1, W1 = w.setCell ⟨p, 1, none⟩ (.int .i64 (dp - ((i : Int) - 1))) := ⟨_, rfl⟩
      rw [← hW1] at hst ⊢
      clear hW1
      obtain ⟨m, hmm⟩ : ∃ m, pv ds i = m := ⟨_, rfl⟩
      rw [hmm] at hst ⊢
      replace hmm := hide hmm
      have hmm2 := hmm
      clear hmm
      obtain ⟨i0, hi0⟩ : ∃ i0, i = i0 := ⟨_, rfl⟩
      have hst2 : HFr ds k i0 (dp + 1 - i0) w W1 p g o c i m (.slice none 0 0) := by rw [← hi0]; exact hst.out
      rw [hi0] at hi18 hi1 hph
      clear hst
      clear hi0
      go_loopw [4, 5, 6] (fun s4 s5 s6 wr => ∃ i n : Nat, s4 = .int .u64 (n : Nat) ∧ s5 = .int .i64 i ∧ HFr ds k i0 (dp + 1 - i0) w wr p g o c i n s6) (fun _ i _ _ => 2000 - (RowKit.intOf i).toNat)
      case atStart => exact ⟨i, m, rfl, rfl, hst2⟩
      case round =>
        obtain ⟨i, n, rfl, rfl, out, hph2, hown, hgr, hgl, hdg⟩ := hrel
        have hib : i ≤ 1100 := by have := hph2.bound; omega
        have hol : out.length ≤ i := by have := hph2.len; omega
        have hnl : n < 10 * 2 ^ k := hph2.lt
        have hc0 : wr.cell? ⟨p, 0, none⟩ = some (.slice (some ⟨g, o, none⟩) ds.length c) := hdg.1.cell 0
        have hf0 := hdg.1.frozen 0
        have hbs : w.heap.size ≤ wr.heap.size := hgr.size
        by_cases hgo : i < ds.length ∨ 0 < n
        · have hnx := ph2_next hd hph2 hgo
          obtain ⟨q, hq⟩ : ∃ q, n / 2 ^ k = q := ⟨_, rfl⟩
          obtain ⟨r, hr⟩ : ∃ r, n % 2 ^ k = r := ⟨_, rfl⟩
          have hrl : r < 36028797018963968 := by have := Nat.mod_lt n hp0; have := h55.out; omega
          have hshr : (n : Int) / 2 ^ k = (q : Nat) := by rw [← hq]; simp
          rw [hq, hr] at hnx
          obtain ⟨hnx, hq10⟩ := hnx
          have hda := dAt_lt hd i
          have hk2 := hide (And.intro hph2 (And.intro hown (And.intro hgr (And.intro hgl hdg))))
          replace hnx := hide hnx
          clear hph2 hown hgr hgl hdg hst2 hmm2
          replace hq := hide hq
          replace hr := hide hr
          replace hnl := hide hnl
          by_cases hil : i < ds.length
          · have hci : wr.cell? ⟨g, o + i, none⟩ = some (.int .u8 (dAt ds i : Nat)) := hk2.out.2.2.2.2.2.2.2.2.2 i hil
            clear hgo
            go_wp2_with (refine wpList_push wr rfl (.tmp 68) (.tmp 73) rfl w.heap.size _ out.length (out.map dv) (.int .u8 (q : Nat)) rfl hk2.out.2.1 rfl rfl (by omega) hbs ?_; intro g2 cap W4 own4 g4 loc4; have hn4 := HFr.next hk2.out.2.1 hk2.out.2.2.1 hk2.out.2.2.2.1 hk2.out.2.2.2.2 hnx.out own4 g4; clear own4 g4 loc4; have c4 : W4.cell? ⟨p, 0, none⟩ = some (.slice (some ⟨g, o, none⟩) ds.length c) := hn4.cell0; have d4 := hn4.digit i hil; replace hn4 := hide hn4)
            go_roundw
            case rel => exact ⟨i + 1, r * 10 + dAt ds i, by rw [next_val hnl.out hk hda, hr.out], by go_num, hn4.out⟩
            case measure => simp [RowKit.intOf]; omega
          · have hn0 : 0 < n := by omega
            have hd0 : dAt ds i = 0 := by unfold dAt; rw [List.getD_eq_getElem?_getD, List.getElem?_eq_none (by omega)]; rfl
            rw [hd0] at hnx
            replace hd0 := hide hd0
            clear hgo hda
            go_wp2_with (refine wpList_push wr rfl (.tmp 68) (.tmp 73) rfl w.heap.size _ out.length (out.map dv) (.int .u8 (q : Nat)) rfl hk2.out.2.1 rfl rfl (by omega) hbs ?_; intro g2 cap W4 own4 g4 loc4; have hn4 := HFr.next hk2.out.2.1 hk2.out.2.2.1 hk2.out.2.2.2.1 hk2.out.2.2.2.2 hnx.out own4 g4; clear own4 g4 loc4; have c4 : W4.cell? ⟨p, 0, none⟩ = some (.slice (some ⟨g, o, none⟩) ds.length c) := hn4.cell0; replace hn4 := hide hn4)
            go_roundw
            case rel => exact ⟨i + 1, r * 10, by rw [next_val0 hnl.out hk, hr.out], by go_num, hn4.out⟩
            case measure => simp [RowKit.intOf]; omega
        · obtain rfl : n = 0 := by omega
          have hil : ds.length ≤ i := by omega
          have hone : out ≠ [] := fun e => by have := hph2.ge e; omega
          obtain ⟨g2, cap, hsv⟩ := Go.Joins.ownsRow_form hown (List.length_pos_iff.2 hone)
          subst hsv
          obtain ⟨q1, q2, q3, q4, q5, q6⟩ := hdg
          have hg2p : g2 ≠ p := fun e => own_blk_ne hown q1 (by decide) (by rw [e]; rfl)
          have hDc : Dc (wr.setCell ⟨p, 0, none⟩ (.slice (some ⟨g2, 0, none⟩) out.length cap)) p out (dp + 1 - i0) :=
            ⟨_, q1.set_ 0 _, own_ds (ownsRow_setCell_other hown (a := ⟨p, 0, none⟩) (by simp [Value.ownBlock]; exact hg2p) _)⟩
          have hG := only_setCell hgr (p := ⟨p, 0, none⟩) (.inl rfl) (.slice (some ⟨g2, 0, none⟩) out.length cap)
          replace hDc := hide hDc
          replace hG := hide hG
          replace hph2 := hide hph2
          clear hown hgr q1 q6 hst2 hmm2 hone
          go_wp2_with (go_at_call 198; refine (trim_any _ _ _ _ hDc.out).mono ?_; rintro e w3 ⟨rfl, hg3, hd3⟩)
          go_end0
          exact ⟨rfl, hG.out.trans hg3, i0, i, out, hph.out, hi1, hph2.out, hil, hd3⟩
end Go.Proofs.YtbnbemacljjimaaGreatDoor

namespace Go.Proofs.YtbnbemacljjimaaGreatDoor
open Go.RowKit Go.Lib
set_option linter.unusedVariables false

/-- A decimal that says N/M, in its one form. -/
structure Nm (ds : List Nat) (dp N M : Nat) : Prop where
  says : Says ds dp N M
  dig : Dig ds
  ne : ds ≠ []
  fst : Fst ds
  lst : Lst0 ds

theorem nm_trim {ds : List Nat} {dp N M : Nat} (h : Says ds dp N M) (hd : Dig ds) (hn : ds ≠ []) (hf : Fst ds) : Nm (trimD ds) dp N M :=
  ⟨trim_says h, trim_dig hd, (trim_fst hf hn).1, (trim_fst hf hn).2, (trim_all ds).2⟩

theorem trim_len (ds : List Nat) : (trimD ds).length ≤ ds.length := by
  obtain ⟨⟨n, e⟩, _⟩ := trim_all ds
  have := congrArg List.length e
  simp at this
  omega

theorem nm_new {n : Nat} (h : 0 < n) : Nm (trimD (dg n)) (dg n).length n 1 :=
  nm_trim (by unfold Says; rw [val_dg, Nat.mul_one]) (dg_dig n) (dg_ne n) (dg_fst h)

set_option maxHeartbeats 2000000 in
set_option maxRecDepth 100000 in
theorem dhalf_any (w : World) (p k : Nat) (ds : List Nat) (dp N : Nat) (h : Dc w p ds dp) (hm : Nm ds dp N 1) (hl : ds.length ≤ dp) (hdp : dp ≤ 100) (hN : 2 ^ k ≤ 10 * N) (hk0 : 1 ≤ k) (hk : k ≤ 55) :
    Calls Tryz.prog 200 #[.pointer (some ⟨p, 0, none⟩), .int .i64 (k : Nat)] w fun e w' => e = .returned (.tuple #[]) ∧ w.grownBy w' (some p) ∧
      ∃ es dq, dq ≤ dp ∧ es.length ≤ 1200 ∧ Dc w' p es (dq : Nat) ∧ Nm es dq N (2 ^ k) := by
  refine (half_any' w p k ds dp h hm.dig hm.ne hm.fst (by omega) hk0 hk (by omega)).mono ?_
  rintro e w' ⟨rfl, hg, i0, i, o, h1, h2, h3, h4, h5⟩
  obtain ⟨j, rfl⟩ : ∃ j, i0 = j + 1 := ⟨i0 - 1, by omega⟩
  have hb := ph1_bound hm.ne hm.fst hm.dig hm.says hl hN h1
  obtain ⟨s1, s2, s3, s4⟩ := half_says hm.says h3 h4 h2 (by omega)
  have hn := nm_trim s1 s4 s2 s3
  rw [Nat.one_mul] at hn
  refine ⟨rfl, hg, trimD o, dp + 1 - (j + 1), by omega, ?_, ?_, hn⟩
  · have := trim_len o
    have := h3.len
    have := h3.bound
    omega
  · unfold dpOf at h5
    rw [if_neg hn.ne] at h5
    have e : ((dp : Nat) : Int) + 1 - ((j + 1 : Nat) : Int) = ((dp + 1 - (j + 1) : Nat) : Int) := by omega
    rw [e] at h5
    exact h5

set_option maxHeartbeats 2000000 in
set_option maxRecDepth 100000 in
theorem shift_any (w : World) (p k : Nat) (ds : List Nat) (dp N : Nat) (h : Dc w p ds dp) (hm : Nm ds dp N 1) (hl : ds.length ≤ dp) (hdp : dp ≤ 100) (hN : 2 ^ k ≤ 10 * N) (hk : k ≤ 55) :
    Calls Tryz.prog 167 #[.pointer (some ⟨p, 0, none⟩), .int .i64 (-(k : Nat) : Int)] w fun e w' => e = .returned (.tuple #[]) ∧ w.grownBy w' (some p) ∧
      ∃ es dq, dq ≤ dp ∧ es.length ≤ 1200 ∧ Dc w' p es (dq : Nat) ∧ Nm es dq N (2 ^ k) := by
  go_enter Tryz.func167, Tryz.ntmps167
  go_wp2
  go_loopw [1] (fun u1 wr => u1 = .int .i64 (-(k : Nat) : Int) ∧ w = wr) (fun _ wr => 0)
  case atStart => exact ⟨rfl, rfl⟩
  case round =>
    obtain ⟨rfl, rfl⟩ := hrel
    go_wp2
    go_loopw [1] (fun u1 wr => u1 = .int .i64 (-(k : Nat) : Int) ∧ w = wr) (fun _ wr => 0)
    case atStart => exact ⟨rfl, rfl⟩
    case round =>
      obtain ⟨rfl, rfl⟩ := hrel
      by_cases hk0 : 1 ≤ k
      · have hh := hide (dhalf_any w p k ds dp N h hm hl hdp hN hk0 hk)
        go_wp2_with (go_at_call 200; refine hh.out.mono ?_; rintro e w1 ⟨rfl, hg1, hx⟩; replace hx := hide hx)
        go_end0
        exact ⟨rfl, hg1, hx.out⟩
      · obtain rfl : k = 0 := by omega
        have hx := hide (show ∃ es dq, dq ≤ dp ∧ es.length ≤ 1200 ∧ Dc w p es (dq : Nat) ∧ Nm es dq N (2 ^ 0) from ⟨ds, dp, Nat.le_refl _, by omega, h, hm⟩)
        go_wp2
        go_end0
        exact ⟨rfl, World.grownBy.refl _ _, hx.out⟩

/-- A digit of a decimal. -/
theorem digit_any (w : World) (p i : Nat) (ds : List Nat) (dp : Int) (h : Dc w p ds dp) (hl : ds.length ≤ 100000) :
    Calls Tryz.prog 205 #[.pointer (some ⟨p, 0, none⟩), .int .i64 (i : Nat)] w fun e w' => e = .returned (.int .u8 (dAt ds i : Nat)) ∧ w' = w := by
  obtain ⟨sv, hb, A, c, rfl, h1, h2, h3⟩ := h
  have hc0 : w.cell? ⟨p, 0, none⟩ = some (.slice A ds.length c) := hb.cell 0
  by_cases hi : i < ds.length
  · obtain ⟨g, o, cs, fz, rfl, hg, hc⟩ := h3 (by omega)
    have hci : w.cell? ⟨g, o + i, none⟩ = some (.int .u8 (dAt ds i : Nat)) := by rw [Joins.cell_of_block hg]; exact hc i hi
    clear h3 hb hg hc
    go_enter Tryz.func205, Tryz.ntmps205
    go_wp2
    go_ret
    exact ⟨rfl, rfl⟩
  · have hd0 : dAt ds i = 0 := by unfold dAt; rw [List.getD_eq_getElem?_getD, List.getElem?_eq_none (by omega)]; rfl
    rw [hd0]
    clear h3 hb hd0
    go_enter Tryz.func205, Tryz.ntmps205
    go_wp2
    go_ret
    exact ⟨rfl, rfl⟩
end Go.Proofs.YtbnbemacljjimaaGreatDoor

namespace Go.Proofs.YtbnbemacljjimaaGreatDoor
open Go.RowKit Go.Lib
set_option linter.unusedVariables false

theorem Dc.drewN {w : World} {p : Nat} {ds : List Nat} {dp : Int} (h : Dc w p ds dp) (n : Nat) : Dc (w.drewN n) p ds dp := by
  obtain ⟨sv, h1, h2⟩ := h
  exact ⟨sv, h1.drewN n, h2.keep fun _ _ _ _ => rfl⟩

theorem Dc.c0 {w : World} {p : Nat} {ds : List Nat} {dp : Int} (h : Dc w p ds dp) : ∃ A c, w.cell? ⟨p, 0, none⟩ = some (.slice A ds.length c) ∧ w.cell? ⟨p, 1, none⟩ = some (.int .i64 dp) := by
  obtain ⟨sv, h1, A, c, rfl, _⟩ := h
  exact ⟨A, c, h1.cell 0, h1.cell 1⟩

set_option maxHeartbeats 2000000 in
set_option maxRecDepth 100000 in
theorem cmp_empty (w : World) (p q : Nat) (xs : List Nat) (dp dq : Int) (hx : Dc w p xs dp) (hy : Dc w q [] dq) (hne : xs ≠ []) (hl : xs.length ≤ 10000) :
    Calls Tryz.prog 203 #[.pointer (some ⟨p, 0, none⟩), .pointer (some ⟨q, 0, none⟩)] w fun e w' => (∃ r : Int, e = .returned (.int .i64 r) ∧ 1 ≤ r) ∧ ∃ n, w' = w.drewN n := by
  obtain ⟨A, c, hx0, hx1⟩ := hx.c0
  obtain ⟨A', c', hy0, hy1⟩ := hy.c0
  have hlp : 0 < xs.length := List.length_pos_iff.2 hne
  go_enter Tryz.func203, Tryz.ntmps203
  go_wp2
  go_quiet (fail)
  go_wp2
  go_ret
  exact ⟨⟨_, rfl, by omega⟩, _, rfl⟩

set_option maxHeartbeats 2000000 in
set_option maxRecDepth 100000 in
theorem cmp_any (w : World) (p q : Nat) (xs ys : List Nat) (dp dq N M N' M' : Nat) (hx : Dc w p xs dp) (hy : Dc w q ys dq) (mx : Nm xs dp N M) (my : Nm ys dq N' M') (hM : 0 < M) (hM' : 0 < M') (hgt : N' * M < N * M') (hl : xs.length ≤ 10000) (hl' : ys.length ≤ 10000) (hdp : dp ≤ 10000) (hdq : dq ≤ 10000) :
    Calls Tryz.prog 203 #[.pointer (some ⟨p, 0, none⟩), .pointer (some ⟨q, 0, none⟩)] w fun e w' => (∃ r : Int, e = .returned (.int .i64 r) ∧ 1 ≤ r) ∧ ∃ n, w' = w.drewN n := by
  obtain ⟨A, c, hx0, hx1⟩ := hx.c0
  obtain ⟨A', c', hy0, hy1⟩ := hy.c0
  have hlp : 0 < xs.length := List.length_pos_iff.2 mx.ne
  have hlp' : 0 < ys.length := List.length_pos_iff.2 my.ne
  have e1 : (((xs.length : Nat) : Int) == 0) = false := by simp; exact mx.ne
  have e2 : (((ys.length : Nat) : Int) == 0) = false := by simp; exact my.ne
  have hle := says_dp mx.says my.says mx.dig my.dig mx.ne my.ne mx.fst my.fst hM hM' (Nat.le_of_lt hgt)
  go_enter Tryz.func203, Tryz.ntmps203
  by_cases hd : dq = dp
  · subst hd
    have hcmp := hide (fun i hi => cmp_gt mx.says my.says mx.dig my.dig hM hM' hgt i hi)
    have hdx := hide (fun i => dAt_lt mx.dig i)
    have hdy := hide (fun i => dAt_lt my.dig i)
    clear mx my hgt hM hM'
    replace hx := hide hx
    replace hy := hide hy
    go_wp2
    go_quiet (fail)
    obtain ⟨W1, hW1⟩ : ∃ W1, W1 = w.drewN nq := ⟨_, rfl⟩
    rw [← hW1]
    have hx1 := hide (hx.out.drewN nq)
    have hy1 := hide (hy.out.drewN nq)
    rw [← hW1] at hx1 hy1
    have hx0' : W1.cell? ⟨p, 0, none⟩ = some (.slice A xs.length c) := by rw [hW1]; exact hx0
    have hy0' : W1.cell? ⟨q, 0, none⟩ = some (.slice A' ys.length c') := by rw [hW1]; exact hy0
    replace hW1 := hide hW1
    clear hx0 hy0 hx hy
    go_wp2
    go_loopw [5] (fun s5 wr => ∃ i : Nat, s5 = .int .i64 i ∧ i ≤ 20000 ∧ (∀ j, j < i → dAt xs j = dAt ys j) ∧ W1 = wr) (fun i _ => 30000 - (RowKit.intOf i).toNat)
    case atStart => exact ⟨0, rfl, Nat.zero_le _, fun j hj => absurd hj (Nat.not_lt_zero j), rfl⟩
    case round =>
      obtain ⟨i, rfl, hi, hsame, rfl⟩ := hrel
      obtain ⟨h1, h2⟩ := hcmp.out i hsame
      replace hsame := hide hsame
      by_cases hin : i < xs.length ∨ i < ys.length
      · have hxi := hdx.out i
        have hyi := hdy.out i
        obtain ⟨a, ha⟩ : ∃ a, dAt xs i = a := ⟨_, rfl⟩
        obtain ⟨b, hb⟩ : ∃ b, dAt ys i = b := ⟨_, rfl⟩
        have dx := digit_any W1 p i xs _ hx1.out (by omega)
        have dy := digit_any W1 q i ys _ hy1.out (by omega)
        rw [ha] at dx h1 hxi
        rw [hb] at dy h1 hyi
        replace dx := hide dx
        replace dy := hide dy
        have hin2 : i < 10000 := by omega
        have hs2 := hide (show a = b → ∀ j, j < i + 1 → dAt xs j = dAt ys j from fun e j hj => by
          by_cases ej : j = i
          · rw [ej, ha, hb, e]
          · exact hsame.out j (by omega))
        clear h2 ha hb
        by_cases hix : i < xs.length
        · clear hin
          by_cases hab : a = b
          · subst hab
            go_wp2_with (go_at_call 205; first | ((with_reducible refine dx.out.mono ?_); rintro e W2 ⟨rfl, rfl⟩) | ((with_reducible refine dy.out.mono ?_); rintro e W2 ⟨rfl, rfl⟩))
            go_roundw
            case rel => exact ⟨i + 1, by go_num, by omega, hs2.out trivial, trivial⟩
            case measure => simp [RowKit.intOf]; omega
          · have hab2 : b < a := by omega
            go_wp2_with (go_at_call 205; first | ((with_reducible refine dx.out.mono ?_); rintro e W2 ⟨rfl, rfl⟩) | ((with_reducible refine dy.out.mono ?_); rintro e W2 ⟨rfl, rfl⟩))
            go_ret
            exact ⟨⟨_, rfl, by omega⟩, _, hW1.out⟩
        · have hiy : i < ys.length := by omega
          clear hin
          by_cases hab : a = b
          · subst hab
            go_wp2_with (go_at_call 205; first | ((with_reducible refine dx.out.mono ?_); rintro e W2 ⟨rfl, rfl⟩) | ((with_reducible refine dy.out.mono ?_); rintro e W2 ⟨rfl, rfl⟩))
            go_roundw
            case rel => exact ⟨i + 1, by go_num, by omega, hs2.out trivial, trivial⟩
            case measure => simp [RowKit.intOf]; omega
          · have hab2 : b < a := by omega
            go_wp2_with (go_at_call 205; first | ((with_reducible refine dx.out.mono ?_); rintro e W2 ⟨rfl, rfl⟩) | ((with_reducible refine dy.out.mono ?_); rintro e W2 ⟨rfl, rfl⟩))
            go_ret
            exact ⟨⟨_, rfl, by omega⟩, _, hW1.out⟩
      · exfalso
        exact h2 (by omega) (by omega)
  · have hlt : dq < dp := by omega
    clear mx my hgt hM hM' hle
    replace hx := hide hx
    replace hy := hide hy
    go_wp2
    go_quiet (fail)
    go_wp2
    go_quiet (fail)
    go_wp2
    go_ret
    exact ⟨⟨_, rfl, by omega⟩, _, World.drewN_drewN _ _ _⟩
end Go.Proofs.YtbnbemacljjimaaGreatDoor
