/- What the thin package says of a list of calls on the machine's stacks: what the model says. -/
import Derived.Test.YtlemajapimeciaaForkG
import Derived.Test.YtlemajapimeciaaForkQ
namespace Go.Proofs.Ytlemajapimeciaa
open Go.RowKit
set_option linter.unusedVariables false

/-- A slice of calls in memory, below block B. -/
structure OpList (w : World) (B b o : Nat) (xs : List (Int × Int)) : Prop where
  lt : b < B
  at_ : ∀ (j : Nat) y, xs[j]? = some y → w.cell? ⟨b, o + j * 2, none⟩ = some (.int .i64 y.1) ∧ w.cell? ⟨b, o + j * 2 + 1, none⟩ = some (.int .i64 y.2)

theorem OpList.below {w w' : World} {B b o : Nat} {xs : List (Int × Int)} (h : OpList w B b o xs) {B' : Nat} (hb : Below B' w w') (hB : B ≤ B') : OpList w' B b o xs :=
  ⟨h.lt, fun j y hy => by
    obtain ⟨a0, a1⟩ := h.at_ j y hy
    have hlt := h.lt
    exact ⟨(hb.cell (p := ⟨b, _, none⟩) (Nat.lt_of_lt_of_le hlt hB)).trans a0, (hb.cell (p := ⟨b, _, none⟩) (Nat.lt_of_lt_of_le hlt hB)).trans a1⟩⟩

theorem Try.info35 : (Try.prog.info? 35).map (fun i => (i.zero, i.size, i.bytes)) = some (some (.agg #[.bool false, .int .i64 0]), 2, 16) := by kernel_rfl

theorem made_said (n : Nat) : madeCells (Value.agg #[.bool false, .int .i64 0]).cells (n * 2) = (saidCells (outs n [])).toArray := by
  apply Array.ext'
  simp only [madeCells, Value.cells, outs, List.length_nil, Nat.sub_zero, List.nil_append]
  apply List.ext_getElem?
  intro i
  have hl := saidCells_length (List.replicate n (false, 0))
  rw [List.length_replicate] at hl
  by_cases hi : i < n * 2
  · have h2 := saidCells_at (List.replicate n (false, 0)) (i / 2) (false, 0) (by rw [List.getElem?_replicate, if_pos (by omega)])
    rcases Nat.mod_two_eq_zero_or_one i with h0 | h0
    · have e : i = i / 2 * 2 := by omega
      have := h2.1
      rw [← e] at this
      simp [hi, h0, this]
    · have e : i = i / 2 * 2 + 1 := by omega
      have := h2.2
      rw [← e] at this
      simp [hi, h0, this]
  · simp
    rw [List.getElem?_eq_none (by simp; omega), List.getElem?_eq_none (by omega)]
    simp

@[go_sem] theorem as3 (v : Value) (w : World) : (Instr.typeAssert (.iface 3 v) 20 3 false).run Try.prog w = .ok v w := by kernel_rfl

/-- The fresh machine in memory. -/
theorem mach_fresh {w w' : World} (h : EnvMade w w') : MachAt w' w.heap.size (w.heap.size + 3) w.heap.size (w.heap.size + 1) (w.heap.size + 2) (.slice none 0 0) (.slice none 0 0) (.slice none 0 0) Mach.new := by
  obtain ⟨h1, h2, h3, h4, h5, h6⟩ := h
  exact ⟨h4, ⟨h1, World.ownsRow_nil _ _ _ _⟩, ⟨h2, World.ownsRow_nil _ _ _ _⟩, h3, World.ownsRow_nil _ _ _ _, by omega, by simp [Value.ownBlock], ⟨by omega, by omega, by omega, by omega⟩, by omega⟩

structure Round (w wr : World) (B eb s p c ob n : Nat) (M : Mach) (o : List (Bool × Int)) : Prop where
  mach : ∃ v1 v2 v3, MachAt wr B eb s p c v1 v2 v3 M
  out : Blk wr ob 35 (saidCells (outs n o)).toArray
  below : Below w.heap.size w wr

/-- A step that says nothing. -/
theorem round_still {w wr w1 : World} {B eb s p c ob n j : Nat} {M M' : Mach} {o : List (Bool × Int)} {d v : Int} {R : Mach × List (Bool × Int)} {ob1 : Obj} {v1 v2 v3 : Value} (h : Round w wr B eb s p c ob n M o) (ho : o.length = j) (hj : j < n)
    (hR : R = mstep (M, o) (d, v)) (hm : MachAt w1 B eb s p c v1 v2 v3 M') (hr : Rest B (wr.alloc ob1) w1) (e1 : (M.step d v).1 = M') (e2 : (M.step d v).2 = (false, 0)) (hB : B = w.heap.size := by rfl) : Round w w1 B eb s p c ob n R.1 R.2 := by
  subst hR
  subst hB
  simp only [mstep, e1, e2]
  refine ⟨⟨_, _, _, hm⟩, ?_, (h.below.alloc h.below.size _).trans hr.below⟩
  rw [← outs_zero (by omega)]
  exact hr.keep _ _ _ (by decide) (by decide) (by decide) (by decide) (by decide) (h.out.alloc _)

/-- A step that changes nothing. -/
theorem round_same {w wr : World} {B eb s p c ob n j : Nat} {M : Mach} {o : List (Bool × Int)} {d v : Int} {R : Mach × List (Bool × Int)} {ob1 : Obj} (h : Round w wr B eb s p c ob n M o) (ho : o.length = j) (hj : j < n)
    (hR : R = mstep (M, o) (d, v)) (e1 : M.step d v = (M, false, 0)) : Round w (wr.alloc ob1) B eb s p c ob n R.1 R.2 := by
  subst hR
  obtain ⟨⟨v1, v2, v3, hm⟩, hout, hb⟩ := h
  simp only [mstep, e1]
  refine ⟨⟨_, _, _, hm.alloc _⟩, ?_, hb.alloc hb.size _⟩
  rw [← outs_zero (by omega)]
  exact hout.alloc _

theorem round_cells {w wr w1 : World} {B eb s p c ob n j : Nat} {M : Mach} {o : List (Bool × Int)} {ob1 : Obj} (h : Round w wr B eb s p c ob n M o) (ho : o.length = j) (hj : j < n) (hr : Rest B (wr.alloc ob1) w1) :
    w1.cell? ⟨ob, j * 2, none⟩ = some (.bool false) ∧ w1.cell? ⟨ob, j * 2 + 1, none⟩ = some (.int .i64 0) ∧ w1.frozen? ⟨ob, j * 2, none⟩ = false ∧ w1.frozen? ⟨ob, j * 2 + 1, none⟩ = false := by
  have hb := hr.keep _ _ _ (by decide) (by decide) (by decide) (by decide) (by decide) (h.out.alloc _)
  subst ho
  obtain ⟨h1, h2⟩ := saidCells_at _ _ _ (outs_at hj)
  refine ⟨?_, ?_, hb.frozen _, hb.frozen _⟩
  · rw [hb.cell]; simpa using h1
  · rw [hb.cell]; simpa using h2

/-- A step that says a number. -/
theorem round_said {w wr w1 : World} {B eb s p c ob n j : Nat} {M M' : Mach} {o : List (Bool × Int)} {d v x : Int} {R : Mach × List (Bool × Int)} {ob1 : Obj} {v1 v2 v3 : Value} (h : Round w wr B eb s p c ob n M o) (ho : o.length = j) (hj : j < n)
    (hR : R = mstep (M, o) (d, v)) (hm : MachAt w1 B eb s p c v1 v2 v3 M') (hr : Rest B (wr.alloc ob1) w1) (e1 : (M.step d v).1 = M') (e2 : (M.step d v).2 = (true, x)) (hB : B = w.heap.size := by rfl) (hob : w.heap.size ≤ ob := by omega) :
    Round w ((w1.setCell ⟨ob, j * 2, none⟩ (.bool true)).setCell ⟨ob, j * 2 + 1, none⟩ (.int .i64 x)) B eb s p c ob n R.1 R.2 := by
  subst hR
  subst hB
  simp only [mstep, e1, e2]
  have hb := hr.keep _ _ _ (by decide) (by decide) (by decide) (by decide) (by decide) (h.out.alloc ob1)
  have hn : ¬ MP eb s p c v1 v2 v3 ob := fun hk => by
    rcases hm.mp_type hk hb with e | e | e | e | e <;> cases e
  refine ⟨⟨_, _, _, (hm.setFar hn _).setFar hn _⟩, ?_, (((h.below.alloc h.below.size _).trans hr.below).setCell (p := ⟨ob, _, none⟩) hob _).setCell (p := ⟨ob, _, none⟩) hob _⟩
  have h2 := (hb.set_ (j * 2) (.bool true)).set_ (j * 2 + 1) (.int .i64 x)
  have e : (((saidCells (outs n o)).toArray.setIfInBounds (j * 2) (.bool true)).setIfInBounds (j * 2 + 1) (.int .i64 x)) = (saidCells (outs n (o ++ [(true, x)]))).toArray := by
    subst ho
    rw [← outs_set hj, ← saidCells_set _ _ _ (by rw [outs_length (by omega)]; exact hj)]
    simp
  rw [e] at h2
  exact h2

set_option maxHeartbeats 8000000 in
set_option maxRecDepth 100000 in
theorem forks_any (w : World) (ao : Option Addr) (cap : Nat) (xs : List (Int × Int)) (hl : 0 < xs.length → ∃ b o, ao = some ⟨b, o, none⟩ ∧ OpList w w.heap.size b o xs) (hlen : xs.length ≤ 1000) :
    Calls Try.prog 6 #[.slice ao xs.length cap] w fun e w' => ∃ ob, e = .returned (.slice (some ⟨ob, 0, none⟩) xs.length xs.length) ∧ Blk w' ob 35 (saidCells (mrun xs).2).toArray ∧ w.heap.size ≤ ob ∧ Below w.heap.size w w' := by
  obtain ⟨i0, hi0, hz0, hz1, hz2⟩ := info_parts Try.info35
  have hmk := fun W => run_make_rowN (P := Try.prog) 28 35 i0 _ Try.underlying28 hi0 hz0 .i64 .i64 xs.length xs.length (Nat.le_refl _) (by rw [hz2]; omega) (by omega) W
  rw [hz1, made_said] at hmk
  have HL := Lib.hid hl
  clear hl
  go_enter Try.func6, Try.ntmps6
  go_wp2_with (go_at_call 8; refine (zzNewEnv_any _).mono ?_; rintro e w2 ⟨rfl, hm⟩)
  have hma := mach_fresh hm
  have hb0 := hm.2.2.2.2.1
  have hs2 : w.heap.size ≤ w2.heap.size := hb0.size
  have HO2 := Lib.hid (hm.2.2.2.2.2 : w2.heap.size = w.heap.size + 4)
  have HMA := hide hma
  clear hm hma
  go_loopw [13] (fun i wr => ∃ j : Nat, i = .int .i64 j ∧ j ≤ xs.length ∧ Round w wr w.heap.size (w.heap.size + 3) w.heap.size (w.heap.size + 1) (w.heap.size + 2) w2.heap.size xs.length (mrun (xs.take j)).1 (mrun (xs.take j)).2) (fun i _ => xs.length - (intOf i).toNat)
  case atStart => exact ⟨0, rfl, Nat.zero_le _, ⟨⟨_, _, _, (unhide HMA).alloc _⟩, Blk.new _ _ _, hb0.alloc hs2 _⟩⟩
  case round =>
    obtain ⟨j, rfl, hj, ⟨⟨v1, v2, v3, hm⟩, hout, hbw⟩⟩ := hrel
    by_cases hjl : j < xs.length
    · obtain ⟨b, ofs, rfl, hL⟩ := HL.out (by omega)
      obtain ⟨⟨d, v⟩, hy⟩ : ∃ y, xs[j]? = some y := ⟨_, List.getElem?_eq_getElem hjl⟩
      obtain ⟨a0, a1⟩ := (hL.below hbw (Nat.le_refl _)).at_ j _ hy
      simp only at a0 a1
      obtain ⟨r1, -, r3, r4⟩ := run_rel (xs.take j)
      rw [List.length_take, Nat.min_eq_left (by omega)] at r1 r3 r4
      have hT := takeq xs j _ hy
      have hN : mrun (xs.take (j + 1)) = mstep (mrun (xs.take j)) (d, v) := by rw [hT, mrun_snoc]
      obtain ⟨⟨M, o⟩, hR⟩ : ∃ R, mrun (xs.take j) = R := ⟨_, rfl⟩
      rw [hR] at hN hm hout r1 r3 r4
      simp only at hm hout r1 r3 r4
      have hok1 : M.st.Ok 2000 := r1.st.ok.more (by omega)
      have hok2 : M.pa.Ok 2000 := r1.pa.ok.more (by omega)
      have hfk : M.fk.length ≤ 2000 := by omega
      have hend : Round w wr w.heap.size (w.heap.size + 3) w.heap.size (w.heap.size + 1) (w.heap.size + 2) w2.heap.size xs.length M o := ⟨⟨_, _, _, hm⟩, hout, hbw⟩
      have HE := hide hend
      have HM := hide hm
      have HOK1 := Lib.hid hok1
      have HOK2 := Lib.hid hok2
      have HN := Lib.hid hN
      have HR3 := Lib.hid r3
      have HLo := hide hL
      clear hm hout hbw hL hy hT hR r1 r3 hend hok1 hok2 hN
      by_cases d1 : d = 1
      · subst d1
        go_wp2_with (go_at_call 11; refine (zzEnvPush_any _ _ _ _ _ _ v1 v2 v3 M ((unhide HM).alloc _) v HOK1.out).mono ?_; rintro e w1 ⟨rfl, ⟨v', hs⟩, hr⟩)
        go_roundw
        case rel => exact ⟨j + 1, by go_num, by omega, round_still (unhide HE) HR3.out hjl HN.out hs hr (by simp [Mach.step]) (by simp [Mach.step])⟩
        case measure => simp [intOf]; omega
      by_cases d2 : d = 2
      · subst d2
        by_cases hi : M.st.index < 0
        · go_wp2_with (go_at_call 12; refine (zzEnvEmpty_any _ _ _ _ _ _ v1 v2 v3 M ((unhide HM).alloc _)).mono ?_; rintro e w1 ⟨rfl, rfl⟩)
          go_roundw
          case rel => exact ⟨j + 1, by go_num, by omega, round_same (unhide HE) HR3.out hjl HN.out (by simp [Mach.step]; omega)⟩
          case measure => simp [intOf]; omega
        · have HI := Lib.hid (Int.not_lt.1 hi)
          have hdi : decide (M.st.index < 0) = false := by simpa using hi
          go_wp2_with (first
            | (go_at_call 12; refine (zzEnvEmpty_any _ _ _ _ _ _ v1 v2 v3 M ((unhide HM).alloc _)).mono ?_; rintro e w1 ⟨rfl, rfl⟩)
            | (go_at_call 13; refine (zzEnvPop_any _ _ _ _ _ _ v1 v2 v3 M ((unhide HM).alloc _) HOK1.out HI.out).mono ?_; rintro e w1 ⟨rfl, hs, hr⟩; obtain ⟨q0, q1, p0, p1⟩ := round_cells (unhide HE) HR3.out hjl hr))
          go_roundw
          case rel => exact ⟨j + 1, by go_num, by omega, round_said (unhide HE) HR3.out hjl HN.out hs hr (by simp [Mach.step, HI.out]) (by simp [Mach.step, HI.out])⟩
          case measure => simp [intOf]; omega
      by_cases d3 : d = 3
      · subst d3
        go_wp2_with (go_at_call 14; refine (zzPathPush_any _ _ _ _ _ _ v1 v2 v3 M ((unhide HM).alloc _) v HOK2.out).mono ?_; rintro e w1 ⟨rfl, ⟨v', hs⟩, hr⟩)
        go_roundw
        case rel => exact ⟨j + 1, by go_num, by omega, round_still (unhide HE) HR3.out hjl HN.out hs hr (by simp [Mach.step]) (by simp [Mach.step])⟩
        case measure => simp [intOf]; omega
      by_cases d4 : d = 4
      · subst d4
        by_cases hi : M.pa.index < 0
        · go_wp2_with (go_at_call 15; refine (zzPathEmpty_any _ _ _ _ _ _ v1 v2 v3 M ((unhide HM).alloc _)).mono ?_; rintro e w1 ⟨rfl, rfl⟩)
          go_roundw
          case rel => exact ⟨j + 1, by go_num, by omega, round_same (unhide HE) HR3.out hjl HN.out (by simp [Mach.step]; omega)⟩
          case measure => simp [intOf]; omega
        · have HI := Lib.hid (Int.not_lt.1 hi)
          have hdi : decide (M.pa.index < 0) = false := by simpa using hi
          go_wp2_with (first
            | (go_at_call 15; refine (zzPathEmpty_any _ _ _ _ _ _ v1 v2 v3 M ((unhide HM).alloc _)).mono ?_; rintro e w1 ⟨rfl, rfl⟩)
            | (go_at_call 16; refine (zzPathPop_any _ _ _ _ _ _ v1 v2 v3 M ((unhide HM).alloc _) HOK2.out HI.out).mono ?_; rintro e w1 ⟨rfl, hs, hr⟩; obtain ⟨q0, q1, p0, p1⟩ := round_cells (unhide HE) HR3.out hjl hr))
          go_roundw
          case rel => exact ⟨j + 1, by go_num, by omega, round_said (unhide HE) HR3.out hjl HN.out hs hr (by simp [Mach.step, HI.out]) (by simp [Mach.step, HI.out])⟩
          case measure => simp [intOf]; omega
      by_cases d5 : d = 5
      · subst d5
        go_wp2_with (go_at_call 17; refine (zzFork_any _ _ _ _ _ _ v1 v2 v3 M v ((unhide HM).alloc _) hfk).mono ?_; rintro e w1 ⟨rfl, ⟨v', hs⟩, hr⟩)
        go_roundw
        case rel => exact ⟨j + 1, by go_num, by omega, round_still (unhide HE) HR3.out hjl HN.out hs hr (by simp [Mach.step]) (by simp [Mach.step])⟩
        case measure => simp [intOf]; omega
      by_cases d6 : d = 6
      · subst d6
        obtain ⟨st, pa, fk⟩ := M
        cases fk with
        | nil =>
          go_wp2_with (go_at_call 18; refine (zzForks_any _ _ _ _ _ _ v1 v2 v3 _ ((unhide HM).alloc _)).mono ?_; rintro e w1 ⟨rfl, rfl⟩)
          go_roundw
          case rel => exact ⟨j + 1, by go_num, by omega, round_same (unhide HE) HR3.out hjl HN.out (by simp [Mach.step])⟩
          case measure => simp [intOf]; omega
        | cons f r =>
          have hr2 : r.length ≤ 2000 := by simp at hfk; omega
          have hpos : (0 : Int) < ((f :: r).length : Nat) := by simp
          go_wp2_with (first
            | (go_at_call 18; refine (zzForks_any _ _ _ _ _ _ v1 v2 v3 _ ((unhide HM).alloc _)).mono ?_; rintro e w1 ⟨rfl, rfl⟩)
            | (go_at_call 19; refine (zzBack_any _ _ _ _ _ _ v1 v2 v3 st pa f r ((unhide HM).alloc _) hr2).mono ?_; rintro e w1 ⟨rfl, ⟨v', hs⟩, hr⟩; obtain ⟨q0, q1, p0, p1⟩ := round_cells (unhide HE) HR3.out hjl hr))
          go_roundw
          case rel => exact ⟨j + 1, by go_num, by omega, round_said (unhide HE) HR3.out hjl HN.out hs hr (by simp [Mach.step]) (by simp [Mach.step])⟩
          case measure => simp [intOf]; omega
      go_wp2
      go_roundw
      case rel => exact ⟨j + 1, by go_num, by omega, round_same (unhide HE) HR3.out hjl HN.out (by simp [Mach.step, d1, d2, d3, d4, d5, d6])⟩
      case measure => simp [intOf]; omega
    · have e : xs.take j = xs := List.take_of_length_le (by omega)
      rw [e] at hout
      have ho : (mrun xs).2.length = xs.length := (run_rel xs).2.2.1
      have e2 : outs xs.length (mrun xs).2 = (mrun xs).2 := by rw [← ho]; exact outs_full
      rw [e2] at hout
      have H2 := Lib.hid hout
      clear e e2 hout ho hm
      go_wp2
      go_ret
      exact ⟨_, rfl, H2.out, hs2, hbw⟩
end Go.Proofs.Ytlemajapimeciaa
