/- short: the plain part, and what keeps the decimals. -/
import Derived.Test.YtbnbemacljjimaaGreatDoorJc10
import Derived.Test.YtbnbemacljjimaaGreatDoorJc03
import Derived.Laws.Externs
import Derived.Laws.Bits64b
namespace Go.Proofs.YtbnbemacljjimaaGreatDoor
open Go.RowKit Go.Lib
set_option linter.unusedVariables false

theorem Dc.grown {w w' : World} {p p' : Nat} {ds : List Nat} {dp : Int} {cs : Array Value} (h : Dc w p ds dp) (hg : w.grownBy w' (some p')) (hp' : Blk w p' 232 cs) (hne : p ≠ p') : Dc w' p ds dp := by
  obtain ⟨sv, h1, h2⟩ := h
  exact ⟨sv, h1.grown hg (by intro e; injection e with e; exact hne e), h2.grown hg hp' (by decide)⟩

theorem Dc.below {w w' : World} {p : Nat} {ds : List Nat} {dp : Int} (h : Dc w p ds dp) (hb : Below w.heap.size w w') : Dc w' p ds dp := by
  obtain ⟨sv, h1, h2⟩ := h
  exact ⟨sv, h1.below hb h1.lt, h2.below hb⟩

theorem Dc.blk {w : World} {p : Nat} {ds : List Nat} {dp : Int} (h : Dc w p ds dp) : ∃ cs, Blk w p 232 cs := by
  obtain ⟨sv, h1, h2⟩ := h
  exact ⟨_, h1⟩
theorem Dc.lt {w : World} {p : Nat} {ds : List Nat} {dp : Int} (h : Dc w p ds dp) : p < w.heap.size := by
  obtain ⟨sv, h1, h2⟩ := h
  exact h1.lt

theorem upD_lst {ds : List Nat} : ∀ (n : Nat) (us : List Nat), upD ds n = some us → Lst0 us
  | 0, us, h => by simp [upD] at h
  | n + 1, us, h => by
    unfold upD at h
    by_cases h9 : dAt ds n < 9
    · rw [if_pos h9] at h
      injection h with h
      subst h
      intro d hd
      simp at hd
      omega
    · rw [if_neg h9] at h
      exact upD_lst n us h

/-- What the loop compares: a cut decimal lies below the low end, a raised one above the high end. -/
theorem cut_low {h n : Nat} (ho : h % 2 = 1) (hn : n < (dg (5 * h)).length) {NL ML : Nat} (hL : h / 2 * ML < NL) :
    trimD ((dg (5 * h)).take n) = [] ∨ ∃ D, Nm (trimD ((dg (5 * h)).take n)) ((dg (5 * h)).length - 1) D 1 ∧ D * ML < NL * 1 := by
  by_cases he : trimD ((dg (5 * h)).take n) = []
  · exact .inl he
  right
  have hd := dg_dig (5 * h)
  obtain ⟨_, _, hf, _⟩ := half_form ho
  have hn0 : 0 < n := by
    rcases Nat.eq_zero_or_pos n with e | e
    · subst e; exfalso; apply he; rw [List.take_zero, trimD_eq]; rfl
    · exact e
  have hne : (dg (5 * h)).take n ≠ [] := by
    intro e
    have := congrArg List.length e
    simp at this
    rcases this with e | e
    · omega
    · exact dg_ne _ e
  have hs := take_says (dg (5 * h)) ((dg (5 * h)).length - 1) n (by omega) (by omega)
  have hdig : Dig ((dg (5 * h)).take n) := fun d hd2 => hd d (List.mem_of_mem_take hd2)
  have hfst : Fst ((dg (5 * h)).take n) := by
    intro d hd2
    refine hf d ?_
    rw [List.head?_take, if_neg (by omega)] at hd2
    exact hd2
  refine ⟨_, nm_trim hs hdig hne hfst, ?_⟩
  have h1 := (val_take_le (dg (5 * h)) hd n ((dg (5 * h)).length - 1) (by omega) (by omega)).1
  rw [whole_part ho] at h1
  rw [Nat.mul_one]
  exact Nat.lt_of_le_of_lt (Nat.mul_le_mul_right ML h1) hL

theorem cut_high {h n : Nat} (ho : h % 2 = 1) (hn : n < (dg (5 * h)).length) {NH MH : Nat} (hH : NH < (h / 2 + 1) * MH) :
    (∀ us, upD (dg (5 * h)) n = some us → ∃ U, Nm us ((dg (5 * h)).length - 1) U 1 ∧ NH * 1 < U * MH) ∧
    (upD (dg (5 * h)) n = none → ∃ U, Nm [1] ((dg (5 * h)).length - 1 + 1) U 1 ∧ NH * 1 < U * MH) := by
  have hd := dg_dig (5 * h)
  obtain ⟨_, _, hf, _⟩ := half_form ho
  obtain ⟨h1, h2⟩ := upD_says hd (dg_ne _) hf n (by omega)
  have h3 := (val_take_le (dg (5 * h)) hd n ((dg (5 * h)).length - 1) (by omega) (by omega)).2
  rw [whole_part ho] at h3
  generalize hdp : (dg (5 * h)).length - 1 = dp at *
  have hndp : n ≤ dp := by omega
  constructor
  · intro us hus
    obtain ⟨a1, a2, a3, a4, a5⟩ := h1 us hus
    refine ⟨(val ((dg (5 * h)).take n) + 1) * 10 ^ (dp - n), ⟨?_, a3, a2, a4, upD_lst _ _ hus⟩, ?_⟩
    · unfold Says
      rw [← a5, Nat.mul_one, Nat.mul_assoc, Nat.mul_assoc, ← Nat.pow_add, ← Nat.pow_add, show n - us.length + (dp - n + us.length) = dp by omega]
    · rw [Nat.mul_one]
      exact Nat.lt_of_lt_of_le hH (Nat.mul_le_mul_right MH h3)
  · intro hno
    have a5 := h2 hno
    refine ⟨10 ^ dp, ⟨?_, by intro d hd; simp at hd; omega, by simp, by intro d hd; simp at hd; omega, by intro d hd; simp at hd; omega⟩, ?_⟩
    · unfold Says
      simp [val, Nat.pow_succ]
    · rw [a5, ← Nat.pow_add, show n + (dp - n) = dp by omega] at h3
      rw [Nat.mul_one]
      exact Nat.lt_of_lt_of_le hH (Nat.mul_le_mul_right MH h3)

/-- The ends: m/K is h/2. -/
theorem low_end {h m K : Nat} (ho : h % 2 = 1) (hK : 2 ≤ K) (hm : m * 2 = h * K) : h / 2 * (2 * K) < 2 * m - 1 := by
  obtain ⟨q, rfl⟩ : ∃ q, h = 2 * q + 1 := ⟨h / 2, by omega⟩
  have e : (2 * q + 1) / 2 = q := by omega
  rw [e]
  have e2 : (2 * q + 1) * K = q * (2 * K) + K := by rw [Nat.add_mul, Nat.one_mul, Nat.mul_comm 2 q, Nat.mul_assoc]
  rw [e2] at hm
  omega
theorem low_end2 {h m K : Nat} (ho : h % 2 = 1) (hK : 2 ≤ K) (hm : m * 2 = h * K) : h / 2 * (4 * K) < 4 * m - 1 := by
  obtain ⟨q, rfl⟩ : ∃ q, h = 2 * q + 1 := ⟨h / 2, by omega⟩
  have e : (2 * q + 1) / 2 = q := by omega
  rw [e]
  have e2 : (2 * q + 1) * K = q * (2 * K) + K := by rw [Nat.add_mul, Nat.one_mul, Nat.mul_comm 2 q, Nat.mul_assoc]
  have e3 : q * (4 * K) = 2 * (q * (2 * K)) := by rw [show 4 * K = 2 * (2 * K) by omega]; simp only [Nat.mul_left_comm]
  rw [e2] at hm
  omega
theorem high_end {h m K : Nat} (ho : h % 2 = 1) (hK : 2 ≤ K) (hm : m * 2 = h * K) : 2 * m + 1 < (h / 2 + 1) * (2 * K) := by
  obtain ⟨q, rfl⟩ : ∃ q, h = 2 * q + 1 := ⟨h / 2, by omega⟩
  have e : (2 * q + 1) / 2 = q := by omega
  rw [e]
  have e2 : (2 * q + 1) * K = q * (2 * K) + K := by rw [Nat.add_mul, Nat.one_mul, Nat.mul_comm 2 q, Nat.mul_assoc]
  rw [e2] at hm
  rw [Nat.add_mul, Nat.one_mul]
  omega
end Go.Proofs.YtbnbemacljjimaaGreatDoor

namespace Go.Proofs.YtbnbemacljjimaaGreatDoor
open Go.RowKit Go.Lib
set_option linter.unusedVariables false

/-- What stays through all of short: the form, the decimal itself. -/
structure SS (w : World) (p : Nat) (ds : List Nat) (dp : Int) (W : World) : Prop where
  bel : Below w.heap.size w W
  frm : Blk W w.heap.size 226 #[.int .i64 52, .int .i64 11, .int .i64 (-1023)]
  dec : Dc W p ds dp
  plt : p < w.heap.size

section
variable {w W W' : World} {p q : Nat} {ds : List Nat} {dp : Int}
theorem SS.ext (h : SS w p ds dp W) (hb : Below W.heap.size W W') : SS w p ds dp W' :=
  ⟨h.bel.trans (hb.mono h.bel.size), h.frm.below hb h.frm.lt, h.dec.below hb, h.plt⟩
theorem SS.grown (h : SS w p ds dp W) (hg : W.grownBy W' (some q)) (hq : w.heap.size < q) {cs : Array Value} (hb : Blk W q 232 cs) : SS w p ds dp W' :=
  ⟨h.bel.trans ⟨hg.os, hg.tape, hg.output, hg.size, fun k hk => hg.block k (Nat.lt_of_lt_of_le hk h.bel.size) (by intro e; injection e with e; omega)⟩, h.frm.grown hg (by intro e; injection e with e; omega), h.dec.grown hg hb (by have := h.plt; omega), h.plt⟩
theorem SS.c0 (h : SS w p ds dp W) : W.cell? ⟨w.heap.size, 0, none⟩ = some (.int .i64 52) := h.frm.cell 0
theorem SS.c2 (h : SS w p ds dp W) : W.cell? ⟨w.heap.size, 2, none⟩ = some (.int .i64 (-1023)) := h.frm.cell 2
theorem SS.lt (h : SS w p ds dp W) : w.heap.size < W.heap.size := h.frm.lt
end

/-- The three decimals of the loop. -/
structure LL (w : World) (p : Nat) (ds : List Nat) (dp : Int) (p1 : Nat) (eh : List Nat) (dh : Int) (p2 : Nat) (el : List Nat) (dl : Int) (W : World) : Prop where
  S : SS w p ds dp W
  hi : Dc W p1 eh dh
  lo : Dc W p2 el dl

theorem LL.ext {w W W' : World} {p p1 p2 : Nat} {ds eh el : List Nat} {dp dh dl : Int} (h : LL w p ds dp p1 eh dh p2 el dl W) (hb : Below W.heap.size W W') : LL w p ds dp p1 eh dh p2 el dl W' :=
  ⟨h.S.ext hb, h.hi.below hb, h.lo.below hb⟩

theorem low_cmp (W : World) (b p2 h n : Nat) (el : List Nat) (dl NL ML : Nat) (ho : h % 2 = 1) (hn : n < (dg (5 * h)).length) (hlen : (dg (5 * h)).length ≤ 100) (hdl : dl ≤ 100) (hle : el.length ≤ 1200) (hM : 0 < ML) (hL : h / 2 * ML < NL) (nl : Nm el dl NL ML) (lo : Dc W p2 el (dl : Nat))
    (hb : Dc W b (trimD ((dg (5 * h)).take n)) (dpOf (trimD ((dg (5 * h)).take n)) (((dg (5 * h)).length - 1 : Nat) : Int))) :
    Calls Tryz.prog 203 #[.pointer (some ⟨p2, 0, none⟩), .pointer (some ⟨b, 0, none⟩)] W fun e w' => (∃ r : Int, e = .returned (.int .i64 r) ∧ 1 ≤ r) ∧ ∃ n, w' = W.drewN n := by
  rcases cut_low ho hn hL with he | ⟨D, hD, hlt⟩
  · rw [he] at hb
    exact cmp_empty W p2 b el dl _ lo hb nl.ne (by omega)
  · have hd : dpOf (trimD ((dg (5 * h)).take n)) (((dg (5 * h)).length - 1 : Nat) : Int) = (((dg (5 * h)).length - 1 : Nat) : Int) := if_neg hD.ne
    rw [hd] at hb
    have hl2 := trim_len ((dg (5 * h)).take n)
    have hl3 : ((dg (5 * h)).take n).length ≤ 100 := by simp; omega
    exact cmp_any W p2 b el _ dl _ NL ML D 1 lo hb nl hD hM (by decide) hlt (by omega) (by omega) (by omega) (by omega)

theorem high_cmp (W : World) (b p1 h n : Nat) (eh : List Nat) (dh NH MH : Nat) (ho : h % 2 = 1) (hn : n < (dg (5 * h)).length) (hlen : (dg (5 * h)).length ≤ 100) (hdh : dh ≤ 100) (hle : eh.length ≤ 1200) (hM : 0 < MH) (hH : NH < (h / 2 + 1) * MH) (nh : Nm eh dh NH MH) (hi : Dc W p1 eh (dh : Nat))
    (hb1 : ∀ us, upD (dg (5 * h)) n = some us → Dc W b us (((dg (5 * h)).length - 1 : Nat) : Int)) (hb2 : upD (dg (5 * h)) n = none → Dc W b [1] ((((dg (5 * h)).length - 1 : Nat) : Int) + 1)) :
    Calls Tryz.prog 203 #[.pointer (some ⟨b, 0, none⟩), .pointer (some ⟨p1, 0, none⟩)] W fun e w' => (∃ r : Int, e = .returned (.int .i64 r) ∧ 1 ≤ r) ∧ ∃ n, w' = W.drewN n := by
  obtain ⟨c1, c2⟩ := cut_high ho hn hH
  cases hu : upD (dg (5 * h)) n with
  | none =>
    obtain ⟨U, hU, hlt⟩ := c2 hu
    have hb := hb2 hu
    rw [show (((dg (5 * h)).length - 1 : Nat) : Int) + 1 = (((dg (5 * h)).length - 1 + 1 : Nat) : Int) by omega] at hb
    exact cmp_any W b p1 [1] eh _ dh U 1 NH MH hb hi hU nh (by decide) hM hlt (by simp) (by omega) (by omega) (by omega)
  | some us =>
    obtain ⟨U, hU, hlt⟩ := c1 us hu
    have hl2 := ((upD_says (dg_dig (5 * h)) (dg_ne _) (half_form ho).2.2.1 n (by omega)).1 us hu).1
    exact cmp_any W b p1 us eh _ dh U 1 NH MH (hb1 us hu) hi hU nh (by decide) hM hlt (by omega) (by omega) (by omega) (by omega)

set_option maxHeartbeats 4000000 in
set_option maxRecDepth 100000 in
theorem short_any (w : World) (p h m k : Nat) (hDc : Dc w p (dg (5 * h)) (((dg (5 * h)).length - 1 : Nat) : Int)) (ho : h % 2 = 1) (hk1 : 1 ≤ k) (hk : k ≤ 53) (hm : m * 2 = h * 2 ^ k) (hm1 : 4503599627370496 ≤ m) (hm2 : m < 9007199254740992) :
    Calls Tryz.prog 168 #[.pointer (some ⟨p, 0, none⟩), .int .u64 (m : Nat), .int .i64 (52 - (k : Int)), .agg #[.int .i64 52, .int .i64 11, .int .i64 (-1023)]] w fun e w' => e = .returned (.pointer (some ⟨p, 0, none⟩)) ∧ Below w.heap.size w w' := by
  have n1 : ∀ W : World, Calls Tryz.prog 166 #[.int .u64 (2 * (m : Int) + 1)] W fun e w' => ∃ p, e = .returned (.pointer (some ⟨p, 0, none⟩)) ∧ W.heap.size ≤ p ∧ Below W.heap.size W w' ∧ Dc w' p (trimD (dg (2 * m + 1))) ((dg (2 * m + 1)).length : Nat) := fun W => by
    have h := newDecimal_any (2 * m + 1) (by omega) (by omega) W
    rw [show ((2 * m + 1 : Nat) : Int) = 2 * (m : Int) + 1 by omega] at h
    exact h
  have n2 : ∀ W : World, Calls Tryz.prog 166 #[.int .u64 (2 * (m : Int) - 1)] W fun e w' => ∃ p, e = .returned (.pointer (some ⟨p, 0, none⟩)) ∧ W.heap.size ≤ p ∧ Below W.heap.size W w' ∧ Dc w' p (trimD (dg (2 * m - 1))) ((dg (2 * m - 1)).length : Nat) := fun W => by
    have h := newDecimal_any (2 * m - 1) (by omega) (by omega) W
    rw [show ((2 * m - 1 : Nat) : Int) = 2 * (m : Int) - 1 by omega] at h
    exact h
  have n3 : ∀ W : World, Calls Tryz.prog 166 #[.int .u64 (4 * (m : Int) - 1)] W fun e w' => ∃ p, e = .returned (.pointer (some ⟨p, 0, none⟩)) ∧ W.heap.size ≤ p ∧ Below W.heap.size W w' ∧ Dc w' p (trimD (dg (4 * m - 1))) ((dg (4 * m - 1)).length : Nat) := fun W => by
    have h := newDecimal_any (4 * m - 1) (by omega) (by omega) W
    rw [show ((4 * m - 1 : Nat) : Int) = 4 * (m : Int) - 1 by omega] at h
    exact h
  have s1 : ∀ (W : World) (q : Nat) (ds : List Nat) (dp N : Nat), Dc W q ds dp → Nm ds dp N 1 → ds.length ≤ dp → dp ≤ 100 → 2 ^ (k + 1) ≤ 10 * N → Calls Tryz.prog 167 #[.pointer (some ⟨q, 0, none⟩), .int .i64 (52 - (k : Int) - 52 - 1)] W fun e w' => e = .returned (.tuple #[]) ∧ W.grownBy w' (some q) ∧ ∃ es dq, dq ≤ dp ∧ es.length ≤ 1200 ∧ Dc w' q es (dq : Nat) ∧ Nm es dq N (2 ^ (k + 1)) := fun W q ds dp N h1 h2 h3 h4 h5 => by
    have h := shift_any W q (k + 1) ds dp N h1 h2 h3 h4 h5 (by omega)
    rw [show (-((k + 1 : Nat) : Int)) = 52 - (k : Int) - 52 - 1 by omega] at h
    exact h
  have s2 : ∀ (W : World) (q : Nat) (ds : List Nat) (dp N : Nat), Dc W q ds dp → Nm ds dp N 1 → ds.length ≤ dp → dp ≤ 100 → 2 ^ (k + 2) ≤ 10 * N → Calls Tryz.prog 167 #[.pointer (some ⟨q, 0, none⟩), .int .i64 (52 - (k : Int) - 52 - 2)] W fun e w' => e = .returned (.tuple #[]) ∧ W.grownBy w' (some q) ∧ ∃ es dq, dq ≤ dp ∧ es.length ≤ 1200 ∧ Dc w' q es (dq : Nat) ∧ Nm es dq N (2 ^ (k + 2)) := fun W q ds dp N h1 h2 h3 h4 h5 => by
    have h := shift_any W q (k + 2) ds dp N h1 h2 h3 h4 h5 (by omega)
    rw [show (-((k + 2 : Nat) : Int)) = 52 - (k : Int) - 52 - 2 by omega] at h
    exact h
  replace n1 := hide n1
  replace n2 := hide n2
  replace n3 := hide n3
  replace s1 := hide s1
  replace s2 := hide s2
  go_enter Tryz.func168, Tryz.ntmps168
  go_upto_region 1 with fail
  obtain ⟨W0, hW0⟩ : ∃ W0, W0 = w.alloc (.cells #[.int .i64 52, .int .i64 11, .int .i64 (-1023)] 226) := ⟨_, rfl⟩
  rw [← hW0]
  have S0 : SS w p (dg (5 * h)) (((dg (5 * h)).length - 1 : Nat) : Int) W0 := by
    rw [hW0]
    exact ⟨(Below.refl _ w).alloc (Nat.le_refl _) _, Blk.new _ _ _, hDc.below ((Below.refl _ w).alloc (Nat.le_refl _) _), hDc.lt⟩
  clear hW0 hDc
  replace S0 := hide S0
  have N1 := nm_new (n := 2 * m + 1) (by omega)
  have L1 : (trimD (dg (2 * m + 1))).length ≤ (dg (2 * m + 1)).length := trim_len _
  have K1 : (dg (2 * m + 1)).length ≤ 20 := dg_le 19 _ (by omega)
  go_wp2_with (go_at_call 166; (with_reducible refine (n1.out _).mono ?_); rintro e w1 ⟨p1, rfl, hp1, hb1, hd1⟩; have S1 := S0.out.ext hb1; have c10 := S1.c0; have c12 := S1.c2; have hp1' : w.heap.size < p1 := Nat.lt_of_lt_of_le S0.out.lt hp1; replace S1 := hide S1; replace hd1 := hide hd1; clear hb1 hp1)
  have P1 : 2 ^ (k + 1) ≤ 10 * (2 * m + 1) := Nat.le_trans (Nat.pow_le_pow_right (by decide) (by omega : k + 1 ≤ 54)) (by omega)
  have P2 : 2 ^ (k + 1) ≤ 10 * (2 * m - 1) := Nat.le_trans (Nat.pow_le_pow_right (by decide) (by omega : k + 1 ≤ 54)) (by omega)
  have P3 : 2 ^ (k + 2) ≤ 10 * (4 * m - 1) := Nat.le_trans (Nat.pow_le_pow_right (by decide) (by omega : k + 2 ≤ 55)) (by omega)
  have N2 := nm_new (n := 2 * m - 1) (by omega)
  have L2 : (trimD (dg (2 * m - 1))).length ≤ (dg (2 * m - 1)).length := trim_len _
  have K2 : (dg (2 * m - 1)).length ≤ 20 := dg_le 19 _ (by omega)
  have N3 := nm_new (n := 4 * m - 1) (by omega)
  have L3 : (trimD (dg (4 * m - 1))).length ≤ (dg (4 * m - 1)).length := trim_len _
  have K3 : (dg (4 * m - 1)).length ≤ 20 := dg_le 19 _ (by omega)
  replace P1 := hide P1
  replace P2 := hide P2
  replace P3 := hide P3
  have hk2 : 2 ≤ 2 ^ k := Nat.le_trans (by decide : 2 ≤ 2 ^ 1) (Nat.pow_le_pow_right (by decide) hk1)
  have HH := hide (high_end ho hk2 hm)
  have HL := hide (low_end ho hk2 hm)
  have HL2 := hide (low_end2 ho hk2 hm)
  have E1 : 2 * 2 ^ k = 2 ^ (k + 1) := by rw [Nat.pow_succ, Nat.mul_comm]
  have E2 : 4 * 2 ^ k = 2 ^ (k + 2) := by rw [Nat.pow_add, Nat.mul_comm]
  replace E1 := hide E1
  replace E2 := hide E2
  replace hm := hide hm
  replace hk2 := hide hk2
  go_wp2_with (go_at_call 167; (with_reducible refine (s1.out _ p1 _ _ (2 * m + 1) hd1.out N1 L1 (by omega) P1.out).mono ?_); rintro e w2 ⟨rfl, hg2, eh, dh, hq1, hle1, hdh2, nh⟩; obtain ⟨_, hblk1⟩ := hd1.out.blk; have S2 := S1.out.grown hg2 hp1' hblk1; have c20 := S2.c0; have c22 := S2.c2; replace S2 := hide S2; have hdh2' := hide hdh2; have hlt2 := hdh2.lt; clear hg2 hblk1 hdh2)
  go_wp2_with (go_at_call 166; (refine (n2.out _).mono ?_; rintro e w3 ⟨p2, rfl, hp2, hb3, hd3⟩; have S3 := S2.out.ext hb3; have c30 := S3.c0; have c32 := S3.c2; have hp2' : w.heap.size < p2 := Nat.lt_of_lt_of_le S2.out.lt hp2; have hne12 : p1 ≠ p2 := (by omega); have hdh3 := hide (hdh2'.out.below hb3); replace S3 := hide S3; replace hd3 := hide hd3; clear hb3 hp2))
  have hlen : (dg (5 * h)).length ≤ 17 := by
    have e : h ≤ m := by have := hm.out; have : h * 2 ≤ h * 2 ^ k := Nat.mul_le_mul_left h hk2.out; omega
    exact dg_le 16 _ (by omega)
  by_cases h52 : m = 4503599627370496
  · have hb52 : (((m : Nat) : Int) == 4503599627370496) = true := by simp; omega
    have hpar : (((m : Nat) : Int) % 2 == 0) = true := by simp; omega
    replace h52 := hide h52
    go_wp2_with (go_at_call 167; (with_reducible refine (s1.out _ p2 _ _ (2 * m - 1) hd3.out N2 L2 (by omega) P2.out).mono ?_); rintro e w4 ⟨rfl, hg4, ex, dx, hqx, hlex, hdl4, nx⟩; obtain ⟨_, hblk3⟩ := hd3.out.blk; have S4 := S3.out.grown hg4 hp2' hblk3; have c40 := S4.c0; have c42 := S4.c2; have hdh4 := hide (hdh3.out.grown hg4 hblk3 hne12); have lt4 := hdl4.lt; have lh4 := hdh4.out.lt; replace S4 := hide S4; have hdl4' := hide hdl4; clear hg4 hblk3 hdl4)
    go_wp2_with (go_at_call 166; refine (n3.out _).mono ?_; rintro e w5 ⟨p3, rfl, hp3, hb5, hd5⟩; have S5 := S4.out.ext hb5; have c50 := S5.c0; have c52 := S5.c2; have hp3' : w.heap.size < p3 := Nat.lt_of_lt_of_le S4.out.lt hp3; have hne13 : p1 ≠ p3 := (by omega); have hdh5 := hide (hdh4.out.below hb5); replace S5 := hide S5; replace hd5 := hide hd5; clear hb5 hp3)
    go_wp2_with (go_at_call 167; (with_reducible refine (s2.out _ p3 _ _ (4 * m - 1) hd5.out N3 L3 (by omega) P3.out).mono ?_); rintro e w6 ⟨rfl, hg6, el, dl, hq2, hle2, hdl6, nl⟩; obtain ⟨_, hblk5⟩ := hd5.out.blk; have S6 := S5.out.grown hg6 hp3' hblk5; have c60 := S6.c0; have hdh6 := hide (hdh5.out.grown hg6 hblk5 hne13); replace S6 := hide S6; have hdl6' := hide hdl6; clear hg6 hblk5 hdl6)
    have hML : h / 2 * (2 ^ (k + 2)) < 4 * m - 1 := by rw [← E2.out]; exact HL2.out
    have hMH : 2 * m + 1 < (h / 2 + 1) * 2 ^ (k + 1) := by rw [← E1.out]; exact HH.out
    replace hML := hide hML
    replace hMH := hide hMH
    have hLL := hide (show LL w p (dg (5 * h)) (((dg (5 * h)).length - 1 : Nat) : Int) p1 eh (dh : Nat) p3 el (dl : Nat) w6 from ⟨S6.out, hdh6.out, hdl6'.out⟩)
    clear S6 hdh6 hdl6'
    replace nl := hide nl
    replace nh := hide nh
    go_loopw [12] (fun s12 wr => ∃ n : Nat, s12 = .int .i64 n ∧ n ≤ (dg (5 * h)).length ∧ LL w p (dg (5 * h)) (((dg (5 * h)).length - 1 : Nat) : Int) p1 eh (dh : Nat) p3 el (dl : Nat) wr) (fun i _ => 200 - (RowKit.intOf i).toNat)
    case atStart => exact ⟨0, rfl, Nat.zero_le _, hLL.out⟩
    case round =>
      obtain ⟨n, rfl, hn, Hr⟩ := hrel
      obtain ⟨A, c, q0, q1⟩ := Hr.S.dec.c0
      by_cases hlt : n < (dg (5 * h)).length
      · replace Hr := hide Hr
        go_wp2_with (go_at_call 201; refine (down_any _ p n _ _ Hr.out.S.dec hlt (by omega)).mono ?_; rintro e wa ⟨ba, rfl, hba, hbba, hda⟩; have Ha := hide (Hr.out.ext hbba); replace hda := hide hda; clear hbba hba)
        go_wp2_with (go_at_call 202; refine (up_any _ p n _ _ Ha.out.S.dec hlt (by omega) (by omega)).mono ?_; rintro e wb ⟨bb, rfl, hbb, hbbb, hu1, hu2⟩; have Hb := hide (Ha.out.ext hbbb); have hda2 := hide (hda.out.below hbbb); replace hu1 := hide hu1; replace hu2 := hide hu2; clear hbbb hbb)
        go_wp2_with (go_at_call 203; (with_reducible refine (low_cmp _ ba p3 h n el dl _ _ ho hlt (by omega) (by omega) hle2 (Nat.pow_pos (by decide)) hML.out nl.out Hb.out.lo hda2.out).mono ?_); rintro e wc ⟨⟨r1, rfl, hr1⟩, nc, hwc⟩; have hbc : Below wb.heap.size wb wc := (by rw [hwc]; exact below_drewN (Below.refl _ _) _); have Hc := hide (Hb.out.ext hbc); have hv1 := hide (fun us hus => (hu1.out us hus).below hbc); have hv2 := hide (fun hno => (hu2.out hno).below hbc); clear hwc hbc)
        go_wp2_with (go_at_call 203; (with_reducible refine (high_cmp _ bb p1 h n eh dh _ _ ho hlt (by omega) (by omega) hle1 (Nat.pow_pos (by decide)) hMH.out nh.out Hc.out.hi hv1.out hv2.out).mono ?_); rintro e wd ⟨⟨r2, rfl, hr2⟩, nd, hwd⟩; have hbd : Below wc.heap.size wc wd := (by rw [hwd]; exact below_drewN (Below.refl _ _) _); have Hd := hide (Hc.out.ext hbd); clear hwd hbd)
        go_roundw
        case rel => exact ⟨n + 1, by go_num, by omega, Hd.out⟩
        case measure => simp [RowKit.intOf]; omega
      · have hb := Hr.S.bel
        replace Hr := hide Hr
        go_wp2
        go_ret
        exact ⟨rfl, hb⟩
  · have hb52 : (((m : Nat) : Int) == 4503599627370496) = false := by simp; omega
    by_cases hpar0 : m % 2 = 0
    · have hpar : (((m : Nat) : Int) % 2 == 0) = true := by simp; omega
      go_wp2_with (go_at_call 167; (with_reducible refine (s1.out _ p2 _ _ (2 * m - 1) hd3.out N2 L2 (by omega) P2.out).mono ?_); rintro e w4 ⟨rfl, hg4, el, dl, hq2, hle2, hdl4, nl⟩; obtain ⟨_, hblk3⟩ := hd3.out.blk; have S4 := S3.out.grown hg4 hp2' hblk3; have c40 := S4.c0; have c42 := S4.c2; have hdh4 := hide (hdh3.out.grown hg4 hblk3 hne12); have lt4 := hdl4.lt; have lh4 := hdh4.out.lt; replace S4 := hide S4; have hdl4' := hide hdl4; clear hg4 hblk3 hdl4)
      have hML : h / 2 * (2 ^ (k + 1)) < 2 * m - 1 := by rw [← E1.out]; exact HL.out
      have hMH : 2 * m + 1 < (h / 2 + 1) * 2 ^ (k + 1) := by rw [← E1.out]; exact HH.out
      replace hML := hide hML
      replace hMH := hide hMH
      have hLL := hide (show LL w p (dg (5 * h)) (((dg (5 * h)).length - 1 : Nat) : Int) p1 eh (dh : Nat) p2 el (dl : Nat) w4 from ⟨S4.out, hdh4.out, hdl4'.out⟩)
      clear S4 hdh4 hdl4'
      replace nl := hide nl
      replace nh := hide nh
      go_loopw [12] (fun s12 wr => ∃ n : Nat, s12 = .int .i64 n ∧ n ≤ (dg (5 * h)).length ∧ LL w p (dg (5 * h)) (((dg (5 * h)).length - 1 : Nat) : Int) p1 eh (dh : Nat) p2 el (dl : Nat) wr) (fun i _ => 200 - (RowKit.intOf i).toNat)
      case atStart => exact ⟨0, rfl, Nat.zero_le _, hLL.out⟩
      case round =>
        obtain ⟨n, rfl, hn, Hr⟩ := hrel
        obtain ⟨A, c, q0, q1⟩ := Hr.S.dec.c0
        by_cases hlt : n < (dg (5 * h)).length
        · replace Hr := hide Hr
          go_wp2_with (go_at_call 201; refine (down_any _ p n _ _ Hr.out.S.dec hlt (by omega)).mono ?_; rintro e wa ⟨ba, rfl, hba, hbba, hda⟩; have Ha := hide (Hr.out.ext hbba); replace hda := hide hda; clear hbba hba)
          go_wp2_with (go_at_call 202; refine (up_any _ p n _ _ Ha.out.S.dec hlt (by omega) (by omega)).mono ?_; rintro e wb ⟨bb, rfl, hbb, hbbb, hu1, hu2⟩; have Hb := hide (Ha.out.ext hbbb); have hda2 := hide (hda.out.below hbbb); replace hu1 := hide hu1; replace hu2 := hide hu2; clear hbbb hbb)
          go_wp2_with (go_at_call 203; (with_reducible refine (low_cmp _ ba p2 h n el dl _ _ ho hlt (by omega) (by omega) hle2 (Nat.pow_pos (by decide)) hML.out nl.out Hb.out.lo hda2.out).mono ?_); rintro e wc ⟨⟨r1, rfl, hr1⟩, nc, hwc⟩; have hbc : Below wb.heap.size wb wc := (by rw [hwc]; exact below_drewN (Below.refl _ _) _); have Hc := hide (Hb.out.ext hbc); have hv1 := hide (fun us hus => (hu1.out us hus).below hbc); have hv2 := hide (fun hno => (hu2.out hno).below hbc); clear hwc hbc)
          go_wp2_with (go_at_call 203; (with_reducible refine (high_cmp _ bb p1 h n eh dh _ _ ho hlt (by omega) (by omega) hle1 (Nat.pow_pos (by decide)) hMH.out nh.out Hc.out.hi hv1.out hv2.out).mono ?_); rintro e wd ⟨⟨r2, rfl, hr2⟩, nd, hwd⟩; have hbd : Below wc.heap.size wc wd := (by rw [hwd]; exact below_drewN (Below.refl _ _) _); have Hd := hide (Hc.out.ext hbd); clear hwd hbd)
          go_roundw
          case rel => exact ⟨n + 1, by go_num, by omega, Hd.out⟩
          case measure => simp [RowKit.intOf]; omega
        · have hb := Hr.S.bel
          replace Hr := hide Hr
          go_wp2
          go_ret
          exact ⟨rfl, hb⟩
    · have hpar : (((m : Nat) : Int) % 2 == 0) = false := by simp; omega
      go_wp2_with (go_at_call 167; (with_reducible refine (s1.out _ p2 _ _ (2 * m - 1) hd3.out N2 L2 (by omega) P2.out).mono ?_); rintro e w4 ⟨rfl, hg4, el, dl, hq2, hle2, hdl4, nl⟩; obtain ⟨_, hblk3⟩ := hd3.out.blk; have S4 := S3.out.grown hg4 hp2' hblk3; have c40 := S4.c0; have c42 := S4.c2; have hdh4 := hide (hdh3.out.grown hg4 hblk3 hne12); have lt4 := hdl4.lt; have lh4 := hdh4.out.lt; replace S4 := hide S4; have hdl4' := hide hdl4; clear hg4 hblk3 hdl4)
      have hML : h / 2 * (2 ^ (k + 1)) < 2 * m - 1 := by rw [← E1.out]; exact HL.out
      have hMH : 2 * m + 1 < (h / 2 + 1) * 2 ^ (k + 1) := by rw [← E1.out]; exact HH.out
      replace hML := hide hML
      replace hMH := hide hMH
      have hLL := hide (show LL w p (dg (5 * h)) (((dg (5 * h)).length - 1 : Nat) : Int) p1 eh (dh : Nat) p2 el (dl : Nat) w4 from ⟨S4.out, hdh4.out, hdl4'.out⟩)
      clear S4 hdh4 hdl4'
      replace nl := hide nl
      replace nh := hide nh
      go_loopw [12] (fun s12 wr => ∃ n : Nat, s12 = .int .i64 n ∧ n ≤ (dg (5 * h)).length ∧ LL w p (dg (5 * h)) (((dg (5 * h)).length - 1 : Nat) : Int) p1 eh (dh : Nat) p2 el (dl : Nat) wr) (fun i _ => 200 - (RowKit.intOf i).toNat)
      case atStart => exact ⟨0, rfl, Nat.zero_le _, hLL.out⟩
      case round =>
        obtain ⟨n, rfl, hn, Hr⟩ := hrel
        obtain ⟨A, c, q0, q1⟩ := Hr.S.dec.c0
        by_cases hlt : n < (dg (5 * h)).length
        · replace Hr := hide Hr
          go_wp2_with (go_at_call 201; refine (down_any _ p n _ _ Hr.out.S.dec hlt (by omega)).mono ?_; rintro e wa ⟨ba, rfl, hba, hbba, hda⟩; have Ha := hide (Hr.out.ext hbba); replace hda := hide hda; clear hbba hba)
          go_wp2_with (go_at_call 202; refine (up_any _ p n _ _ Ha.out.S.dec hlt (by omega) (by omega)).mono ?_; rintro e wb ⟨bb, rfl, hbb, hbbb, hu1, hu2⟩; have Hb := hide (Ha.out.ext hbbb); have hda2 := hide (hda.out.below hbbb); replace hu1 := hide hu1; replace hu2 := hide hu2; clear hbbb hbb)
          go_wp2_with (go_at_call 203; (with_reducible refine (low_cmp _ ba p2 h n el dl _ _ ho hlt (by omega) (by omega) hle2 (Nat.pow_pos (by decide)) hML.out nl.out Hb.out.lo hda2.out).mono ?_); rintro e wc ⟨⟨r1, rfl, hr1⟩, nc, hwc⟩; have hbc : Below wb.heap.size wb wc := (by rw [hwc]; exact below_drewN (Below.refl _ _) _); have Hc := hide (Hb.out.ext hbc); have hv1 := hide (fun us hus => (hu1.out us hus).below hbc); have hv2 := hide (fun hno => (hu2.out hno).below hbc); clear hwc hbc)
          go_wp2_with (go_at_call 203; (with_reducible refine (high_cmp _ bb p1 h n eh dh _ _ ho hlt (by omega) (by omega) hle1 (Nat.pow_pos (by decide)) hMH.out nh.out Hc.out.hi hv1.out hv2.out).mono ?_); rintro e wd ⟨⟨r2, rfl, hr2⟩, nd, hwd⟩; have hbd : Below wc.heap.size wc wd := (by rw [hwd]; exact below_drewN (Below.refl _ _) _); have Hd := hide (Hc.out.ext hbd); clear hwd hbd)
          go_roundw
          case rel => exact ⟨n + 1, by go_num, by omega, Hd.out⟩
          case measure => simp [RowKit.intOf]; omega
        · have hb := Hr.S.bel
          replace Hr := hide Hr
          go_wp2
          go_ret
          exact ⟨rfl, hb⟩
end Go.Proofs.YtbnbemacljjimaaGreatDoor

namespace Go.Proofs.YtbnbemacljjimaaGreatDoor
open Go.RowKit Go.Lib
set_option linter.unusedVariables false

set_option maxHeartbeats 2000000 in
theorem formOf_any (w : World) : Calls Tryz.prog 164 #[.int .i64 64] w fun e w' => e = .returned (.agg #[.int .i64 52, .int .i64 11, .int .i64 (-1023)]) ∧ Below w.heap.size w w' := by
  go_enter Tryz.func164, Tryz.ntmps164
  go_wp2
  exact bodyPost_ret (v := .agg #[.int .i64 52, .int .i64 11, .int .i64 (-1023)]) (by simp [results, Tryz.results164, go_sem]) rfl ⟨rfl, (Below.refl _ _).alloc (Nat.le_refl _) _⟩

/-- A digit's byte. -/
def cv (d : Nat) : Value := .int .u8 (48 + d : Nat)

/-- text's loops: what is laid so far. -/
structure TF (w : World) (p : Nat) (ds : List Nat) (dp : Int) (out : List Value) (wr : World) (sv : Value) : Prop where
  bel : Below w.heap.size w wr
  dec : Dc wr p ds dp
  own : wr.ownsRow w.heap.size 5 1 sv out.length out

theorem TF.push {w wr w' : World} {p g cap : Nat} {ds : List Nat} {dp : Int} {out : List Value} {sv u : Value} (h : TF w p ds dp out wr sv) (hp : p < w.heap.size)
    (own4 : w'.ownsRow w.heap.size 5 1 (.slice (some ⟨g, 0, none⟩) (out.length + 1) cap) (out.length + 1) (out ++ [u])) (g4 : wr.grownBy w' sv.ownBlock) (hw : Dc w p ds dp) :
    TF w p ds dp (out ++ [u]) w' (.slice (some ⟨g, 0, none⟩) (out.length + 1) cap) := by
  have hb : Below w.heap.size w w' := h.bel.trans ⟨g4.os, g4.tape, g4.output, g4.size, fun k hk => g4.block k (Nat.lt_of_lt_of_le hk h.bel.size) (fun e => by have := (h.own.lt k e.symm).1; omega)⟩
  exact ⟨hb, hw.below hb, by simpa using own4⟩

theorem own_text {w : World} {base g cap n : Nat} {xs : List Int} (hown : w.ownsRow base 5 1 (.slice (some ⟨g, 0, none⟩) n cap) n (xs.map (Value.int .u8))) :
    (convert 119 9 (.slice (some ⟨g, 0, none⟩) n cap)).run Tryz.prog w = .ok (.string (strOfNums xs)) w := by
  have hl : xs.length = n := by have := hown.1; simpa using this
  refine run_convert_bytes_arg (P := Tryz.prog) w 119 5 Tryz.underlying119 Tryz.underlying5 g 0 n cap xs hl (fun j hj => ?_) 9 Tryz.underlying9
  have h := hown.cellAt j (by omega)
  rw [Nat.zero_add, h, List.getElem?_map, List.getElem?_eq_getElem (by omega)]
  simp [List.getElem?_eq_getElem (show j < xs.length by omega)]

def tl5 : Nat → List Value
  | 0 => []
  | _ + 1 => [cv 5]

theorem text_ints (ds : List Nat) : ds.map cv ++ [Value.int .u8 46] ++ tl5 1 = (ds.map (fun d => ((48 + d : Nat) : Int)) ++ [46, 53]).map (Value.int .u8) := by
  rw [List.map_append, List.map_map, List.append_assoc]
  rfl
theorem text_str (ds : List Nat) : strOfNums (ds.map (fun d => ((48 + d : Nat) : Int)) ++ [46, 53]) = txt ds ++ ⟨#[46, 53]⟩ := by
  rw [← nums_txt]
  apply ByteArray.ext
  apply Array.toList_inj.1
  simp [strOfNums]
theorem text_more (ds : List Nat) : ds.map cv ++ [Value.int .u8 46] ++ tl5 0 ++ [Value.int .u8 53] = ds.map cv ++ [Value.int .u8 46] ++ tl5 1 := by
  rw [tl5, List.append_nil]; rfl

theorem last_five {h : Nat} (ho : h % 2 = 1) : dAt (dg (5 * h)) ((dg (5 * h)).length - 1) = 5 := by
  have e := (half_form ho).2.1
  generalize dg (5 * h) = ds at *
  subst e
  simp [dAt]

theorem first_part {h : Nat} (ho : h % 2 = 1) : (dg (5 * h)).take ((dg (5 * h)).length - 1) = if h / 2 = 0 then [] else dg (h / 2) := by
  have e := (half_form ho).2.1
  generalize dg (5 * h) = ds at *
  subst e
  simp

set_option maxHeartbeats 2000000 in
set_option maxRecDepth 100000 in
theorem text_any (w : World) (p h : Nat) (hDc : Dc w p (dg (5 * h)) (((dg (5 * h)).length - 1 : Nat) : Int)) (ho : h % 2 = 1) (hl : (dg (5 * h)).length ≤ 20) :
    Calls Tryz.prog 171 #[.pointer (some ⟨p, 0, none⟩), .int .i64 1] w fun e w' => e = .returned (.string (txt (dg (h / 2)) ++ ⟨#[46, 53]⟩)) ∧ Below w.heap.size w w' := by
  have hp := hDc.lt
  obtain ⟨L, hL⟩ : ∃ L, (dg (5 * h)).length - 1 = L := ⟨_, rfl⟩
  rw [hL] at hDc
  replace hL := hide hL
  replace hDc := hide hDc
  go_enter Tryz.func171, Tryz.ntmps171
  go_wp2
  go_loopw [5, 6] (fun s5 s6 wr => ∃ i : Nat, s6 = .int .i64 i ∧ i ≤ L ∧ TF w p (dg (5 * h)) (L : Nat) (((dg (5 * h)).take i).map cv) wr s5) (fun _ i _ => 100 - (RowKit.intOf i).toNat)
  case atStart => exact ⟨0, rfl, Nat.zero_le _, Below.refl _ _, hDc.out, rfl, .inl ⟨rfl, rfl⟩⟩
  case round =>
    obtain ⟨i, rfl, hi, H⟩ := hrel
    obtain ⟨A, c, q0, q1⟩ := H.dec.c0
    by_cases hlt : i < L
    · have dx := hide (digit_any _ p i _ _ H.dec (by omega))
      have hd10 := dAt_lt (dg_dig (5 * h)) i
      obtain ⟨d, hd⟩ : ∃ d, dAt (dg (5 * h)) i = d := ⟨_, rfl⟩
      rw [hd] at dx hd10
      replace hd := hide hd
      replace H := hide H
      have hx : Value.int .u8 (48 + (d : Int)) = cv d := by unfold cv; congr 1
      replace hx := hide hx
      have hiL : i < (dg (5 * h)).length := by have := hL.out; omega
      have hln : (((dg (5 * h)).take i).map cv).length = i := by simp; omega
      have htk : ((dg (5 * h)).take i).map cv ++ [cv d] = ((dg (5 * h)).take (i + 1)).map cv := by
        have e := hd.out
        rw [List.take_add_one, List.getElem?_eq_getElem hiL]
        simp [dAt, List.getElem?_eq_getElem hiL] at e
        simp [e]
      replace htk := hide htk
      have hown := H.out.own
      rw [hln] at hown
      replace hown := hide hown
      have hbs := H.out.bel.size
      replace hln := hide hln
      go_wp2_with (first
        | (go_at_call 205; refine dx.out.mono ?_; rintro e W2 ⟨rfl, rfl⟩)
        | (refine wpList_push _ rfl (.tmp 16) (.tmp 21) rfl w.heap.size _ i (((dg (5 * h)).take i).map cv) (.int .u8 (48 + (d : Int))) rfl hown.out rfl rfl (by omega) hbs ?_; intro g cap W4 own4 g4 loc4; have H4 := TF.push (cap := cap) (g := g) H.out hp (by rw [hln.out]; exact own4) g4 hDc.out; rw [hln.out] at H4; rw [hx.out] at H4; rw [htk.out] at H4; replace H4 := hide H4; clear own4 g4 loc4))
      go_roundw
      case rel => exact ⟨i + 1, by go_num, by omega, H4.out⟩
      case measure => simp [RowKit.intOf]; omega
    · obtain rfl : i = L := by omega
      have e1 := (half_form ho).2.1
      have hin : (((dg (5 * h)).take i).map cv).length = i := by have := hL.out; simp; omega
      have hown := H.own
      rw [hin] at hown
      by_cases hi0 : i = 0
      · subst hi0
        have h20 : h / 2 = 0 := by
          have e2 := whole_part ho
          rw [hL.out, List.take_zero] at e2
          exact e2.symm
        obtain ⟨A5, c5, hs5⟩ : ∃ A c, u5 = .slice A 0 c := by
          rcases Go.Joins.ownsRow_forms hown with ⟨e, _⟩ | ⟨_, _, e⟩
          · exact ⟨_, _, e⟩
          · exact ⟨_, _, e⟩
        subst hs5
        have hdg0 : dg (h / 2) = [0] := by rw [h20]; exact dg_small (by decide)
        rw [List.take_zero, List.map_nil] at H hown
        have HF := hide H
        have hO := hide hown
        have hbs2 := H.bel.size
        clear H hown
        have hz : Hid (([] ++ [Value.int .u8 48] : List Value) = (dg (h / 2)).map cv) := hide (by rw [hdg0]; rfl)
        have hlc : Hid (((dg (h / 2)).map cv).length = 1) := hide (by rw [hdg0]; rfl)
        have hlc2 : (dg (h / 2)).length = 1 := by rw [hdg0]; rfl
        replace hdg0 := hide hdg0
        go_wp2_with (first
          | (refine wpList_push _ rfl (.tmp 26) (.tmp 27) rfl w.heap.size _ 0 [] (.int .u8 48) rfl hO.out rfl rfl (by omega) hbs2 ?_; intro g6 cap6 W6 own6 g6' loc6; have HZ := TF.push (cap := cap6) (g := g6) HF.out hp (by exact own6) g6' hDc.out; rw [hz.out] at HZ; have hO2 := HZ.own; rw [hlc.out] at hO2; have hbs3 := HZ.bel.size; have HF2 := hide HZ; replace hO2 := hide hO2; clear own6 g6' loc6 HZ)
          | (refine wpList_push _ rfl (.tmp 31) (.tmp 32) rfl w.heap.size _ 1 ((dg (h / 2)).map cv) (.int .u8 46) rfl hO2.out rfl rfl (by omega) hbs3 ?_; intro g7 cap7 W7 own7 g7' loc7; have HT := TF.push (cap := cap7) (g := g7) HF2.out hp (by rw [hlc.out]; exact own7) g7' hDc.out; rw [hlc.out] at HT; replace HT := hide HT; clear own7 g7' loc7))
        go_loopw [5, 7] (fun s5 s7 wr => ∃ j : Nat, s7 = .int .i64 j ∧ j ≤ 1 ∧ TF w p (dg (5 * h)) (0 : Nat) ((dg (h / 2)).map cv ++ [.int .u8 46] ++ tl5 j) wr s5) (fun _ i _ => 10 - (RowKit.intOf i).toNat)
        case atStart => exact ⟨0, rfl, Nat.zero_le _, by rw [tl5, List.append_nil]; exact HT.out⟩
        case round =>
          obtain ⟨j, rfl, hj, H2⟩ := hrel
          obtain ⟨A2, c2, q20, q21⟩ := H2.dec.c0
          by_cases hj1 : j = 1
          · subst hj1
            have hlen2 : ((dg (h / 2)).map cv ++ [Value.int .u8 46] ++ tl5 1).length = 1 + 2 := by
              have := hlc2
              simp [tl5]; omega
            have hown2 := H2.own
            rw [hlen2] at hown2
            obtain ⟨g9, c9, hs9⟩ := Go.Joins.ownsRow_form hown2 (by omega)
            subst hs9
            have hcv : (convert 119 9 (.slice (some ⟨g9, 0, none⟩) (1 + 2) c9)).run Tryz.prog wr = .ok (.string (txt (dg (h / 2)) ++ ⟨#[46, 53]⟩)) wr := by
              rw [text_ints] at hown2
              rw [own_text hown2, text_str]
            have hbel := H2.bel
            replace H2 := hide H2
            replace hown2 := hide hown2
            go_wp2
            go_ret
            exact ⟨by rw [h20]; rfl, hbel⟩
          · obtain rfl : j = 0 := by omega
            have d5 : dAt (dg (5 * h)) 0 = 5 := by rw [← hL.out]; exact last_five ho
            have dx := digit_any _ p 0 _ _ H2.dec (by omega)
            rw [d5] at dx
            replace dx := hide dx
            have hlen2 : ((dg (h / 2)).map cv ++ [Value.int .u8 46] ++ tl5 0).length = 1 + 1 := by
              have := hlc2
              simp [tl5]; omega
            have hown2 := H2.own
            rw [hlen2] at hown2
            replace hown2 := hide hown2
            have hbs4 := H2.bel.size
            replace H2 := hide H2
            replace hlen2 := hide hlen2
            go_wp2_with (first
              | (go_at_call 205; refine dx.out.mono ?_; rintro e W2 ⟨rfl, rfl⟩)
              | (refine wpList_push _ rfl (.tmp 39) (.tmp 49) rfl w.heap.size _ (1 + 1) _ (.int .u8 53) rfl hown2.out rfl rfl (by omega) hbs4 ?_; intro g8 cap8 W8 own8 gr8 loc8; have H8 := TF.push (cap := cap8) (g := g8) H2.out hp (by rw [hlen2.out]; exact own8) gr8 hDc.out; rw [hlen2.out] at H8; replace H8 := hide H8; clear own8 gr8 loc8))
            go_roundw
            case rel => exact ⟨1, rfl, Nat.le_refl _, by rw [← text_more]; exact H8.out⟩
            case measure => simp [RowKit.intOf]
      · obtain ⟨g5, c5, hs5⟩ := Go.Joins.ownsRow_form hown (by omega)
        subst hs5
        have hi20 : i ≤ 20 := by have := hL.out; omega
        have hq0 : ¬ h / 2 = 0 := by
          intro e
          have e2 := first_part ho
          rw [if_pos e, hL.out] at e2
          have := congrArg List.length e2
          simp at this
          rcases this with e3 | e3
          · exact hi0 e3
          · exact dg_ne _ e3
        have hmap : ((dg (5 * h)).take i).map cv = (dg (h / 2)).map cv := by
          have e2 := first_part ho
          rw [if_neg hq0, hL.out] at e2
          rw [e2]
        have hlc : ((dg (h / 2)).map cv).length = i := by rw [← hmap]; exact hin
        have hlc2 : (dg (h / 2)).length = i := by simpa using hlc
        rw [hmap] at H hown
        have HF := hide H
        have hO := hide hown
        have hbs2 := H.bel.size
        replace hlc := hide hlc
        replace hmap := hide hmap
        clear H hown
        go_wp2_with (refine wpList_push _ rfl (.tmp 31) (.tmp 32) rfl w.heap.size _ i ((dg (h / 2)).map cv) (.int .u8 46) rfl hO.out rfl rfl (by omega) hbs2 ?_; intro g7 cap7 W7 own7 g7' loc7; have HT := TF.push (cap := cap7) (g := g7) HF.out hp (by rw [hlc.out]; exact own7) g7' hDc.out; rw [hlc.out] at HT; replace HT := hide HT; clear own7 g7' loc7)
        go_loopw [5, 7] (fun s5 s7 wr => ∃ j : Nat, s7 = .int .i64 j ∧ j ≤ 1 ∧ TF w p (dg (5 * h)) (i : Nat) ((dg (h / 2)).map cv ++ [.int .u8 46] ++ tl5 j) wr s5) (fun _ i _ => 10 - (RowKit.intOf i).toNat)
        case atStart => exact ⟨0, rfl, Nat.zero_le _, by rw [tl5, List.append_nil]; exact HT.out⟩
        case round =>
          obtain ⟨j, rfl, hj, H2⟩ := hrel
          obtain ⟨A2, c2, q20, q21⟩ := H2.dec.c0
          by_cases hj1 : j = 1
          · subst hj1
            have hlen2 : ((dg (h / 2)).map cv ++ [Value.int .u8 46] ++ tl5 1).length = i + 2 := by
              have := hlc2
              simp [tl5]; omega
            have hown2 := H2.own
            rw [hlen2] at hown2
            obtain ⟨g9, c9, hs9⟩ := Go.Joins.ownsRow_form hown2 (by omega)
            subst hs9
            have hcv : (convert 119 9 (.slice (some ⟨g9, 0, none⟩) (i + 2) c9)).run Tryz.prog wr = .ok (.string (txt (dg (h / 2)) ++ ⟨#[46, 53]⟩)) wr := by
              rw [text_ints] at hown2
              rw [own_text hown2, text_str]
            have hbel := H2.bel
            replace H2 := hide H2
            replace hown2 := hide hown2
            go_wp2
            go_ret
            exact ⟨rfl, hbel⟩
          · obtain rfl : j = 0 := by omega
            have d5 : dAt (dg (5 * h)) i = 5 := by rw [← hL.out]; exact last_five ho
            have dx := digit_any _ p i _ _ H2.dec (by omega)
            rw [d5] at dx
            replace dx := hide dx
            have hlen2 : ((dg (h / 2)).map cv ++ [Value.int .u8 46] ++ tl5 0).length = i + 1 := by
              have := hlc2
              simp [tl5]; omega
            have hown2 := H2.own
            rw [hlen2] at hown2
            replace hown2 := hide hown2
            have hbs3 := H2.bel.size
            replace H2 := hide H2
            replace hlen2 := hide hlen2
            go_wp2_with (first
              | (go_at_call 205; refine dx.out.mono ?_; rintro e W2 ⟨rfl, rfl⟩)
              | (refine wpList_push _ rfl (.tmp 39) (.tmp 49) rfl w.heap.size _ (i + 1) _ (.int .u8 53) rfl hown2.out rfl rfl (by omega) hbs3 ?_; intro g8 cap8 W8 own8 gr8 loc8; have H8 := TF.push (cap := cap8) (g := g8) H2.out hp (by rw [hlen2.out]; exact own8) gr8 hDc.out; rw [hlen2.out] at H8; replace H8 := hide H8; clear own8 gr8 loc8))
            go_roundw
            case rel => exact ⟨1, rfl, Nat.le_refl _, by rw [← text_more]; exact H8.out⟩
            case measure => simp [RowKit.intOf]
end Go.Proofs.YtbnbemacljjimaaGreatDoor

namespace Go.Proofs.YtbnbemacljjimaaGreatDoor
open Go.RowKit Go.Lib
set_option linter.unusedVariables false

theorem fbits_run (w : World) (x : Nat) : (callFunc 116 #[.float .f64 x]).run Tryz.prog w = .ok (.value (.int .u64 x)) w := by
  rw [run_callFunc_extern Tryz.func116 (by kernel_rfl) (by kernel_rfl) (by kernel_rfl) (e := Extern.MathFloatBits.float64bits) (by kernel_rfl)]
  rfl

/-- A half's bits: sign, exponent, fraction. -/
theorem half_parts {h : Int} (hs : Sml h) : ∃ f : Nat, f < 4503599627370496 ∧ sigOf h.natAbs = 4503599627370496 + f ∧ upOf h.natAbs ≤ 52 ∧ halfBits h = (if h < 0 then 9223372036854775808 else 0) + ((1074 - upOf h.natAbs) * 4503599627370496 + f) := by
  have hb := sigOf_bounds hs.pos.1 hs.pos.2
  have hu : upOf h.natAbs ≤ 52 := by unfold upOf; omega
  refine ⟨sigOf h.natAbs - 4503599627370496, by omega, by omega, hu, ?_⟩
  rw [halfBits_eq hs]
  unfold sgnw Ieee.Format.word
  rw [d_sw]
  by_cases hn : h < 0
  · simp only [hn, decide_true, if_true]
    omega
  · simp only [hn, decide_false, if_false]
    simp
    omega

theorem sig_twice {m : Nat} : sigOf m * 2 = m * 2 ^ (upOf m + 1) := by
  unfold sigOf upOf
  rw [Nat.pow_succ, Nat.mul_assoc]

/-- A half as FormatFloat prints it. -/
def ftxt (h : Int) : ByteArray := (if h < 0 then ⟨#[45]⟩ else ⟨#[]⟩) ++ (txt (dg (h.natAbs / 2)) ++ ⟨#[46, 53]⟩)

theorem bits_and_i64_nat (a b : Nat) (ha : a < 9223372036854775808) (hb : b < 9223372036854775808) : bits .and .i64 (a : Int) (b : Int) = ((a &&& b : Nat) : Int) := by
  have hx : a &&& b < 2 ^ 63 := Nat.and_lt_two_pow _ (by omega)
  have h1 : (BitVec.ofInt 64 (a : Int)).toNat = a := by
    rw [BitVec.ofInt_natCast, BitVec.toNat_ofNat]; exact Nat.mod_eq_of_lt (by omega)
  have h2 : (BitVec.ofInt 64 (b : Int)).toNat = b := by
    rw [BitVec.ofInt_natCast, BitVec.toNat_ofNat]; exact Nat.mod_eq_of_lt (by omega)
  show IntKind.i64.wrap ((BitVec.ofInt 64 (a : Int) &&& BitVec.ofInt 64 (b : Int)).toNat : Int) = _
  rw [BitVec.toNat_and, h1, h2, IntKind.wrap_i64]
  omega

/-- What FormatFloat reads off the bits. -/
theorem parts_at {X s E f : Nat} (hs : s ≤ 1) (hE : E ≤ 1074) (hf : f < 4503599627370496) (hX : X = s * 9223372036854775808 + (E * 4503599627370496 + f)) :
    bits BinOp.and IntKind.i64 (wrap64 (((X : Nat) : Int) / 4503599627370496)) 2047 = (E : Nat) ∧ bits BinOp.and IntKind.u64 ((X : Nat) : Int) 4503599627370495 = (f : Nat) ∧ (((X : Nat) : Int) / 9223372036854775808 = (s : Nat)) ∧
      bits BinOp.or IntKind.u64 ((f : Nat) : Int) 4503599627370496 = ((4503599627370496 + f : Nat) : Int) := by
  have e1 : wrap64 (((X : Nat) : Int) / 4503599627370496) = ((X / 4503599627370496 : Nat) : Int) := by unfold wrap64; omega
  have e2 : X / 4503599627370496 < 2 ^ 12 := by omega
  refine ⟨?_, ?_, by omega, ?_⟩
  · rw [e1, show (2047 : Int) = ((2047 : Nat) : Int) from rfl, bits_and_i64_nat _ _ (by omega) (by omega), show (2047 : Nat) = 2 ^ 11 - 1 from rfl, Nat.and_two_pow_sub_one_eq_mod]
    omega
  · rw [show (4503599627370495 : Int) = ((4503599627370495 : Nat) : Int) from rfl, bits_and_u64_nat _ _ (by omega) (by omega), show (4503599627370495 : Nat) = 2 ^ 52 - 1 from rfl, Nat.and_two_pow_sub_one_eq_mod]
    omega
  · rw [show (4503599627370496 : Int) = ((4503599627370496 : Nat) : Int) from rfl, bits_or_u64_nat _ _ (by omega) (by omega)]
    have h2 := Nat.two_pow_add_eq_or_of_lt (i := 52) (b := f) (by omega) 1
    rw [Nat.or_comm]
    rw [Nat.mul_one] at h2
    exact congrArg Int.ofNat h2.symm

theorem says_half {es : List Nat} {dq n m k : Nat} (h : Nm es dq n (2 ^ k)) (hm : n * 2 = m * 2 ^ k) (ho : m % 2 = 1) : es = dg (5 * m) ∧ dq = (dg (5 * m)).length - 1 := by
  obtain ⟨h1, -, h3, h4⟩ := half_form ho
  have hk : 0 < 2 ^ k := Nat.pow_pos (by decide)
  have hs : Says es dq m 2 := by
    have e := h.says
    unfold Says at e ⊢
    have e2 : (val es * 10 ^ dq * 2) * 2 ^ k = (m * 10 ^ es.length) * 2 ^ k := by
      calc (val es * 10 ^ dq * 2) * 2 ^ k = (val es * 10 ^ dq * 2 ^ k) * 2 := by ac_rfl
        _ = (n * 10 ^ es.length) * 2 := by rw [e]
        _ = (n * 2) * 10 ^ es.length := by ac_rfl
        _ = (m * 2 ^ k) * 10 ^ es.length := by rw [hm]
        _ = (m * 10 ^ es.length) * 2 ^ k := by ac_rfl
    exact Nat.eq_of_mul_eq_mul_right hk e2
  exact says_one hs h1 h.dig (dg_dig _) h.ne (dg_ne _) h.fst h3 h.lst h4 (by decide)

set_option maxHeartbeats 4000000 in
set_option maxRecDepth 100000 in
theorem formatFloat_any (w : World) (h : Int) (hs : Sml h) (ho : ¬ h.tmod 2 = 0) :
    Calls Tryz.prog 144 #[.float .f64 (halfBits h), .int .u8 102, .int .i64 (-1), .int .i64 64] w fun e w' => e = .returned (.string (ftxt h)) ∧ Below w.heap.size w w' := by
  have hbr := fbits_run
  obtain ⟨f, hf1, hf2, hu, hX⟩ := half_parts hs
  obtain ⟨X, hXe⟩ : ∃ X, halfBits h = X := ⟨_, rfl⟩
  rw [hXe] at hX ⊢
  have hpos := hs.pos
  have hs2 := @sig_twice h.natAbs
  have hft : ftxt h = (if h < 0 then ⟨#[45]⟩ else ⟨#[]⟩) ++ (txt (dg (h.natAbs / 2)) ++ ⟨#[46, 53]⟩) := rfl
  have hom : h.natAbs % 2 = 1 := by
    have : h.natAbs % 2 = 0 ∨ h.natAbs % 2 = 1 := by omega
    rcases this with h0 | h0
    · exact absurd (by rw [show h = 2 * (h / 2) by omega]; exact Int.mul_tmod_right 2 _) ho
    · exact h0
  obtain ⟨m, hm⟩ : ∃ m, h.natAbs = m := ⟨_, rfl⟩
  obtain ⟨n, hn0⟩ : ∃ n, 4503599627370496 + f = n := ⟨_, rfl⟩
  rw [hm] at hf2 hu hX hs2 hom hpos hft
  rw [hf2, hn0] at hs2
  obtain ⟨k, hk⟩ : ∃ k, upOf m + 1 = k := ⟨_, rfl⟩
  rw [hk] at hs2
  obtain ⟨E, hE⟩ : ∃ E, 1074 - upOf m = E := ⟨_, rfl⟩
  rw [hE] at hX
  have hE1 : 1022 ≤ E := by omega
  have hE2 : E ≤ 1074 := by omega
  have hk1 : 1 ≤ k := by omega
  have hk2 : k ≤ 53 := by omega
  have hEk : E + k = 1075 := by omega
  have hn1 : 4503599627370496 ≤ n := by omega
  have hn2 : n < 9007199254740992 := by omega
  replace hXe := hide hXe
  replace hf2 := hide hf2
  replace hE := hide hE
  replace hk := hide hk
  replace hbr := hide hbr
  replace hs2 := hide hs2
  replace hom := hide hom
  replace hm := hide hm
  have hd := fun W => newDecimal_any n (by omega) (by omega) W
  have hsh : ∀ (W : World) (p : Nat) (ds : List Nat) (dp : Nat), Dc W p ds (dp : Nat) → Nm ds dp n 1 → ds.length ≤ dp → dp ≤ 100 →
      Calls Tryz.prog 167 #[.pointer (some ⟨p, 0, none⟩), .int .i64 ((E : Int) + -1023 - 52)] W fun e w' => e = .returned (.tuple #[]) ∧ W.grownBy w' (some p) ∧ Dc w' p (dg (5 * m)) (((dg (5 * m)).length - 1 : Nat) : Int) := fun W p ds dp h1 h2 h3 h4 => by
    have hc := shift_any W p k ds dp n h1 h2 h3 h4 (Nat.le_trans (Nat.pow_le_pow_right (by decide) hk2) (by omega)) (by omega)
    rw [show (-((k : Nat) : Int)) = (E : Int) + -1023 - 52 by omega] at hc
    refine hc.mono ?_
    rintro e w' ⟨rfl, hg, es, dq, h5, h6, h7, h8⟩
    obtain ⟨rfl, rfl⟩ := says_half h8 hs2.out hom.out
    exact ⟨rfl, hg, h7⟩
  have hsr : ∀ (W : World) (p : Nat), Dc W p (dg (5 * m)) (((dg (5 * m)).length - 1 : Nat) : Int) →
      Calls Tryz.prog 168 #[.pointer (some ⟨p, 0, none⟩), .int .u64 (n : Nat), .int .i64 ((E : Int) + -1023), .agg #[.int .i64 52, .int .i64 11, .int .i64 (-1023)]] W fun e w' => e = .returned (.pointer (some ⟨p, 0, none⟩)) ∧ Below W.heap.size W w' := fun W p h1 => by
    have hc := short_any W p m n k h1 hom.out hk1 hk2 hs2.out hn1 hn2
    rw [show (52 - (k : Int)) = (E : Int) + -1023 by omega] at hc
    exact hc
  have hln : (dg n).length ≤ 20 := dg_le 19 n (by omega)
  have hlm : (dg (5 * m)).length ≤ 20 := dg_le 19 (5 * m) (by omega)
  have hne := dg_ne (5 * m)
  have hl1 : 1 ≤ (dg (5 * m)).length := by
    rcases Nat.eq_zero_or_pos (dg (5 * m)).length with h0 | h0
    · exact absurd (List.eq_nil_of_length_eq_zero h0) hne
    · exact h0
  obtain ⟨L, hL⟩ : ∃ L, (dg (5 * m)).length = L := ⟨_, rfl⟩
  have htx : ∀ (W : World) (p : Nat), Dc W p (dg (5 * m)) (((dg (5 * m)).length - 1 : Nat) : Int) → Calls Tryz.prog 171 #[.pointer (some ⟨p, 0, none⟩), .int .i64 1] W fun e w' => e = .returned (.string (txt (dg (m / 2)) ++ ⟨#[46, 53]⟩)) ∧ Below W.heap.size W w' := fun W p h1 => text_any W p m h1 hom.out hlm
  replace hd := hide hd
  replace hsh := hide hsh
  replace hsr := hide hsr
  replace htx := hide htx
  have hL1 : Hid (1 ≤ L ∧ L ≤ 20) := hide ⟨by rw [← hL]; exact hl1, by rw [← hL]; exact hlm⟩
  replace hL := hide hL
  by_cases hn : h < 0
  all_goals
    first
    | (rw [if_pos hn] at hX hft
       obtain ⟨q1, q2, q3, q4⟩ := parts_at (s := 1) (by decide) hE2 hf1 (by omega)
       have q5 : (((X : Nat) : Int) / 9223372036854775808 != 0) = true := by rw [q3]; rfl)
    | (rw [if_neg hn] at hX hft
       obtain ⟨q1, q2, q3, q4⟩ := parts_at (s := 0) (by decide) hE2 hf1 (by omega)
       have q5 : (((X : Nat) : Int) / 9223372036854775808 != 0) = false := by rw [q3]; rfl)
    rw [hn0] at q4
    replace hX := hide hX
    replace q3 := hide q3
    replace hn0 := hide hn0
    replace hft := hide hft
    have hbr' := hbr.out
    go_enter Tryz.func144, Tryz.ntmps144
    go_wp2_with (go_at_call 164; refine (formOf_any _).mono ?_; rintro e w1 ⟨rfl, hb1⟩)
    clear hbr'
    have k0 := Blk.new w1 226 #[.int .i64 52, .int .i64 11, .int .i64 (-1023)]
    have b0 := hb1.alloc hb1.size (.cells #[.int .i64 52, .int .i64 11, .int .i64 (-1023)] 226)
    go_quiet (fail)
    go_upto_region 29 with (fail)
    clear q1 q2 q4 q5
    obtain ⟨W0, hW0⟩ : ∃ W, W = (w1.alloc (.cells #[.int .i64 52, .int .i64 11, .int .i64 (-1023)] 226)).drewN nq := ⟨_, rfl⟩
    rw [← hW0]
    have kW := k0.drewN nq
    have bW := below_drewN b0 nq
    rw [← hW0] at kW bW
    have hz1 := hb1.size
    clear hW0 k0 b0 hb1
    have hlk := kW.lt
    replace kW := hide kW
    replace bW := hide bW
    go_upto_region 30 with (go_at_call 166; refine (hd.out W0).mono ?_; rintro e w2 ⟨p, rfl, hp, hb2, hd2⟩; have k2 := hide (kW.out.below hb2 hlk); have b2 := hide (bW.out.trans (hb2.mono bW.out.size)); have hc := hide (hsh.out w2 p _ _ hd2 (nm_new (by omega)) (trim_len _) (by omega)); have hpl := hd2.lt; obtain ⟨cs2, kp2⟩ := hd2.blk; replace kp2 := hide kp2; clear hb2 hd2)
    have c20 := k2.out.cell 0
    simp at c20
    go_upto_region 31 with (go_at_call 167; refine hc.out.mono ?_; rintro e w3 ⟨rfl, hg3, hd3⟩; have k3 := hide (k2.out.grown hg3 (by intro e; injection e with e; omega)))
    have hpw : w.heap.size ≤ p := by omega
    have b3 := hide (b2.out.grown hg3 b2.out.size (fun k hk => by injection hk with hk; rw [← hk]; exact hpw))
    clear hg3
    have c30 := k3.out.cell 0
    have c31 := k3.out.cell 1
    have c32 := k3.out.cell 2
    simp at c30 c31 c32
    have hc3 := hide (hsr.out w3 p hd3)
    replace hd3 := hide hd3
    go_upto_region 34 with (go_at_call 168; refine hc3.out.mono ?_; rintro e w4 ⟨rfl, hb4⟩; have b4 := hide (b3.out.trans (hb4.mono b3.out.size)); have hd4 := hd3.out.below hb4; clear hb4)
    obtain ⟨A4, c4, x40, x41⟩ := hd4.c0
    have hL' := hL.out
    rw [hL'] at x40 x41
    replace hL' := hide hL'
    have e1 : (((L - 1 : Nat) : Int)) = (L : Int) - 1 := by have := hL1.out; omega
    rw [e1] at x41
    have e2 : (L : Int) - ((L : Int) - 1) = 1 := by omega
    have e3 : IntKind.i64.wrap ((L : Int) - ((L : Int) - 1)) = 1 := by rw [e2]; decide
    replace hd4 := hide hd4
    replace e1 := hide e1
    replace hL' := hide hL'
    go_wp2_with fail
    go_quiet (fail)
    obtain ⟨W5, hW5⟩ : ∃ W5, W5 = w4.drewN nq := ⟨_, rfl⟩
    rw [← hW5]
    have hc5 := hide (htx.out W5 p (by rw [hW5]; exact hd4.out.drewN nq))
    have b5 := hide (below_drewN b4.out nq)
    rw [← hW5] at b5
    clear hW5 x40 x41
    have z1 : ¬ 9223372036854775807 < 1 + ((txt (dg (m / 2))).size + 2) := by rw [txt_size]; have := dg_le 19 (m / 2) (by omega); omega
    have z2 : ¬ 9223372036854775807 < (txt (dg (m / 2))).size + 2 := by rw [txt_size]; have := dg_le 19 (m / 2) (by omega); omega
    go_wp2_with (go_at_call 171; refine hc5.out.mono ?_; rintro e w6 ⟨rfl, hb6⟩; have b6 := hide (b5.out.trans (hb6.mono b5.out.size)); clear hb6)
    go_ret
    refine ⟨?_, b6.out⟩
    rw [hft.out]
    first | rfl | skip
end Go.Proofs.YtbnbemacljjimaaGreatDoor
