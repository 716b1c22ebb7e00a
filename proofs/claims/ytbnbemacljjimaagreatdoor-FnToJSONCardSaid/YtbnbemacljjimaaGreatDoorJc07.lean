/- Decimal digits, in plain words: what a row of digits says, what is alike, what is greater. No program. -/
import Derived.Test.YtbnbemacljjimaaGreatDoorJc00
namespace Go.Proofs.YtbnbemacljjimaaGreatDoor
set_option linter.unusedVariables false
set_option linter.unusedSimpArgs false

/-- The number that digits say. -/
def val : List Nat → Nat
  | [] => 0
  | d :: r => d * 10 ^ r.length + val r

def Dig (ds : List Nat) : Prop := ∀ d ∈ ds, d < 10

theorem val_append : ∀ (a b : List Nat), val (a ++ b) = val a * 10 ^ b.length + val b
  | [], b => by simp [val]
  | d :: r, b => by
    have := val_append r b
    simp only [List.cons_append, val, List.length_append, this, Nat.pow_add, Nat.add_mul, Nat.mul_assoc, Nat.add_assoc]

theorem val_snoc (a : List Nat) (d : Nat) : val (a ++ [d]) = val a * 10 + d := by
  rw [val_append]
  simp [val]

theorem val_lt : ∀ ds : List Nat, Dig ds → val ds < 10 ^ ds.length
  | [], _ => by simp [val]
  | d :: r, h => by
    have h1 := val_lt r (fun x hx => h x (List.mem_cons_of_mem _ hx))
    have h2 := h d List.mem_cons_self
    simp only [val, List.length_cons, Nat.pow_succ]
    have : d * 10 ^ r.length ≤ 9 * 10 ^ r.length := Nat.mul_le_mul_right _ (by omega)
    omega

theorem val_zeros (a : List Nat) : ∀ n : Nat, val (a ++ List.replicate n 0) = val a * 10 ^ n
  | 0 => by simp
  | n + 1 => by
    rw [List.replicate_succ', ← List.append_assoc, val_snoc, val_zeros a n, Nat.pow_succ]
    simp [Nat.mul_assoc]

/-- Digits of one length that say the same number. -/
theorem val_inj : ∀ (a b : List Nat), a.length = b.length → Dig a → Dig b → val a = val b → a = b
  | [], [], _, _, _, _ => rfl
  | [], _ :: _, h, _, _, _ => by simp at h
  | _ :: _, [], h, _, _, _ => by simp at h
  | d :: r, e :: s, h, ha, hb, hv => by
    have hl : r.length = s.length := by simpa using h
    have h1 := val_lt r (fun x hx => ha x (List.mem_cons_of_mem _ hx))
    have h2 := val_lt s (fun x hx => hb x (List.mem_cons_of_mem _ hx))
    simp only [val, hl] at hv
    rw [hl] at h1
    have hde : d = e := by
      rcases Nat.lt_trichotomy d e with h3 | h3 | h3
      · have : (d + 1) * 10 ^ s.length ≤ e * 10 ^ s.length := Nat.mul_le_mul_right _ h3
        rw [Nat.add_mul] at this
        omega
      · exact h3
      · have : (e + 1) * 10 ^ s.length ≤ d * 10 ^ s.length := Nat.mul_le_mul_right _ h3
        rw [Nat.add_mul] at this
        omega
    subst hde
    rw [val_inj r s hl (fun x hx => ha x (List.mem_cons_of_mem _ hx)) (fun x hx => hb x (List.mem_cons_of_mem _ hx)) (by omega)]

/-- The first digit is not 0. -/
def Fst (ds : List Nat) : Prop := ∀ d, ds.head? = some d → d ≠ 0
/-- The last digit is not 0. -/
def Lst0 (ds : List Nat) : Prop := ∀ d, ds.getLast? = some d → d ≠ 0

theorem val_ge (ds : List Nat) (hn : ds ≠ []) (hf : Fst ds) : 10 ^ ds.length ≤ val ds * 10 := by
  cases ds with
  | nil => exact absurd rfl hn
  | cons d r =>
    have hd : d ≠ 0 := hf d rfl
    simp only [val, List.length_cons, Nat.pow_succ]
    have : 1 * 10 ^ r.length ≤ d * 10 ^ r.length := Nat.mul_le_mul_right _ (by omega)
    omega

/-- Digits with dp of them ahead of the point say N / M. -/
def Says (ds : List Nat) (dp N M : Nat) : Prop := val ds * 10 ^ dp * M = N * 10 ^ ds.length

theorem pow_lt_inj {a b : Nat} (h : (10 : Nat) ^ a < 10 ^ b) : a < b := (Nat.pow_lt_pow_iff_right (by decide)).1 h

/-- Where the point stands. -/
theorem says_dp {ds es : List Nat} {dp dq N M N' M' : Nat} (h1 : Says ds dp N M) (h2 : Says es dq N' M') (d1 : Dig ds) (d2 : Dig es) (n1 : ds ≠ []) (n2 : es ≠ []) (f1 : Fst ds) (f2 : Fst es) (hM : 0 < M) (hM' : 0 < M') (hle : N' * M ≤ N * M') : dq ≤ dp := by
  unfold Says at h1 h2
  have a1 := val_lt ds d1
  have a2 := val_ge es n2 f2
  by_cases hlt : dp < dq
  · exfalso
    -- N / M < 10^dp, N' / M' >= 10^(dq-1) >= 10^dp
    have b1 : N * 10 ^ ds.length < 10 ^ ds.length * 10 ^ dp * M := by
      rw [← h1]
      exact Nat.mul_lt_mul_of_pos_right (Nat.mul_lt_mul_of_pos_right a1 (Nat.pow_pos (by decide))) hM
    have c1 : N < 10 ^ dp * M := by
      have : N * 10 ^ ds.length < 10 ^ dp * M * 10 ^ ds.length := by
        calc N * 10 ^ ds.length < 10 ^ ds.length * 10 ^ dp * M := b1
          _ = 10 ^ dp * M * 10 ^ ds.length := by rw [Nat.mul_assoc, Nat.mul_comm]
      exact Nat.lt_of_mul_lt_mul_right this
    have b2 : 10 ^ es.length * (10 ^ dq * M') ≤ N' * 10 * 10 ^ es.length := by
      calc 10 ^ es.length * (10 ^ dq * M') ≤ val es * 10 * (10 ^ dq * M') := Nat.mul_le_mul_right _ a2
        _ = val es * 10 ^ dq * M' * 10 := by simp only [Nat.mul_assoc, Nat.mul_comm, Nat.mul_left_comm]
        _ = N' * 10 ^ es.length * 10 := by rw [h2]
        _ = N' * 10 * 10 ^ es.length := by simp only [Nat.mul_assoc, Nat.mul_comm, Nat.mul_left_comm]
    have c2 : 10 ^ dq * M' ≤ N' * 10 := by
      have : (10 ^ dq * M') * 10 ^ es.length ≤ (N' * 10) * 10 ^ es.length := by rw [Nat.mul_comm]; exact b2
      exact Nat.le_of_mul_le_mul_right this (Nat.pow_pos (by decide))
    have c3 : 10 ^ (dp + 1) ≤ 10 ^ dq := Nat.pow_le_pow_right (by decide) hlt
    rw [Nat.pow_succ] at c3
    -- combine: 10^dp*10*M'*M <= 10^dq*M'*M <= N'*10*M <= N*M'*10 < 10^dp*M*M'*10
    have e1 : 10 ^ dp * 10 * (M' * M) ≤ N' * 10 * M := by
      calc 10 ^ dp * 10 * (M' * M) ≤ 10 ^ dq * (M' * M) := Nat.mul_le_mul_right _ c3
        _ = 10 ^ dq * M' * M := by rw [Nat.mul_assoc]
        _ ≤ N' * 10 * M := Nat.mul_le_mul_right _ c2
    have e2 : N' * 10 * M ≤ N * M' * 10 := by
      calc N' * 10 * M = N' * M * 10 := by simp only [Nat.mul_assoc, Nat.mul_comm, Nat.mul_left_comm]
        _ ≤ N * M' * 10 := Nat.mul_le_mul_right _ hle
    have e3 : N * M' * 10 < 10 ^ dp * M * M' * 10 := Nat.mul_lt_mul_of_pos_right (Nat.mul_lt_mul_of_pos_right c1 hM') (by decide)
    have e4 : 10 ^ dp * M * M' * 10 = 10 ^ dp * 10 * (M' * M) := by simp only [Nat.mul_assoc, Nat.mul_comm, Nat.mul_left_comm]
    omega
  · omega

/-- Digits that say one number, without 0s at their ends, are one. -/
theorem says_one {ds es : List Nat} {dp dq N M : Nat} (h1 : Says ds dp N M) (h2 : Says es dq N M) (d1 : Dig ds) (d2 : Dig es) (n1 : ds ≠ []) (n2 : es ≠ []) (f1 : Fst ds) (f2 : Fst es) (l1 : Lst0 ds) (l2 : Lst0 es) (hM : 0 < M) : ds = es ∧ dp = dq := by
  have hdp : dp = dq := Nat.le_antisymm (says_dp h2 h1 d2 d1 n2 n1 f2 f1 hM hM (Nat.le_refl _)) (says_dp h1 h2 d1 d2 n1 n2 f1 f2 hM hM (Nat.le_refl _))
  subst hdp
  refine ⟨?_, rfl⟩
  have hv : val ds * 10 ^ es.length = val es * 10 ^ ds.length := by
    unfold Says at h1 h2
    have e1 : val ds * 10 ^ es.length * (10 ^ dp * M) = val es * 10 ^ ds.length * (10 ^ dp * M) := by
      calc val ds * 10 ^ es.length * (10 ^ dp * M) = val ds * 10 ^ dp * M * 10 ^ es.length := by simp only [Nat.mul_assoc, Nat.mul_comm, Nat.mul_left_comm]
        _ = N * 10 ^ ds.length * 10 ^ es.length := by rw [h1]
        _ = N * 10 ^ es.length * 10 ^ ds.length := by simp only [Nat.mul_assoc, Nat.mul_comm, Nat.mul_left_comm]
        _ = val es * 10 ^ dp * M * 10 ^ ds.length := by rw [h2]
        _ = val es * 10 ^ ds.length * (10 ^ dp * M) := by simp only [Nat.mul_assoc, Nat.mul_comm, Nat.mul_left_comm]
    exact Nat.eq_of_mul_eq_mul_right (Nat.mul_pos (Nat.pow_pos (by decide)) hM) e1
  have key : ∀ (a b : List Nat), a.length < b.length → b ≠ [] → Dig b → Lst0 b → val a * 10 ^ b.length = val b * 10 ^ a.length → False := by
    intro a b hlt hb db lb hv
    obtain ⟨c, x, rfl⟩ : ∃ c x, b = c ++ [x] := ⟨b.dropLast, b.getLast hb, (List.dropLast_concat_getLast hb).symm⟩
    have hx : x ≠ 0 := lb x (by simp)
    have hx10 : x < 10 := db x (by simp)
    rw [val_snoc] at hv
    obtain ⟨t, ht⟩ : ∃ t, (c ++ [x]).length = a.length + 1 + t := ⟨(c ++ [x]).length - a.length - 1, by omega⟩
    rw [ht, show a.length + 1 + t = a.length + (t + 1) by omega, Nat.pow_add, Nat.pow_succ] at hv
    have : val a * (10 ^ t * 10) * 10 ^ a.length = (val c * 10 + x) * 10 ^ a.length := by
      calc val a * (10 ^ t * 10) * 10 ^ a.length = val a * (10 ^ a.length * (10 ^ t * 10)) := by simp only [Nat.mul_assoc, Nat.mul_comm, Nat.mul_left_comm]
        _ = (val c * 10 + x) * 10 ^ a.length := hv
    have h3 := Nat.eq_of_mul_eq_mul_right (Nat.pow_pos (by decide)) this
    have h4 : val a * (10 ^ t * 10) = val a * 10 ^ t * 10 := by rw [Nat.mul_assoc]
    omega
  have hl : ds.length = es.length := by
    rcases Nat.lt_trichotomy ds.length es.length with h | h | h
    · exact (key ds es h n2 d2 l2 hv).elim
    · exact h
    · exact (key es ds h n1 d1 l1 hv.symm).elim
  rw [hl] at hv
  exact val_inj ds es hl d1 d2 (Nat.eq_of_mul_eq_mul_right (Nat.pow_pos (by decide)) hv)

/-- The digits of a number. -/
def dg (n : Nat) : List Nat := if n < 10 then [n] else dg (n / 10) ++ [n % 10]
termination_by n

theorem dg_small {n : Nat} (h : n < 10) : dg n = [n] := by rw [dg, if_pos h]
theorem dg_big {n : Nat} (h : ¬ n < 10) : dg n = dg (n / 10) ++ [n % 10] := by rw [dg, if_neg h]

theorem dg_all (n : Nat) : val (dg n) = n ∧ Dig (dg n) ∧ dg n ≠ [] ∧ (0 < n → Fst (dg n)) := by
  induction n using Nat.strongRecOn with
  | ind n ih =>
    by_cases h : n < 10
    · rw [dg_small h]
      refine ⟨by simp [val], fun d hd => by simp at hd; omega, by simp, fun hn d hd => by simp at hd; omega⟩
    · obtain ⟨h1, h2, h3, h4⟩ := ih (n / 10) (by omega)
      rw [dg_big h]
      refine ⟨by rw [val_snoc, h1]; omega, fun d hd => ?_, by simp, fun hn d hd => ?_⟩
      · rcases List.mem_append.1 hd with hd | hd
        · exact h2 d hd
        · simp at hd; omega
      · refine h4 (by omega) d ?_
        cases e : dg (n / 10) with
        | nil => exact absurd e h3
        | cons x r => rw [e] at hd; simpa using hd
theorem val_dg (n : Nat) : val (dg n) = n := (dg_all n).1
theorem dg_dig (n : Nat) : Dig (dg n) := (dg_all n).2.1
theorem dg_ne (n : Nat) : dg n ≠ [] := (dg_all n).2.2.1
theorem dg_fst {n : Nat} (h : 0 < n) : Fst (dg n) := (dg_all n).2.2.2 h

theorem dg_le : ∀ (k n : Nat), n < 10 ^ (k + 1) → (dg n).length ≤ k + 1
  | 0, n, h => by rw [dg_small (by simpa using h)]; simp
  | k + 1, n, h => by
    by_cases h2 : n < 10
    · rw [dg_small h2]; simp
    · rw [dg_big h2]
      have := dg_le k (n / 10) (by rw [Nat.pow_succ] at h; omega)
      simp
      omega

/-- Without the 0s at its end. -/
def trimD (ds : List Nat) : List Nat := if ds.getLast? = some 0 then trimD ds.dropLast else ds
termination_by ds.length
decreasing_by
  rename_i h
  cases ds with
  | nil => simp at h
  | cons a r => simp

theorem trimD_eq (ds : List Nat) : trimD ds = if ds.getLast? = some 0 then trimD ds.dropLast else ds := by rw [trimD]

theorem trim_all (ds : List Nat) : (∃ n, ds = trimD ds ++ List.replicate n 0) ∧ Lst0 (trimD ds) := by
  generalize hl : ds.length = l
  induction l using Nat.strongRecOn generalizing ds with
  | ind l ih =>
    rw [trimD_eq]
    by_cases h : ds.getLast? = some 0
    · rw [if_pos h]
      have hn : ds ≠ [] := by intro e; rw [e] at h; simp at h
      obtain ⟨⟨n, h1⟩, h2⟩ := ih (ds.length - 1) (by have := List.length_pos_iff.2 hn; omega) ds.dropLast (by simp)
      refine ⟨⟨n + 1, ?_⟩, h2⟩
      have h3 := List.dropLast_concat_getLast hn
      rw [List.getLast?_eq_some_getLast hn] at h
      have h4 : ds.getLast hn = 0 := by simpa using h
      rw [h4] at h3
      rw [List.replicate_succ', ← List.append_assoc, ← h1, h3]
    · rw [if_neg h]
      exact ⟨⟨0, by simp⟩, fun d hd e => h (by rw [hd, e])⟩

theorem trim_says {ds : List Nat} {dp N M : Nat} (h : Says ds dp N M) : Says (trimD ds) dp N M := by
  obtain ⟨n, h1⟩ := (trim_all ds).1
  unfold Says at *
  have hv : val ds = val (trimD ds) * 10 ^ n := by
    rw [show val ds = val (trimD ds ++ List.replicate n 0) by rw [← h1]]
    exact val_zeros _ n
  have hlen : ds.length = (trimD ds).length + n := by
    have := congrArg List.length h1
    simpa using this
  rw [hlen, hv, Nat.pow_add] at h
  have : val (trimD ds) * 10 ^ dp * M * 10 ^ n = N * 10 ^ (trimD ds).length * 10 ^ n := by
    calc val (trimD ds) * 10 ^ dp * M * 10 ^ n = val (trimD ds) * 10 ^ n * 10 ^ dp * M := by simp only [Nat.mul_assoc, Nat.mul_comm, Nat.mul_left_comm]
      _ = N * (10 ^ (trimD ds).length * 10 ^ n) := h
      _ = N * 10 ^ (trimD ds).length * 10 ^ n := by rw [Nat.mul_assoc]
  exact Nat.eq_of_mul_eq_mul_right (Nat.pow_pos (by decide)) this

theorem trim_dig {ds : List Nat} (h : Dig ds) : Dig (trimD ds) := by
  obtain ⟨n, h1⟩ := (trim_all ds).1
  intro d hd
  exact h d (by rw [h1]; exact List.mem_append_left _ hd)

theorem trim_fst {ds : List Nat} (h : Fst ds) (hn : ds ≠ []) : trimD ds ≠ [] ∧ Fst (trimD ds) := by
  obtain ⟨n, h1⟩ := (trim_all ds).1
  have hne : trimD ds ≠ [] := by
    intro e
    rw [e] at h1
    cases n with
    | zero => exact hn (by simpa using h1)
    | succ n =>
      have := h 0 (by rw [h1]; rfl)
      exact this rfl
  refine ⟨hne, fun d hd => h d ?_⟩
  rw [h1]
  cases e : trimD ds with
  | nil => exact absurd e hne
  | cons x r => rw [e] at hd; simpa using hd

/-- One decimal against another, as cmp does it. -/
def dAt (ds : List Nat) (i : Nat) : Nat := ds.getD i 0

theorem cmp_gt {ds es : List Nat} {dp N M N' M' : Nat} (h1 : Says ds dp N M) (h2 : Says es dp N' M') (d1 : Dig ds) (d2 : Dig es) (hM : 0 < M) (hM' : 0 < M') (hgt : N' * M < N * M') (i : Nat) (hi : ∀ j, j < i → dAt ds j = dAt es j) : dAt es i ≤ dAt ds i ∧ (ds.length ≤ i → es.length ≤ i → False) := by
  -- pad both to one length
  obtain ⟨L, hL⟩ : ∃ L, L = max ds.length (max es.length (i + 1)) := ⟨_, rfl⟩
  have hp : ∀ l : List Nat, l.length ≤ L → ∃ p : List Nat, p.length = L ∧ val p = val l * 10 ^ (L - l.length) ∧ (Dig l → Dig p) ∧ ∀ j, p.getD j 0 = dAt l j := fun l hl => by
    refine ⟨l ++ List.replicate (L - l.length) 0, by simp; omega, val_zeros l _, fun h d hd => ?_, fun j => ?_⟩
    · rcases List.mem_append.1 hd with hd | hd
      · exact h d hd
      · rw [(List.mem_replicate.1 hd).2]; decide
    · unfold dAt
      rcases Nat.lt_or_ge j l.length with h | h
      · rw [List.getD_eq_getElem?_getD, List.getElem?_append_left h, ← List.getD_eq_getElem?_getD]
      · rw [List.getD_eq_getElem?_getD, List.getElem?_append_right h, List.getElem?_replicate]
        rw [List.getD_eq_getElem?_getD, List.getElem?_eq_none h]
        split <;> rfl
  obtain ⟨p, lp, vp, dp1, gp⟩ := hp ds (by omega)
  obtain ⟨q, lq, vq, dq1, gq⟩ := hp es (by omega)
  have hdp := dp1 d1
  have hdq := dq1 d2
  -- the padded number is greater
  have hv : val q < val p := by
    unfold Says at h1 h2
    have e1 : val p * 10 ^ dp * M = N * 10 ^ L := by
      rw [vp]
      calc val ds * 10 ^ (L - ds.length) * 10 ^ dp * M = val ds * 10 ^ dp * M * 10 ^ (L - ds.length) := by simp only [Nat.mul_assoc, Nat.mul_comm, Nat.mul_left_comm]
        _ = N * 10 ^ ds.length * 10 ^ (L - ds.length) := by rw [h1]
        _ = N * 10 ^ L := by rw [Nat.mul_assoc, ← Nat.pow_add, show ds.length + (L - ds.length) = L by omega]
    have e2 : val q * 10 ^ dp * M' = N' * 10 ^ L := by
      rw [vq]
      calc val es * 10 ^ (L - es.length) * 10 ^ dp * M' = val es * 10 ^ dp * M' * 10 ^ (L - es.length) := by simp only [Nat.mul_assoc, Nat.mul_comm, Nat.mul_left_comm]
        _ = N' * 10 ^ es.length * 10 ^ (L - es.length) := by rw [h2]
        _ = N' * 10 ^ L := by rw [Nat.mul_assoc, ← Nat.pow_add, show es.length + (L - es.length) = L by omega]
    have e3 : val q * (10 ^ dp * M' * M) < val p * (10 ^ dp * M' * M) := by
      calc val q * (10 ^ dp * M' * M) = val q * 10 ^ dp * M' * M := by simp only [Nat.mul_assoc]
        _ = N' * 10 ^ L * M := by rw [e2]
        _ = N' * M * 10 ^ L := by simp only [Nat.mul_assoc, Nat.mul_comm, Nat.mul_left_comm]
        _ < N * M' * 10 ^ L := Nat.mul_lt_mul_of_pos_right hgt (Nat.pow_pos (by decide))
        _ = N * 10 ^ L * M' := by simp only [Nat.mul_assoc, Nat.mul_comm, Nat.mul_left_comm]
        _ = val p * 10 ^ dp * M * M' := by rw [e1]
        _ = val p * (10 ^ dp * M' * M) := by simp only [Nat.mul_assoc, Nat.mul_comm, Nat.mul_left_comm]
    exact Nat.lt_of_mul_lt_mul_right e3
  have hpq : p.take i = q.take i := by
    apply List.ext_getElem (by simp [lp, lq])
    intro j h3 h4
    rw [List.length_take] at h3 h4
    have := hi j (by omega)
    rw [← gp, ← gq] at this
    rw [List.getElem_take, List.getElem_take]
    have a1 : p.getD j 0 = p[j]'(by omega) := by rw [List.getD_eq_getElem?_getD, List.getElem?_eq_getElem (by omega)]; rfl
    have a2 : q.getD j 0 = q[j]'(by omega) := by rw [List.getD_eq_getElem?_getD, List.getElem?_eq_getElem (by omega)]; rfl
    rw [a1, a2] at this
    exact this
  have sp : p = p.take i ++ p.drop i := (List.take_append_drop i p).symm
  have sq : q = q.take i ++ q.drop i := (List.take_append_drop i q).symm
  have hd : val (q.drop i) < val (p.drop i) := by
    rw [sp, sq, val_append, val_append, hpq] at hv
    have : (p.drop i).length = (q.drop i).length := by simp [lp, lq]
    rw [this] at hv
    omega
  obtain ⟨a, r, ea⟩ : ∃ a r, p.drop i = a :: r := by
    cases e : p.drop i with
    | nil => have := congrArg List.length e; simp at this; omega
    | cons a r => exact ⟨a, r, rfl⟩
  obtain ⟨b, s, eb⟩ : ∃ b s, q.drop i = b :: s := by
    cases e : q.drop i with
    | nil => have := congrArg List.length e; simp at this; omega
    | cons b s => exact ⟨b, s, rfl⟩
  have ga : dAt ds i = a := by
    rw [← gp, List.getD_eq_getElem?_getD, show p[i]? = (p.drop i)[0]? by rw [List.getElem?_drop]; rfl, ea]
    rfl
  have gb : dAt es i = b := by
    rw [← gq, List.getD_eq_getElem?_getD, show q[i]? = (q.drop i)[0]? by rw [List.getElem?_drop]; rfl, eb]
    rfl
  have lr : r.length = s.length := by
    have h3 := congrArg List.length ea
    have h4 := congrArg List.length eb
    simp at h3 h4
    omega
  have hdr : Dig s := fun d hd => hdq d (List.mem_of_mem_drop (by rw [eb]; exact List.mem_cons_of_mem _ hd))
  have hds : Dig r := fun d hd => hdp d (List.mem_of_mem_drop (by rw [ea]; exact List.mem_cons_of_mem _ hd))
  rw [ea, eb] at hd
  simp only [val, lr] at hd
  have v1 := val_lt r hds
  have v2 := val_lt s hdr
  rw [lr] at v1
  constructor
  · rw [ga, gb]
    rcases Nat.lt_or_ge a b with h | h
    · exfalso
      have : (a + 1) * 10 ^ s.length ≤ b * 10 ^ s.length := Nat.mul_le_mul_right _ h
      rw [Nat.add_mul] at this
      omega
    · exact h
  · intro h3 h4
    have z : ∀ l : List Nat, l.length ≤ i → ∀ (u : List Nat), (∀ j, u.getD j 0 = dAt l j) → val (u.drop i) = 0 := fun l hl u hu => by
      have hz : ∀ x ∈ u.drop i, x = 0 := fun x hx => by
        obtain ⟨j, hj, rfl⟩ := List.getElem_of_mem hx
        have := hu (i + j)
        unfold dAt at this
        rw [List.getD_eq_getElem?_getD, List.getD_eq_getElem?_getD, List.getElem?_eq_none (show l.length ≤ i + j by omega)] at this
        rw [List.getElem_drop]
        rw [List.length_drop] at hj
        rw [List.getElem?_eq_getElem (by omega)] at this
        exact this
      have : ∀ m : List Nat, (∀ x ∈ m, x = 0) → val m = 0 := by
        intro m hm
        induction m with
        | nil => rfl
        | cons x m ih =>
          simp only [val]
          rw [hm x List.mem_cons_self, ih (fun y hy => hm y (List.mem_cons_of_mem _ hy))]
          simp
      exact this _ hz
    have z1 := z ds h3 p gp
    have z2 := z es h4 q gq
    rw [ea] at z1
    rw [eb] at z2
    simp only [val, lr] at z1 z2
    omega
end Go.Proofs.YtbnbemacljjimaaGreatDoor

namespace Go.Proofs.YtbnbemacljjimaaGreatDoor
set_option linter.unusedVariables false
set_option linter.unusedSimpArgs false

/-- The number that the first i digits say, 0s behind the last. -/
def pv (ds : List Nat) : Nat → Nat
  | 0 => 0
  | i + 1 => pv ds i * 10 + dAt ds i

theorem pv_take : ∀ (ds : List Nat) (i : Nat), i ≤ ds.length → pv ds i = val (ds.take i)
  | ds, 0, _ => by simp [pv, val]
  | ds, i + 1, h => by
    rw [pv, pv_take ds i (by omega), List.take_add_one, List.getElem?_eq_getElem (by omega)]
    rw [Option.toList_some, val_snoc]
    unfold dAt
    rw [List.getD_eq_getElem?_getD, List.getElem?_eq_getElem (by omega)]
    rfl
theorem pv_len (ds : List Nat) : pv ds ds.length = val ds := by rw [pv_take ds _ (Nat.le_refl _), List.take_length]
theorem pv_past (ds : List Nat) : ∀ t : Nat, pv ds (ds.length + t) = val ds * 10 ^ t
  | 0 => by simp [pv_len]
  | t + 1 => by
    rw [← Nat.add_assoc, pv, pv_past ds t, Nat.pow_succ]
    unfold dAt
    rw [List.getD_eq_getElem?_getD, List.getElem?_eq_none (by omega)]
    simp [Nat.mul_assoc]
theorem dAt_lt {ds : List Nat} (h : Dig ds) (i : Nat) : dAt ds i < 10 := by
  unfold dAt
  rw [List.getD_eq_getElem?_getD]
  cases e : ds[i]? with
  | none => simp
  | some d => exact h d (List.mem_of_getElem? e)
theorem pv_ge {ds : List Nat} (hn : ds ≠ []) (hf : Fst ds) : ∀ i : Nat, 10 ^ i ≤ pv ds (i + 1)
  | 0 => by
    cases ds with
    | nil => exact absurd rfl hn
    | cons d r =>
      have : d ≠ 0 := hf d rfl
      simp [pv, dAt]
      omega
  | i + 1 => by
    have := pv_ge hn hf i
    rw [pv, Nat.pow_succ]
    omega

/-- Phase one: so many digits make the first one of the answer. -/
def Ph1 (ds : List Nat) (k i : Nat) : Prop := ∀ j, j < i → pv ds j < 2 ^ k
/-- Phase two: what was laid, and what is left of the dividend. -/
structure Ph2 (ds : List Nat) (k i0 i n : Nat) (o : List Nat) : Prop where
  len : i = i0 + o.length
  pv : pv ds i = val o * (10 * 2 ^ k) + n
  lt : n < 10 * 2 ^ k
  dig : Dig o
  fst : ∀ d, o.head? = some d → d ≠ 0
  ge : o = [] → 2 ^ k ≤ n
  bound : i ≤ max i0 (ds.length + (k + 1))

theorem ph2_start {ds : List Nat} {k i : Nat} (hd : Dig ds) (h1 : Ph1 ds k i) (h2 : 2 ^ k ≤ pv ds i) : Ph2 ds k i i (pv ds i) [] := by
  refine ⟨by simp, by simp [val], ?_, fun d hd => by simp at hd, fun d hd => by simp at hd, fun _ => h2, Nat.le_max_left _ _⟩
  cases i with
  | zero => have := Nat.pow_pos (n := k) (show 0 < 2 by decide); simp [Go.Proofs.YtbnbemacljjimaaGreatDoor.pv] at h2
  | succ i =>
    have a1 := h1 i (by omega)
    have a2 := dAt_lt hd i
    rw [Go.Proofs.YtbnbemacljjimaaGreatDoor.pv]
    omega

theorem two_five (t : Nat) : (10 : Nat) ^ t = 2 ^ t * 5 ^ t := by rw [← Nat.mul_pow]

/-- A round: there is a digit left, or some of the dividend. -/
theorem ph2_next {ds : List Nat} {k i0 i n : Nat} {o : List Nat} (hd : Dig ds) (h : Ph2 ds k i0 i n o) (hgo : i < ds.length ∨ 0 < n) : Ph2 ds k i0 (i + 1) (n % 2 ^ k * 10 + dAt ds i) (o ++ [n / 2 ^ k]) ∧ n / 2 ^ k < 10 := by
  have hp : 0 < 2 ^ k := Nat.pow_pos (by decide)
  have hq : n / 2 ^ k < 10 := Nat.div_lt_of_lt_mul (by rw [Nat.mul_comm]; exact h.lt)
  have hr := Nat.mod_lt n hp
  have hdm := Nat.div_add_mod n (2 ^ k)
  have hda := dAt_lt hd i
  refine ⟨⟨by simp [h.len]; omega, ?_, by omega, fun d hd2 => ?_, fun d hd2 => ?_, fun e => by simp at e, ?_⟩, hq⟩
  · rw [Go.Proofs.YtbnbemacljjimaaGreatDoor.pv, h.pv, val_snoc]
    have e1 : (val o * 10 + n / 2 ^ k) * (10 * 2 ^ k) = val o * (10 * 2 ^ k) * 10 + 2 ^ k * (n / 2 ^ k) * 10 := by
      rw [Nat.add_mul]
      congr 1
      · simp only [Nat.mul_assoc, Nat.mul_comm, Nat.mul_left_comm]
      · simp only [Nat.mul_assoc, Nat.mul_comm, Nat.mul_left_comm]
    rw [e1]
    generalize val o * (10 * 2 ^ k) = A at *
    generalize 2 ^ k * (n / 2 ^ k) = Bq at *
    omega
  · rcases List.mem_append.1 hd2 with hd2 | hd2
    · exact h.dig d hd2
    · simp at hd2; omega
  · cases o with
    | nil =>
      simp at hd2
      subst hd2
      have := h.ge rfl
      have := Nat.div_pos this hp
      omega
    | cons x r => exact h.fst d (by simpa using hd2)
  · -- where all digits are used up, the dividend goes out after k + 1 more
    by_cases hi : i < ds.length
    · omega
    rcases hgo with hg | hg
    · exact absurd hg hi
    by_cases hb : i < ds.length + (k + 1)
    · omega
    exfalso
    obtain ⟨t, ht⟩ : ∃ t, i = ds.length + (k + 1) + t := ⟨i - (ds.length + (k + 1)), by omega⟩
    have hpv := h.pv
    rw [show i = ds.length + (k + 1 + t) by omega, pv_past] at hpv
    -- 10 * 2^k divides the left side
    have hdvd : 10 * 2 ^ k ∣ val ds * 10 ^ (k + 1 + t) := by
      refine Nat.dvd_mul_left_of_dvd ?_ _
      rw [show k + 1 + t = 1 + (k + t) by omega, Nat.pow_add, Nat.pow_one, Nat.pow_add, two_five k, Nat.mul_assoc]
      exact Nat.mul_dvd_mul_left _ (Nat.dvd_mul_right _ _)
    have : 10 * 2 ^ k ∣ n := by
      have h2 := (Nat.dvd_add_right (Nat.dvd_mul_left (10 * 2 ^ k) (val o))).1 (by rw [← hpv]; exact hdvd)
      exact h2
    have := Nat.le_of_dvd hg this
    have := h.lt
    omega

/-- What comes of a decimal divided by a power of two. -/
theorem half_says {ds : List Nat} {dp N M k i0 i : Nat} {o : List Nat} (hs : Says ds dp N M) (h : Ph2 ds k i0 i 0 o) (hi : ds.length ≤ i) (h0 : 1 ≤ i0) (hdp : i0 ≤ dp + 1) :
    Says o (dp + 1 - i0) N (M * 2 ^ k) ∧ o ≠ [] ∧ Fst o ∧ Dig o := by
  have hp : 0 < 2 ^ k := Nat.pow_pos (by decide)
  have hne : o ≠ [] := fun e => by have := h.ge e; omega
  refine ⟨?_, hne, h.fst, h.dig⟩
  have hpv := h.pv
  obtain ⟨t, ht⟩ : ∃ t, i = ds.length + t := ⟨i - ds.length, by omega⟩
  rw [ht, pv_past, Nat.add_zero] at hpv
  have hlen := h.len
  unfold Says at hs ⊢
  obtain ⟨q, hq⟩ : ∃ q, dp + 1 = q + i0 := ⟨dp + 1 - i0, by omega⟩
  rw [show dp + 1 - i0 = q by omega]
  -- multiply by 10 * 10^i0 * 10^len ds
  have key : val o * 10 ^ q * (M * 2 ^ k) * (10 ^ i0 * 10 ^ ds.length * 10) = N * 10 ^ o.length * (10 ^ i0 * 10 ^ ds.length * 10) := by
    calc val o * 10 ^ q * (M * 2 ^ k) * (10 ^ i0 * 10 ^ ds.length * 10) = (val o * (10 * 2 ^ k)) * (10 ^ q * 10 ^ i0) * M * 10 ^ ds.length := by simp only [Nat.mul_assoc, Nat.mul_comm, Nat.mul_left_comm]
      _ = (val ds * 10 ^ t) * 10 ^ (dp + 1) * M * 10 ^ ds.length := by rw [← hpv, ← Nat.pow_add, ← hq]
      _ = (val ds * 10 ^ dp * M) * (10 ^ (ds.length + t) * 10) := by rw [Nat.pow_succ, Nat.pow_add]; simp only [Nat.mul_assoc, Nat.mul_comm, Nat.mul_left_comm]
      _ = (N * 10 ^ ds.length) * (10 ^ i * 10) := by rw [hs, ← ht]
      _ = N * 10 ^ o.length * (10 ^ i0 * 10 ^ ds.length * 10) := by rw [hlen, Nat.pow_add]; simp only [Nat.mul_assoc, Nat.mul_comm, Nat.mul_left_comm]
  exact Nat.eq_of_mul_eq_mul_right (Nat.mul_pos (Nat.mul_pos (Nat.pow_pos (by decide)) (Nat.pow_pos (by decide))) (by decide)) key

/-- Phase one ends in time. -/
theorem ph1_bound {ds : List Nat} {dp N k i : Nat} (hn : ds ≠ []) (hf : Fst ds) (hd : Dig ds) (hs : Says ds dp N 1) (hl : ds.length ≤ dp) (hN : 2 ^ k ≤ 10 * N) (h : Ph1 ds k (i + 1)) : i ≤ dp := by
  have hmono : ∀ a b, a ≤ b → pv ds a ≤ pv ds b := by
    intro a b hab
    induction b with
    | zero => have : a = 0 := by omega
              subst this; exact Nat.le_refl _
    | succ b ih =>
      by_cases e : a = b + 1
      · subst e; exact Nat.le_refl _
      · have := ih (by omega)
        rw [pv]
        omega
  by_cases hlt : dp < i
  · exfalso
    have h1 := h (dp + 1) (by omega)
    have e1 : pv ds dp = N := by
      obtain ⟨t, ht⟩ : ∃ t, dp = ds.length + t := ⟨dp - ds.length, by omega⟩
      rw [ht, pv_past]
      unfold Says at hs
      rw [ht, Nat.pow_add, Nat.mul_one] at hs
      have : val ds * 10 ^ t * 10 ^ ds.length = N * 10 ^ ds.length := by rw [← hs]; simp only [Nat.mul_assoc, Nat.mul_comm, Nat.mul_left_comm]
      exact Nat.eq_of_mul_eq_mul_right (Nat.pow_pos (by decide)) this
    rw [pv, e1] at h1
    omega
  · omega

/-- The number whose decimal is that of a half: so many digits, and a 5. -/
theorem half_form {h : Nat} (ho : h % 2 = 1) : Says (dg (5 * h)) ((dg (5 * h)).length - 1) h 2 ∧ dg (5 * h) = (if h / 2 = 0 then [] else dg (h / 2)) ++ [5] ∧ Fst (dg (5 * h)) ∧ Lst0 (dg (5 * h)) := by
  have h5 : 5 * h = 10 * (h / 2) + 5 := by omega
  have e : dg (5 * h) = (if h / 2 = 0 then [] else dg (h / 2)) ++ [5] := by
    by_cases hz : h / 2 = 0
    · rw [if_pos hz]
      have : 5 * h = 5 := by omega
      rw [this, dg_small (by decide)]
      rfl
    · rw [if_neg hz, dg_big (by omega), show 5 * h / 10 = h / 2 by omega, show 5 * h % 10 = 5 by omega]
  refine ⟨?_, e, dg_fst (by omega), ?_⟩
  · unfold Says
    rw [val_dg]
    have hl : 0 < (dg (5 * h)).length := List.length_pos_iff.2 (dg_ne _)
    obtain ⟨l, hl'⟩ : ∃ l, (dg (5 * h)).length = l + 1 := ⟨(dg (5 * h)).length - 1, by omega⟩
    rw [hl', Nat.add_sub_cancel, Nat.pow_succ]
    have e1 : 5 * h * 10 ^ l * 2 = h * (10 ^ l * (5 * 2)) := by simp only [Nat.mul_assoc, Nat.mul_comm, Nat.mul_left_comm]
    rw [e1]
  · intro d hd
    rw [e] at hd
    simp at hd
    omega

/-- The whole part. -/
theorem whole_part {h : Nat} (ho : h % 2 = 1) : val ((dg (5 * h)).take ((dg (5 * h)).length - 1)) = h / 2 := by
  have e := (half_form ho).2.1
  rw [e]
  simp
  split
  · rename_i hz; have e0 : h / 2 = 0 := by omega
    rw [e0]; rfl
  · exact val_dg _

theorem val_take_le (ds : List Nat) (hd : Dig ds) (n l : Nat) (hn : n ≤ l) (hl : l ≤ ds.length) : val (ds.take n) * 10 ^ (l - n) ≤ val (ds.take l) ∧ val (ds.take l) < (val (ds.take n) + 1) * 10 ^ (l - n) := by
  have e : ds.take l = ds.take n ++ (ds.take l).drop n := by
    have := List.take_append_drop n (ds.take l)
    rw [List.take_take, Nat.min_eq_left hn] at this
    exact this.symm
  have hlen : ((ds.take l).drop n).length = l - n := by simp; omega
  have hlt := val_lt ((ds.take l).drop n) (fun d hd2 => hd d (List.mem_of_mem_take (List.mem_of_mem_drop hd2)))
  rw [hlen] at hlt
  have hv : val (ds.take l) = val (ds.take n) * 10 ^ (l - n) + val ((ds.take l).drop n) := by
    rw [show val (ds.take l) = val (ds.take n ++ (ds.take l).drop n) by rw [← e], val_append, hlen]
  constructor
  · omega
  · rw [Nat.add_mul]
    omega

/-- A whole number by its first digits. -/
theorem take_says (ds : List Nat) (dp n : Nat) (hn : n ≤ ds.length) (hdp : n ≤ dp) : Says (ds.take n) dp (val (ds.take n) * 10 ^ (dp - n)) 1 := by
  unfold Says
  rw [List.length_take, Nat.min_eq_left hn, Nat.mul_one, Nat.mul_assoc, ← Nat.pow_add, show dp - n + n = dp by omega]

/-- One more in the last of n digits. -/
def upD : List Nat → Nat → Option (List Nat)
  | ds, 0 => none
  | ds, i + 1 => if dAt ds i < 9 then some (ds.take i ++ [dAt ds i + 1]) else upD ds i

theorem upD_says {ds : List Nat} (hd : Dig ds) (hne : ds ≠ []) (hf : Fst ds) : ∀ (n : Nat), n ≤ ds.length → (∀ us, upD ds n = some us → us.length ≤ n ∧ us ≠ [] ∧ Dig us ∧ Fst us ∧ val us * 10 ^ (n - us.length) = val (ds.take n) + 1) ∧ (upD ds n = none → val (ds.take n) + 1 = 10 ^ n)
  | 0, _ => ⟨fun us h => by simp [upD] at h, fun _ => by simp [val]⟩
  | i + 1, hn => by
    have hda := dAt_lt hd i
    have ht : val (ds.take (i + 1)) = val (ds.take i) * 10 + dAt ds i := by
      rw [← pv_take ds (i + 1) hn, pv, pv_take ds i (by omega)]
    obtain ⟨h1, h2⟩ := upD_says hd hne hf i (by omega)
    unfold upD
    by_cases h9 : dAt ds i < 9
    · rw [if_pos h9]
      refine ⟨fun us hu => ?_, fun hu => by simp at hu⟩
      simp only [Option.some.injEq] at hu
      subst hu
      have hl : (ds.take i ++ [dAt ds i + 1]).length = i + 1 := by simp; omega
      refine ⟨by omega, by simp, fun d hd2 => ?_, fun d hd2 => ?_, ?_⟩
      · rcases List.mem_append.1 hd2 with hd2 | hd2
        · exact hd d (List.mem_of_mem_take hd2)
        · simp at hd2; omega
      · cases i with
        | zero => simp at hd2; omega
        | succ i =>
          cases ds with
          | nil => exact absurd rfl hne
          | cons x r => exact hf d (by simpa using hd2)
      · rw [hl, Nat.sub_self, val_snoc, ht]
        omega
    · rw [if_neg h9]
      have h9' : dAt ds i = 9 := by omega
      refine ⟨fun us hu => ?_, fun hu => ?_⟩
      · obtain ⟨a1, a2, a3, a4, a5⟩ := h1 us hu
        refine ⟨by omega, a2, a3, a4, ?_⟩
        rw [show i + 1 - us.length = (i - us.length) + 1 by omega, Nat.pow_succ, ← Nat.mul_assoc, a5, ht, h9']
        omega
      · have := h2 hu
        rw [ht, h9', Nat.pow_succ]
        omega
end Go.Proofs.YtbnbemacljjimaaGreatDoor
