/- Rows of texts and of values, as lists of cells. -/
import Derived.Test.YtbnbemacljjimaaGreatDoorJc04
import Derived.Test.YtbnbemacljjimaaGreatDoorJc03
import Derived.Test.YtbnbemacljjimaaGreatDoorJc15
import Derived.Test.YtbnbemacljjimaaGreatDoorJc13
namespace Go.Proofs.YtbnbemacljjimaaGreatDoor
open Go.RowKit
set_option linter.unusedVariables false

/-- A value's six cells. -/
abbrev Sx := Value × Value × Value × Value × Value × Value
def aggS : Sx → Value | (a, b, c, d, e, f) => .agg #[a, b, c, d, e, f]
def fl : List Sx → List Value
  | [] => []
  | (a, b, c, d, e, f) :: r => a :: b :: c :: d :: e :: f :: fl r

theorem fl_append : ∀ (a b : List Sx), fl (a ++ b) = fl a ++ fl b
  | [], b => rfl
  | (c0, c1, c2, c3, c4, c5) :: r, b => by simp [fl, fl_append r b]
theorem fl_length : ∀ a : List Sx, (fl a).length = a.length * 6
  | [] => rfl
  | (c0, c1, c2, c3, c4, c5) :: r => by simp only [fl, List.length_cons, fl_length r]; omega
theorem fl_take : ∀ (a : List Sx) (k : Nat), (fl a).take (k * 6) = fl (a.take k)
  | [], k => by simp [fl]
  | x :: r, 0 => by simp [fl]
  | (c0, c1, c2, c3, c4, c5) :: r, k + 1 => by
    rw [show (k + 1) * 6 = k * 6 + 1 + 1 + 1 + 1 + 1 + 1 by omega]
    simp only [fl, List.take_succ_cons, fl_take r k]
theorem fl_drop : ∀ (a : List Sx) (k : Nat), (fl a).drop (k * 6) = fl (a.drop k)
  | [], k => by simp [fl]
  | x :: r, 0 => by simp
  | (c0, c1, c2, c3, c4, c5) :: r, k + 1 => by
    rw [show (k + 1) * 6 = k * 6 + 1 + 1 + 1 + 1 + 1 + 1 by omega]
    simp only [fl, List.drop_succ_cons, fl_drop r k]
theorem fl_get : ∀ (a : List Sx) (i : Nat) (c0 c1 c2 c3 c4 c5 : Value), a[i]? = some (c0, c1, c2, c3, c4, c5) →
    (fl a)[i * 6]? = some c0 ∧ (fl a)[i * 6 + 1]? = some c1 ∧ (fl a)[i * 6 + 2]? = some c2 ∧ (fl a)[i * 6 + 3]? = some c3 ∧ (fl a)[i * 6 + 4]? = some c4 ∧ (fl a)[i * 6 + 5]? = some c5
  | [], i, _, _, _, _, _, _, h => by simp at h
  | x :: r, 0, c0, c1, c2, c3, c4, c5, h => by
    simp at h
    subst h
    exact ⟨rfl, rfl, rfl, rfl, rfl, rfl⟩
  | (d0, d1, d2, d3, d4, d5) :: r, i + 1, c0, c1, c2, c3, c4, c5, h => by
    obtain ⟨h0, h1, h2, h3, h4, h5⟩ := fl_get r i c0 c1 c2 c3 c4 c5 (by simpa using h)
    have e : ∀ j, (fl ((d0, d1, d2, d3, d4, d5) :: r))[(i + 1) * 6 + j]? = (fl r)[i * 6 + j]? := fun j => by
      rw [show (i + 1) * 6 + j = i * 6 + j + 1 + 1 + 1 + 1 + 1 + 1 by omega]
      simp [fl]
    exact ⟨(e 0).trans h0, (e 1).trans h1, (e 2).trans h2, (e 3).trans h3, (e 4).trans h4, (e 5).trans h5⟩

/-- Rows of six cells that are values. -/
def SxR (R : Value → JV → Prop) (rs : List Sx) (ys : List JV) : Prop := rs.length = ys.length ∧ ∀ (i : Nat) y, ys[i]? = some y → ∃ r, rs[i]? = some r ∧ R (aggS r) y

section
variable {R R' : Value → JV → Prop}
theorem SxR.mono {rs : List Sx} {ys : List JV} (h : SxR R rs ys) (hR : ∀ x y, R x y → R' x y) : SxR R' rs ys := ⟨h.1, fun i y hy => by
  obtain ⟨r, h1, h2⟩ := h.2 i y hy
  exact ⟨r, h1, hR _ _ h2⟩⟩
theorem SxR.append {rs qs : List Sx} {ys zs : List JV} (h : SxR R rs ys) (h2 : SxR R qs zs) : SxR R (rs ++ qs) (ys ++ zs) := by
  refine ⟨by simp [h.1, h2.1], fun i y hy => ?_⟩
  rcases Nat.lt_or_ge i ys.length with hi | hi
  · rw [List.getElem?_append_left hi] at hy
    rw [List.getElem?_append_left (by rw [h.1]; exact hi)]
    exact h.2 i y hy
  · rw [List.getElem?_append_right hi] at hy
    rw [List.getElem?_append_right (by rw [h.1]; exact hi), h.1]
    exact h2.2 _ y hy
theorem SxR.take {rs : List Sx} {ys : List JV} (h : SxR R rs ys) (k : Nat) : SxR R (rs.take k) (ys.take k) := by
  refine ⟨by simp [h.1], fun i y hy => ?_⟩
  rw [List.getElem?_take] at hy ⊢
  split at hy
  · rename_i hi
    rw [if_pos hi]
    exact h.2 i y hy
  · cases hy
theorem SxR.drop {rs : List Sx} {ys : List JV} (h : SxR R rs ys) (k : Nat) : SxR R (rs.drop k) (ys.drop k) := by
  refine ⟨by simp [h.1], fun i y hy => ?_⟩
  rw [List.getElem?_drop] at hy ⊢
  exact h.2 _ y hy
theorem SxR.one {r : Sx} {y : JV} (h : R (aggS r) y) : SxR R [r] [y] := by
  refine ⟨rfl, fun i z hz => ?_⟩
  rcases i with _ | i
  · simp at hz
    subst hz
    exact ⟨r, rfl, h⟩
  · simp at hz

theorem mem_fl : ∀ (a : List Sx) (z : Value), z ∈ fl a → ∃ (i : Nat) (c0 c1 c2 c3 c4 c5 : Value), a[i]? = some (c0, c1, c2, c3, c4, c5) ∧ (z = c0 ∨ z = c1 ∨ z = c2 ∨ z = c3 ∨ z = c4 ∨ z = c5)
  | [], z, h => by simp [fl] at h
  | (d0, d1, d2, d3, d4, d5) :: r, z, h => by
    simp only [fl, List.mem_cons] at h
    rcases h with h | h | h | h | h | h | h
    · exact ⟨0, d0, d1, d2, d3, d4, d5, rfl, Or.inl h⟩
    · exact ⟨0, d0, d1, d2, d3, d4, d5, rfl, Or.inr (Or.inl h)⟩
    · exact ⟨0, d0, d1, d2, d3, d4, d5, rfl, Or.inr (Or.inr (Or.inl h))⟩
    · exact ⟨0, d0, d1, d2, d3, d4, d5, rfl, Or.inr (Or.inr (Or.inr (Or.inl h)))⟩
    · exact ⟨0, d0, d1, d2, d3, d4, d5, rfl, Or.inr (Or.inr (Or.inr (Or.inr (Or.inl h))))⟩
    · exact ⟨0, d0, d1, d2, d3, d4, d5, rfl, Or.inr (Or.inr (Or.inr (Or.inr (Or.inr h))))⟩
    · obtain ⟨i, c0, c1, c2, c3, c4, c5, h1, h2⟩ := mem_fl r z h
      exact ⟨i + 1, c0, c1, c2, c3, c4, c5, by simpa using h1, h2⟩

theorem fl_one {n : Nat} {rs : List Sx} {ys : List JV} (h : ∀ (i : Nat) y, ys[i]? = some y → ∃ r, rs[i]? = some r ∧ ∃ w B, JAt w B (n + 1) (aggS r) y) (hl : rs.length = ys.length) : ∀ z ∈ fl rs, z.oneCell' = true := by
  intro z hz
  obtain ⟨i, c0, c1, c2, c3, c4, c5, hi, hor⟩ := mem_fl rs z hz
  have hil := (List.getElem?_eq_some_iff.1 hi).1
  obtain ⟨y, hy⟩ : ∃ y, ys[i]? = some y := ⟨_, List.getElem?_eq_getElem (by omega)⟩
  obtain ⟨r, hr, w, B, hj⟩ := h i y hy
  rw [hi] at hr
  cases hr
  obtain ⟨la, lc, ka, kc, va, vc, e, -⟩ := hj
  simp [aggS] at e
  obtain ⟨rfl, rfl, rfl, rfl, rfl, rfl⟩ := e
  rcases hor with rfl | rfl | rfl | rfl | rfl | rfl <;> rfl

/-- A row of values is such a list, which can be read. -/
theorem VecAt.list {w : World} {B : Nat} {A : Option Addr} {ys : List JV} (h : VecAt R w B A ys) : ∃ rs, SxR R rs ys ∧ Reads w B 6 A ys.length (fl rs) := by
  rcases Nat.eq_zero_or_pos ys.length with h0 | h0
  · have : ys = [] := List.eq_nil_of_length_eq_zero h0
    subst this
    exact ⟨[], ⟨rfl, fun i y hy => by simp at hy⟩, rfl, fun h => absurd h (by simp)⟩
  · obtain ⟨b, o, rfl, hb, hc⟩ := h h0
    have : ∀ n, n ≤ ys.length → ∃ rs : List Sx, rs.length = n ∧ (∀ (i : Nat) y, i < n → ys[i]? = some y → ∃ r, rs[i]? = some r ∧ R (aggS r) y) ∧ ∀ j u, (fl rs)[j]? = some u → w.cell? ⟨b, o + j, none⟩ = some u := by
      intro n
      induction n with
      | zero => exact fun _ => ⟨[], rfl, fun i y hi => absurd hi (by omega), fun j u hu => by simp [fl] at hu⟩
      | succ n ih =>
        intro hn
        obtain ⟨rs, h1, h2, h3⟩ := ih (by omega)
        obtain ⟨y, hy⟩ : ∃ y, ys[n]? = some y := ⟨_, List.getElem?_eq_getElem (by omega)⟩
        obtain ⟨c0, c1, c2, c3, c4, c5, e0, e1, e2, e3, e4, e5, hr⟩ := hc n y hy
        refine ⟨rs ++ [(c0, c1, c2, c3, c4, c5)], by simp [h1], fun i z hi hz => ?_, fun j u hu => ?_⟩
        · rcases Nat.lt_or_ge i n with hlt | hge
          · rw [List.getElem?_append_left (by omega)]
            exact h2 i z hlt hz
          · obtain rfl : i = n := by omega
            rw [hy] at hz
            cases hz
            rw [List.getElem?_append_right (by omega), h1]
            simp
            exact hr
        · rw [fl_append] at hu
          have hlen : (fl rs).length = n * 6 := by rw [fl_length, h1]
          rcases Nat.lt_or_ge j (n * 6) with hlt | hge
          · rw [List.getElem?_append_left (by omega)] at hu
            exact h3 j u hu
          · rw [List.getElem?_append_right (by omega), hlen] at hu
            obtain ⟨d, rfl⟩ : ∃ d, j = n * 6 + d := ⟨j - n * 6, by omega⟩
            rw [Nat.add_sub_cancel_left] at hu
            have hd : d < 6 := by
              have := (List.getElem?_eq_some_iff.1 hu).1
              simpa [fl] using this
            rw [← Nat.add_assoc]
            rcases (by omega : d = 0 ∨ d = 1 ∨ d = 2 ∨ d = 3 ∨ d = 4 ∨ d = 5) with rfl | rfl | rfl | rfl | rfl | rfl <;> (simp [fl] at hu; subst hu; assumption)
    obtain ⟨rs, h1, h2, h3⟩ := this ys.length (Nat.le_refl _)
    refine ⟨rs, ⟨h1, fun i y hy => h2 i y (List.getElem?_eq_some_iff.1 hy).1 hy⟩, by rw [fl_length, h1], fun _ => ⟨_, rfl, hb, fun j u hu => ?_⟩⟩
    have := h3 j u hu
    unfold Addr.add
    split
    · rename_i hj
      have : j = 0 := by simpa using hj
      subst this
      exact h3 0 u hu
    · exact this

/-- A row that is owned, as a row of values. -/
theorem SxR.vec {w : World} {base B : Nat} {A : Option Addr} {c : Nat} {rs : List Sx} {ys : List JV} (h : SxR R rs ys) (ho : w.ownsRow base 26 6 (.slice A ys.length c) ys.length (fl rs)) (hB : w.heap.size ≤ B) : VecAt R w B A ys := by
  intro hl
  obtain ⟨g, cap, hv, hg, hlt⟩ := ho.form hl
  injection hv with hA
  subst hA
  refine ⟨g, 0, rfl, by omega, fun i y hy => ?_⟩
  obtain ⟨⟨c0, c1, c2, c3, c4, c5⟩, hr, hR⟩ := h.2 i y hy
  have hi := (List.getElem?_eq_some_iff.1 hy).1
  obtain ⟨e0, e1, e2, e3, e4, e5⟩ := fl_get rs i c0 c1 c2 c3 c4 c5 hr
  have hat : ∀ d u, d < 6 → (fl rs)[i * 6 + d]? = some u → w.cell? ⟨g, 0 + i * 6 + d, none⟩ = some u := fun d u hd hu => by
    rw [Nat.zero_add, ho.cellAt (i * 6 + d) (by omega)]
    exact hu
  exact ⟨c0, c1, c2, c3, c4, c5, hat 0 _ (by omega) e0, hat 1 _ (by omega) e1, hat 2 _ (by omega) e2, hat 3 _ (by omega) e3, hat 4 _ (by omega) e4, hat 5 _ (by omega) e5, hR⟩
end
end Go.Proofs.YtbnbemacljjimaaGreatDoor

namespace Go.Proofs.YtbnbemacljjimaaGreatDoor
open Go.RowKit Go.Lib
set_option linter.unusedVariables false

/-- A digit of base 16. -/
def hxC (d : Nat) : UInt8 := if d < 10 then UInt8.ofNat (48 + d) else UInt8.ofNat (87 + d)
/-- A byte in a JSON text. -/
def qC (c : UInt8) : List UInt8 :=
  if c = 34 then [92, 34] else if c = 92 then [92, 92] else if c = 10 then [92, 110] else if c = 9 then [92, 116] else if c = 13 then [92, 114] else if c = 8 then [92, 98] else if c = 12 then [92, 102]
  else if c.toNat < 32 then [92, 117, 48, 48, hxC (c.toNat / 16), hxC (c.toNat % 16)] else [c]
def qL (l : List UInt8) : List UInt8 := l.flatMap qC
/-- A JSON string. -/
def qT (s : ByteArray) : ByteArray := ⟨(34 :: qL s.data.toList ++ [34]).toArray⟩
/-- .. whose end is not yet laid. -/
def qA (l : List UInt8) : ByteArray := ⟨(34 :: qL l).toArray⟩

theorem qC_len (c : UInt8) : (qC c).length ≤ 6 := by
  unfold qC
  repeat' split
  all_goals simp
theorem qL_len (l : List UInt8) : (qL l).length ≤ 6 * l.length := by
  induction l with
  | nil => decide
  | cons c l ih =>
    unfold qL at *
    rw [List.flatMap_cons, List.length_append, List.length_cons]
    have := qC_len c
    omega
theorem qA_size (l : List UInt8) : (qA l).size ≤ 1 + 6 * l.length := by
  show (34 :: qL l).toArray.size ≤ _
  rw [List.size_toArray, List.length_cons]
  have := qL_len l
  omega
theorem qT_size (s : ByteArray) : (qT s).size ≤ 2 + 6 * s.size := by
  show (34 :: qL s.data.toList ++ [34]).toArray.size ≤ _
  rw [List.size_toArray, List.length_append, List.length_cons]
  have := qL_len s.data.toList
  have e : s.data.toList.length = s.size := by rw [Array.length_toList]; rfl
  simp
  omega
theorem qA_snoc (l : List UInt8) (c : UInt8) (t : ByteArray) (ht : t.data.toList = qC c) : qA l ++ t = qA (l ++ [c]) := by
  apply ByteArray.ext
  apply Array.toList_inj.1
  rw [ByteArray.data_append, Array.toList_append, ht]
  unfold qA qL
  simp
theorem qA_end (s : ByteArray) : qA s.data.toList ++ (⟨#[34]⟩ : ByteArray) = qT s := by
  apply ByteArray.ext
  apply Array.toList_inj.1
  rw [ByteArray.data_append, Array.toList_append]
  rfl

/-- No byte 127. -/
def NoDel (s : ByteArray) : Prop := ∀ c ∈ s.data.toList, c ≠ 127
def NoD (s : ByteArray) (i : Nat) : Prop := ∀ c ∈ s.data.toList.take i, c ≠ 127
theorem NoD.zero (s : ByteArray) : NoD s 0 := by intro c hc; simp at hc
theorem NoD.next {s : ByteArray} {i : Nat} (h : NoD s i) (hi : i < s.size) (hc : s[i] ≠ 127) : NoD s (i + 1) := by
  intro c hm
  rw [List.take_succ_eq_append_getElem (by simpa using hi), List.mem_append] at hm
  rcases hm with hm | hm
  · exact h c hm
  · simp at hm
    rw [hm]
    exact hc
theorem NoD.all {s : ByteArray} (h : NoD s s.size) : NoDel s := by
  intro c hc
  refine h c ?_
  rw [List.take_of_length_le (by rw [Array.length_toList]; exact Nat.le_refl _)]
  exact hc

def QSays (s : ByteArray) (e : Ending) : Prop := ∃ (t : ByteArray) (how : Int), e = .returned (.tuple #[.string t, .int .i64 how]) ∧ ((how = 0 ∧ t = qT s ∧ NoDel s) ∨ how = 2)

/-- What kinds of bytes there are. -/
theorem byte_kinds (c : UInt8) : (c.toNat = 34 ∧ qC c = [92, 34]) ∨ (c.toNat = 92 ∧ qC c = [92, 92]) ∨ (c.toNat = 10 ∧ qC c = [92, 110]) ∨ (c.toNat = 9 ∧ qC c = [92, 116]) ∨ (c.toNat = 13 ∧ qC c = [92, 114]) ∨ (c.toNat = 8 ∧ qC c = [92, 98]) ∨ (c.toNat = 12 ∧ qC c = [92, 102]) ∨
    ((c.toNat < 32 ∧ c.toNat ≠ 10 ∧ c.toNat ≠ 9 ∧ c.toNat ≠ 13 ∧ c.toNat ≠ 8 ∧ c.toNat ≠ 12) ∧ qC c = [92, 117, 48, 48, hxC (c.toNat / 16), hxC (c.toNat % 16)]) ∨ (c.toNat = 127 ∧ qC c = [c]) ∨ ((32 ≤ c.toNat ∧ c.toNat ≠ 34 ∧ c.toNat ≠ 92 ∧ c.toNat ≠ 127) ∧ qC c = [c]) := by
  have e : ∀ k : UInt8, c = k ↔ c.toNat = k.toNat := fun k => (UInt8.toNat_inj).symm
  unfold qC
  simp only [e]
  simp only [show (34 : UInt8).toNat = 34 from rfl, show (92 : UInt8).toNat = 92 from rfl, show (10 : UInt8).toNat = 10 from rfl, show (9 : UInt8).toNat = 9 from rfl, show (13 : UInt8).toNat = 13 from rfl, show (8 : UInt8).toNat = 8 from rfl, show (12 : UInt8).toNat = 12 from rfl]
  have hc := UInt8.toNat_lt c
  by_cases h34 : c.toNat = 34
  · exact Or.inl ⟨h34, by rw [if_pos h34]⟩
  rw [if_neg h34]
  by_cases h92 : c.toNat = 92
  · exact Or.inr (Or.inl ⟨h92, by rw [if_pos h92]⟩)
  rw [if_neg h92]
  by_cases h10 : c.toNat = 10
  · exact Or.inr (Or.inr (Or.inl ⟨h10, by rw [if_pos h10]⟩))
  rw [if_neg h10]
  by_cases h9 : c.toNat = 9
  · exact Or.inr (Or.inr (Or.inr (Or.inl ⟨h9, by rw [if_pos h9]⟩)))
  rw [if_neg h9]
  by_cases h13 : c.toNat = 13
  · exact Or.inr (Or.inr (Or.inr (Or.inr (Or.inl ⟨h13, by rw [if_pos h13]⟩))))
  rw [if_neg h13]
  by_cases h8 : c.toNat = 8
  · exact Or.inr (Or.inr (Or.inr (Or.inr (Or.inr (Or.inl ⟨h8, by rw [if_pos h8]⟩)))))
  rw [if_neg h8]
  by_cases h12 : c.toNat = 12
  · exact Or.inr (Or.inr (Or.inr (Or.inr (Or.inr (Or.inr (Or.inl ⟨h12, by rw [if_pos h12]⟩))))))
  rw [if_neg h12]
  by_cases h32 : c.toNat < 32
  · exact Or.inr (Or.inr (Or.inr (Or.inr (Or.inr (Or.inr (Or.inr (Or.inl ⟨⟨h32, h10, h9, h13, h8, h12⟩, by rw [if_pos h32]⟩)))))))
  rw [if_neg h32]
  by_cases h127 : c.toNat = 127
  · exact Or.inr (Or.inr (Or.inr (Or.inr (Or.inr (Or.inr (Or.inr (Or.inr (Or.inl ⟨h127, rfl⟩))))))))
  · exact Or.inr (Or.inr (Or.inr (Or.inr (Or.inr (Or.inr (Or.inr (Or.inr (Or.inr ⟨⟨by omega, h34, h92, h127⟩, rfl⟩))))))))
end Go.Proofs.YtbnbemacljjimaaGreatDoor

namespace Go.Proofs.YtbnbemacljjimaaGreatDoor
open Go.RowKit Go.Lib
set_option linter.unusedVariables false

theorem conv_lit (k : Nat) (hk : k < 128) (w : World) : (convert 21 9 (.int .i32 (k : Nat))).run Tryz.prog w = .ok (.string ⟨#[UInt8.ofNat k]⟩) w := by
  rw [run_convert_int_string w 21 9 .i32 _ (by rw [Tryz.underlying21]; rfl) Tryz.underlying9, enc_ascii _ hk]
theorem conv_34 (w : World) : (convert 21 9 (.int .i32 34)).run Tryz.prog w = .ok (.string ⟨#[34]⟩) w := conv_lit 34 (by decide) w
theorem conv_92 (w : World) : (convert 21 9 (.int .i32 92)).run Tryz.prog w = .ok (.string ⟨#[92]⟩) w := conv_lit 92 (by decide) w

/-- A digit of base 16, cut out of the text of all. -/
def hexT : ByteArray := ⟨#[48, 49, 50, 51, 52, 53, 54, 55, 56, 57, 97, 98, 99, 100, 101, 102]⟩
theorem hex_cut : ∀ d : Nat, d < 16 → (hexT.extract d (d + 1)).data.toList = [hxC d] := by decide

theorem cut_one {s : ByteArray} {i : Nat} (h : i < s.size) : (s.extract i (i + 1)).data.toList = [s[i]] := by
  rw [ByteArray.data_extract, Array.toList_extract, List.extract_eq_take_drop]
  rw [show i + 1 - i = 1 by omega]
  rw [List.drop_eq_getElem_cons (by simpa using h)]
  rfl
theorem size_of_one {s : ByteArray} {c : UInt8} (h : s.data.toList = [c]) : s.size = 1 := by
  show s.data.size = 1
  rw [← Array.length_toList, h]
  rfl

set_option maxHeartbeats 8000000 in
set_option maxRecDepth 100000 in
theorem quoted_any (w : World) (s : ByteArray) (hs : s.size ≤ 100000) :
    Calls Tryz.prog 21 #[.string s] w fun e w' => QSays s e ∧ Below w.heap.size w w' := by
  have hsl : s.data.toList.length = s.size := by rw [Array.length_toList]; rfl
  have v34 := hide conv_34
  have v92 := hide conv_92
  replace hsl := hide hsl
  go_enter Tryz.func21, Tryz.ntmps21
  go_wp2
  go_loopw [4, 5] (fun s4 s5 wr => ∃ i : Nat, s5 = .int .i64 i ∧ i ≤ s.size ∧ s4 = .string (qA (s.data.toList.take i)) ∧ NoD s i ∧ Below w.heap.size w wr) (fun _ i _ => s.size - (RowKit.intOf i).toNat)
  case atStart => exact ⟨0, rfl, Nat.zero_le _, rfl, NoD.zero s, Below.refl _ _⟩
  case round =>
    obtain ⟨i, rfl, hi, rfl, hno, hb⟩ := hrel
    have hb' := hide hb
    clear hb
    by_cases hlt : i < s.size
    · have hds := qA_size (s.data.toList.take i)
      have hlk : (s.data.toList.take i).length ≤ i := List.length_take_le _ _
      have htk : s.data.toList.take (i + 1) = s.data.toList.take i ++ [s[i]] := by rw [List.take_succ_eq_append_getElem (by simpa using hlt)]; rfl
      have hsn := fun (t : ByteArray) (hq : t.data.toList = qC s[i]) => qA_snoc (s.data.toList.take i) s[i] t hq
      rw [← htk] at hsn
      have hnx : s[i] ≠ 127 → NoD s (i + 1) := fun h => hno.next hlt h
      have hne : ∀ k : Nat, s[i].toNat = k → k ≠ 127 → s[i] ≠ 127 := fun k h1 h2 h3 => h2 (by rw [← h1, h3]; rfl)
      have hco := cut_one hlt
      obtain ⟨D, hD⟩ : ∃ D, qA (s.data.toList.take i) = D := ⟨_, rfl⟩
      rw [hD] at hsn hds ⊢
      clear hD htk hno
      have hkinds := byte_kinds s[i]
      replace hsn := hide hsn
      replace hnx := hide hnx
      replace hne := hide hne
      replace hco := hide hco
      have z2 : ¬ 9223372036854775807 < D.size + 2 := by omega
      have z1 : ¬ 9223372036854775807 < D.size + 1 := by omega
      have z6 : ¬ 9223372036854775807 < D.size + 6 := by omega
      rcases hkinds with ⟨hc, hq⟩ | ⟨hc, hq⟩ | ⟨hc, hq⟩ | ⟨hc, hq⟩ | ⟨hc, hq⟩ | ⟨hc, hq⟩ | ⟨hc, hq⟩ | ⟨hc, hq⟩ | ⟨hc, hq⟩ | ⟨hc, hq⟩
      · have hfin := hide (hsn.out ⟨#[92, 34]⟩ hq.symm)
        have hn1 := hide (hnx.out (hne.out 34 hc (by decide)))
        replace hq := hide hq
        have vv := v34.out
        go_wp2
        go_roundw
        case rel => exact ⟨i + 1, by go_num, by omega, by rw [← hfin.out]; rfl, hn1.out, hb'.out⟩
        case measure => simp [RowKit.intOf]; omega
      · have hfin := hide (hsn.out ⟨#[92, 92]⟩ hq.symm)
        have hn1 := hide (hnx.out (hne.out 92 hc (by decide)))
        replace hq := hide hq
        have vv := v92.out
        go_wp2
        go_roundw
        case rel => exact ⟨i + 1, by go_num, by omega, by rw [← hfin.out]; rfl, hn1.out, hb'.out⟩
        case measure => simp [RowKit.intOf]; omega
      · have hfin := hide (hsn.out ⟨#[92, 110]⟩ hq.symm)
        have hn1 := hide (hnx.out (hne.out 10 hc (by decide)))
        replace hq := hide hq
        go_wp2
        go_roundw
        case rel => exact ⟨i + 1, by go_num, by omega, by rw [← hfin.out], hn1.out, hb'.out⟩
        case measure => simp [RowKit.intOf]; omega
      · have hfin := hide (hsn.out ⟨#[92, 116]⟩ hq.symm)
        have hn1 := hide (hnx.out (hne.out 9 hc (by decide)))
        replace hq := hide hq
        go_wp2
        go_roundw
        case rel => exact ⟨i + 1, by go_num, by omega, by rw [← hfin.out], hn1.out, hb'.out⟩
        case measure => simp [RowKit.intOf]; omega
      · have hfin := hide (hsn.out ⟨#[92, 114]⟩ hq.symm)
        have hn1 := hide (hnx.out (hne.out 13 hc (by decide)))
        replace hq := hide hq
        go_wp2
        go_roundw
        case rel => exact ⟨i + 1, by go_num, by omega, by rw [← hfin.out], hn1.out, hb'.out⟩
        case measure => simp [RowKit.intOf]; omega
      · have hfin := hide (hsn.out ⟨#[92, 98]⟩ hq.symm)
        have hn1 := hide (hnx.out (hne.out 8 hc (by decide)))
        replace hq := hide hq
        go_wp2
        go_roundw
        case rel => exact ⟨i + 1, by go_num, by omega, by rw [← hfin.out], hn1.out, hb'.out⟩
        case measure => simp [RowKit.intOf]; omega
      · have hfin := hide (hsn.out ⟨#[92, 102]⟩ hq.symm)
        have hn1 := hide (hnx.out (hne.out 12 hc (by decide)))
        replace hq := hide hq
        go_wp2
        go_roundw
        case rel => exact ⟨i + 1, by go_num, by omega, by rw [← hfin.out], hn1.out, hb'.out⟩
        case measure => simp [RowKit.intOf]; omega
      · obtain ⟨g32, g10, g9, g13, g8, g12⟩ := hc
        obtain ⟨c, hcc⟩ : ∃ c : Nat, s[i].toNat = c := ⟨_, rfl⟩
        rw [hcc] at hq g32 g10 g9 g13 g8 g12
        have hn1 := hide (hnx.out (hne.out c hcc (by omega)))
        have b34 : (((c : Nat) : Int) == 34) = false := by simp; omega
        have b92 : (((c : Nat) : Int) == 92) = false := by simp; omega
        have b10 : (((c : Nat) : Int) == 10) = false := by simp; omega
        have b9 : (((c : Nat) : Int) == 9) = false := by simp; omega
        have b13 : (((c : Nat) : Int) == 13) = false := by simp; omega
        have b8 : (((c : Nat) : Int) == 8) = false := by simp; omega
        have b12 : (((c : Nat) : Int) == 12) = false := by simp; omega
        have l32 : ((c : Nat) : Int) < 32 := by omega
        have x1 := hex_cut (c / 16) (by omega)
        have x2 := hex_cut (c % 16) (by omega)
        have y1 := size_of_one x1
        have y2 := size_of_one x2
        obtain ⟨X1, hX1⟩ : ∃ X, hexT.extract (c / 16) (c / 16 + 1) = X := ⟨_, rfl⟩
        obtain ⟨X2, hX2⟩ : ∃ X, hexT.extract (c % 16) (c % 16 + 1) = X := ⟨_, rfl⟩
        have hfin : Hid (D ++ (⟨#[92, 117, 48, 48]⟩ ++ X1 ++ X2) = qA (s.data.toList.take (i + 1))) := hide (hsn.out _ (by
          rw [hq, ← hX1, ← hX2, ByteArray.data_append, ByteArray.data_append, Array.toList_append, Array.toList_append, x1, x2]
          rfl))
        rw [hX1] at y1
        rw [hX2] at y2
        have zz1 : ¬ 9223372036854775807 < 4 + X1.size := by omega
        have zz2 : ¬ 9223372036854775807 < 4 + X1.size + X2.size := by omega
        have zz3 : ¬ 9223372036854775807 < D.size + (4 + X1.size + X2.size) := by omega
        have hh := hide (And.intro hX1 (And.intro hX2 (And.intro x1 (And.intro x2 (And.intro y1 y2)))))
        clear hX1 hX2 x1 x2 y1 y2 g32 g10 g9 g13 g8 g12
        replace hq := hide hq
        go_wp2
        go_quiet (fail)
        obtain ⟨hX1, hX2, -⟩ := hh.out
        have hfin2 := hfin.out
        rw [← hX1, ← hX2] at hfin2
        replace hfin2 := hide hfin2
        clear hX1 hX2
        go_wp2
        go_roundw
        case rel => exact ⟨i + 1, by go_num, by omega, by rw [← hfin2.out]; rfl, hn1.out, below_drewN hb'.out nq⟩
        case measure => simp [RowKit.intOf]; omega
      · replace hq := hide hq
        go_wp2
        go_ret2
        exact ⟨⟨_, _, rfl, Or.inr rfl⟩, hb'.out⟩
      · obtain ⟨g32, g34, g92, g127⟩ := hc
        obtain ⟨X, hX⟩ : ∃ X, s.extract i (i + 1) = X := ⟨_, rfl⟩
        have hx1 := hco.out
        rw [hX] at hx1
        have hfin := hide (hsn.out X (by rw [hq]; exact hx1))
        have hxs := size_of_one hx1
        have hn1 := hide (hnx.out (hne.out _ rfl g127))
        obtain ⟨c, hcc⟩ : ∃ c : Nat, s[i].toNat = c := ⟨_, rfl⟩
        rw [hcc] at g32 g34 g92 g127
        have b34 : (((c : Nat) : Int) == 34) = false := by simp; omega
        have b92 : (((c : Nat) : Int) == 92) = false := by simp; omega
        have b10 : (((c : Nat) : Int) == 10) = false := by simp; omega
        have b9 : (((c : Nat) : Int) == 9) = false := by simp; omega
        have b13 : (((c : Nat) : Int) == 13) = false := by simp; omega
        have b8 : (((c : Nat) : Int) == 8) = false := by simp; omega
        have b12 : (((c : Nat) : Int) == 12) = false := by simp; omega
        have b127 : (((c : Nat) : Int) == 127) = false := by simp; omega
        have l32 : ¬ ((c : Nat) : Int) < 32 := by omega
        have zz : ¬ 9223372036854775807 < D.size + X.size := by omega
        replace hxs := hide hxs
        replace hq := hide hq
        clear g32 g34 g92 g127 hx1
        go_wp2
        go_roundw
        case rel => exact ⟨i + 1, by go_num, by omega, by rw [← hfin.out], hn1.out, hb'.out⟩
        case measure => simp [RowKit.intOf]; omega
    · obtain rfl : i = s.size := by omega
      have hq := hno.all
      have hds := qA_size (s.data.toList.take s.size)
      rw [List.take_of_length_le (by rw [hsl.out]; exact Nat.le_refl _)] at hds ⊢
      rw [hsl.out] at hds
      have hqe := qA_end s
      obtain ⟨D, hD⟩ : ∃ D, qA s.data.toList = D := ⟨_, rfl⟩
      rw [hD] at hqe hds ⊢
      have z1 : ¬ 9223372036854775807 < D.size + 1 := by omega
      replace hqe := hide hqe
      replace hD := hide hD
      replace hq := hide hq
      clear hno
      go_wp2
      go_ret2
      exact ⟨⟨_, _, rfl, Or.inl ⟨rfl, hqe.out, hq.out⟩⟩, hb'.out⟩
end Go.Proofs.YtbnbemacljjimaaGreatDoor

namespace Go.Proofs.YtbnbemacljjimaaGreatDoor
open Go.RowKit Go.Lib
set_option linter.unusedVariables false

/-- Texts with commas between. -/
def joinT (ls : List ByteArray) : ByteArray := ⟨(Lib.join (ls.map (·.data.toList)) [44]).toArray⟩

theorem joinT_next {ls : List ByteArray} {j : Nat} {t : ByteArray} (ht : ls[j]? = some t) : joinT (ls.take (j + 1)) = if j = 0 then t else joinT (ls.take j) ++ ⟨#[44]⟩ ++ t := by
  have hj : j < ls.length := (List.getElem?_eq_some_iff.1 ht).1
  apply ByteArray.ext
  apply Array.toList_inj.1
  unfold joinT
  rw [List.take_add_one, ht]
  show Lib.join _ _ = _
  rw [Option.toList_some, List.map_append, List.map_singleton, join_snoc]
  by_cases h0 : j = 0
  · subst h0
    rw [if_pos rfl, if_pos (by simp)]
  · rw [if_neg h0, if_neg (by
      intro e
      have h1 := congrArg List.length e
      rw [List.length_map, List.length_take] at h1
      have h2 : min j ls.length = 0 := h1
      omega)]
    rw [ByteArray.data_append, ByteArray.data_append, Array.toList_append, Array.toList_append]

theorem joinT_size : ∀ (ls : List ByteArray), (joinT ls).size ≤ (ls.map (fun t => t.size + 1)).sum
  | [] => Nat.le_refl _
  | l :: ls => by
    unfold joinT
    show (Lib.join _ _).toArray.size ≤ _
    rw [List.size_toArray, List.map_cons, Lib.join_cons, List.length_append, Lib.joinTail_length, List.map_cons, List.sum_cons]
    have e : ∀ t : ByteArray, t.data.toList.length = t.size := fun t => by rw [Array.length_toList]; rfl
    have h : ([44] : List UInt8).length * (ls.map (·.data.toList)).length + Lib.lens (ls.map (·.data.toList)) = (ls.map (fun t => t.size + 1)).sum := by
      show 1 * _ + _ = _
      induction ls with
      | nil => rfl
      | cons t ls ih =>
        unfold Lib.lens at *
        simp only [List.map_cons, List.length_cons, List.sum_cons, e]
        omega
    rw [h, e]
    omega

/-- A key and its value. -/
def itemT (k t : ByteArray) : ByteArray := qT k ++ ⟨#[58]⟩ ++ t
/-- What stands within a list's or a map's brackets. -/
def jItems (f : JV → ByteArray) (v : JV) : List ByteArray := if v.kind = 6 then List.zipWith (fun k x => itemT k (f x)) v.keys v.vals else v.list.map f
/-- The JSON text of a value, down to a depth. -/
def jT : Nat → JV → ByteArray
  | 0, _ => ⟨#[]⟩
  | n + 1, v => if v.kind = 4 then qT v.text else if v.kind = 5 then ⟨#[91]⟩ ++ joinT (jItems (jT n) v) ++ ⟨#[93]⟩ else if v.kind = 6 then ⟨#[123]⟩ ++ joinT (jItems (jT n) v) ++ ⟨#[125]⟩ else stxt v

/-- No text has a byte 127. -/
def JsOk : Nat → JV → Prop
  | 0, _ => True
  | n + 1, v => (v.kind = 4 → NoDel v.text) ∧ (∀ x ∈ v.list, JsOk n x) ∧ (∀ k ∈ v.keys, NoDel k) ∧ ∀ x ∈ v.vals, JsOk n x

theorem sum_list (n : Nat) (f : JV → ByteArray) : ∀ (xs : List JV), (∀ x ∈ xs, (f x).size + 10 ≤ 6 * JV.bytes n x + 40 * JV.parts n x) → ((xs.map f).map (fun t => t.size + 1)).sum ≤ 6 * (xs.map (JV.bytes n)).sum + 40 * (xs.map (JV.parts n)).sum
  | [], _ => Nat.zero_le _
  | x :: xs, h => by
    have h1 := sum_list n f xs (fun y hy => h y (List.mem_cons_of_mem _ hy))
    have h2 := h x List.mem_cons_self
    simp only [List.map_cons, List.sum_cons]
    omega
theorem sum_map (n : Nat) (f : JV → ByteArray) : ∀ (ks : List ByteArray) (xs : List JV), (∀ x ∈ xs, (f x).size + 10 ≤ 6 * JV.bytes n x + 40 * JV.parts n x) → ((List.zipWith (fun k x => itemT k (f x)) ks xs).map (fun t => t.size + 1)).sum ≤ 6 * (ks.map (·.size)).sum + 6 * (xs.map (JV.bytes n)).sum + 40 * (xs.map (JV.parts n)).sum
  | [], _, _ => Nat.zero_le _
  | _ :: _, [], _ => Nat.zero_le _
  | k :: ks, x :: xs, h => by
    have h1 := sum_map n f ks xs (fun y hy => h y (List.mem_cons_of_mem _ hy))
    have h2 := h x List.mem_cons_self
    have h3 := qT_size k
    have h4 : (itemT k (f x)).size = (qT k).size + 1 + (f x).size := by
      unfold itemT
      rw [ByteArray.size_append, ByteArray.size_append]
      rfl
    simp only [List.zipWith_cons_cons, List.map_cons, List.sum_cons]
    omega

theorem items_size (n : Nat) (f : JV → ByteArray) (v : JV) (h : ∀ x, (x ∈ v.list ∨ x ∈ v.vals) → (f x).size + 10 ≤ 6 * JV.bytes n x + 40 * JV.parts n x) (j : Nat) :
    (joinT ((jItems f v).take j)).size ≤ 6 * JV.bytes (n + 1) v + 40 * (JV.parts (n + 1) v - 1) := by
  have h0 : (joinT ((jItems f v).take j)).size ≤ ((jItems f v).map (fun t => t.size + 1)).sum := by
    refine Nat.le_trans (joinT_size _) ?_
    rw [List.map_take]
    generalize (jItems f v).map (fun t => t.size + 1) = l
    induction l generalizing j with
    | nil => simp
    | cons a l ih =>
      cases j with
      | zero => simp
      | succ j =>
        rw [List.take_succ_cons, List.sum_cons, List.sum_cons]
        have := ih j
        omega
  refine Nat.le_trans h0 ?_
  rw [JV.bytes, JV.parts]
  unfold jItems
  split
  · have := sum_map n f v.keys v.vals (fun x hx => h x (Or.inr hx))
    omega
  · have := sum_list n f v.list (fun x hx => h x (Or.inl hx))
    omega

theorem jT_size : ∀ (n : Nat) (v : JV), Good n v → (jT n v).size + 10 ≤ 6 * JV.bytes n v + 40 * JV.parts n v
  | 0, v, h => absurd h (fun h => h)
  | n + 1, v, h => by
    have hall : ∀ x, (x ∈ v.list ∨ x ∈ v.vals) → (jT n x).size + 10 ≤ 6 * JV.bytes n x + 40 * JV.parts n x := by
      intro x hx
      rcases hx with hx | hx
      · exact jT_size n x (h.2.2.2.2.2.2.2.2.2.2.2.1 x hx)
      · exact jT_size n x (h.2.2.2.2.2.2.2.2.2.2.2.2.2.2 x hx)
    have hi := items_size n (jT n) v hall (jItems (jT n) v).length
    rw [List.take_length] at hi
    have hp : 1 ≤ JV.parts (n + 1) v := by rw [JV.parts]; omega
    have hb : v.text.size ≤ JV.bytes (n + 1) v := by rw [JV.bytes]; omega
    rw [jT]
    split
    · have := qT_size v.text
      omega
    · split
      · rw [ByteArray.size_append, ByteArray.size_append]
        show 1 + _ + 1 + 10 ≤ _
        omega
      · split
        · rw [ByteArray.size_append, ByteArray.size_append]
          show 1 + _ + 1 + 10 ≤ _
          omega
        · have := stxt_size v h.2.2.2.2.2.2.1 h.2.2.2.2.2.2.2.1
          omega
end Go.Proofs.YtbnbemacljjimaaGreatDoor

namespace Go.Proofs.YtbnbemacljjimaaGreatDoor
open Go.RowKit Go.Lib
set_option linter.unusedVariables false

/-- The value of digits of base 16, as far as read. -/
def hv (ds : List Nat) : Nat → Nat
  | 0 => 0
  | i + 1 => hv ds i * 16 + ds.getD i 0
theorem hx_dig : ∀ d : Nat, d < 10 → (hxC d).toNat = 48 + d := by decide
theorem hx_let : ∀ d : Nat, d < 16 → 10 ≤ d → (hxC d).toNat = 87 + d := by decide
theorem or32 : ∀ d : Nat, d < 16 → 10 ≤ d → bits .or .i64 ((87 + d : Nat) : Int) 32 = ((87 + d : Nat) : Int) := by decide

set_option maxHeartbeats 2000000 in
set_option maxRecDepth 100000 in
theorem hex_any (w : World) (r : Nat) (s k x : ByteArray) (a : Nat) (ds : List Nat) (m : List UInt8) (h : Rd w r s a k x false) (hl : ds.length = 4) (hd : ∀ d ∈ ds, d < 16) (hp : Pt s a (ds.map hxC ++ m)) (hs : s.size ≤ 1000000) :
    Calls Tryz.prog 216 #[.pointer (some ⟨r, 0, none⟩)] w fun e w' => e = .returned (.int .i64 ((hv ds 4 : Nat) : Int)) ∧ Rd w' r s (a + 4) k x false ∧ Only (· = r) w w' := by
  have hroom := hp.room
  rw [List.length_append, List.length_map, hl] at hroom
  have hat : ∀ i, i < 4 → ∃ d, ds[i]? = some d ∧ d < 16 ∧ ∀ hi : a + i < s.size, s[a + i] = hxC d := by
    intro i hi
    have hil : i < ds.length := by omega
    refine ⟨ds[i], List.getElem?_eq_getElem hil, hd _ (List.getElem_mem hil), fun h2 => ?_⟩
    have h3 := hp.get h2
    rw [List.getElem?_append_left (by simpa using hil), List.getElem?_map, List.getElem?_eq_getElem hil] at h3
    simpa using h3.symm
  have hvb : ∀ i, i ≤ 4 → hv ds i < 16 ^ i := by
    intro i
    induction i with
    | zero => exact fun _ => by show 0 < 1; decide
    | succ i ih =>
      intro hi
      have h1 := ih (by omega)
      obtain ⟨d, h2, h3, -⟩ := hat i (by omega)
      rw [hv, List.getD_eq_getElem?_getD, h2, Nat.pow_succ]
      simp only [Option.getD_some]
      omega
  replace hat := hide hat
  replace hvb := hide hvb
  replace hp := hide hp
  replace hd := hide hd
  replace hl := hide hl
  go_enter Tryz.func216, Tryz.ntmps216
  go_wp2
  go_loopw [3, 4] (fun s3 s4 wr => ∃ i : Nat, s4 = .int .i64 (i : Int) ∧ s3 = .int .i64 ((hv ds i : Nat) : Int) ∧ i ≤ 4 ∧ Rd wr r s (a + i) k x false ∧ Only (· = r) w wr) (fun _ i _ => 4 - (RowKit.intOf i).toNat)
  case atStart => exact ⟨0, rfl, rfl, by decide, h, Only.refl _ _⟩
  case round =>
    clear h
    obtain ⟨i, rfl, rfl, hi, hR, ho⟩ := hrel
    by_cases hlt : i < 4
    · obtain ⟨d, hdi, hd16, hsd⟩ := hat.out i hlt
      have hin : a + i < s.size := by omega
      have hc := hsd hin
      have hN1 := hvb.out i (by omega)
      have hN : hv ds i < 65536 := Nat.lt_of_lt_of_le hN1 (Nat.le_trans (Nat.pow_le_pow_right (by decide) (show i ≤ 4 by omega)) (by decide))
      have hM : hv ds (i + 1) = hv ds i * 16 + d := by rw [hv, List.getD_eq_getElem?_getD, hdi]; rfl
      clear hsd
      obtain ⟨p, hpp⟩ : ∃ p, a + i = p := ⟨_, rfl⟩
      have hpn : a + (i + 1) = p + 1 := by omega
      simp only [hpp] at hR hin hc
      have c0 := hR.cell 0
      have c1 := hR.cell 1
      have f1 := hR.frozen 1
      simp at c0 c1
      have hne : ((p : Int) == (s.size : Int)) = false := by simp; omega
      have hR1 : ∀ N, Rd ((wr.drewN N).setCell ⟨r, 1, none⟩ (.int .i64 ((p : Int) + 1))) r s (p + 1) k x false := fun N => by
        have h1 := (show Blk (wr.drewN N) r _ _ from hR).set_ 1 (.int .i64 ((p : Int) + 1))
        simpa [Rd] using h1
      have ho1 : ∀ N, Only (· = r) w ((wr.drewN N).setCell ⟨r, 1, none⟩ (.int .i64 ((p : Int) + 1))) := fun N => (ho.drewN N).setCell (p := ⟨r, 1, none⟩) (Or.inl rfl) _
      obtain ⟨N, hN2⟩ : ∃ N, hv ds i = N := ⟨_, rfl⟩
      obtain ⟨M, hM2⟩ : ∃ M, hv ds (i + 1) = M := ⟨_, rfl⟩
      rw [hN2] at hN hM ⊢
      rw [hM2] at hM
      obtain ⟨C, hC⟩ : ∃ C : Nat, s[p].toNat = C := ⟨_, rfl⟩
      have hCd : (hxC d).toNat = C := by rw [← hc]; exact hC
      replace hc := hide hc
      replace hdi := hide hdi
      replace hN1 := hide hN1
      replace hN2 := hide hN2
      replace hM2 := hide hM2
      replace hR := hide hR
      replace ho := hide ho
      replace hR1 := hide hR1
      replace ho1 := hide ho1
      replace hpp := hide hpp
      replace hpn := hide hpn
      by_cases h10 : d < 10
      · have hC2 : C = 48 + d := by rw [← hCd]; exact hx_dig d h10
        have b1 : (48 : Int) ≤ (C : Int) := by omega
        have b2 : (C : Int) ≤ 57 := by omega
        have b3 : 16 * (N : Int) + (C : Int) - 48 = (M : Int) := by omega
        replace hC2 := hide hC2
        replace hCd := hide hCd
        replace hM := hide hM
        go_wp2
        go_quiet (fail)
        go_wp2
        go_quiet (fail)
        go_wp2
        go_roundw
        case rel => exact ⟨i + 1, by go_num, by rw [hM2.out], by omega, by rw [hpn.out]; exact hR1.out _, ho1.out _⟩
        case measure => simp [RowKit.intOf]; omega
      · have hC2 : C = 87 + d := by rw [← hCd]; exact hx_let d hd16 (by omega)
        have b0 := or32 d hd16 (by omega)
        rw [← hC2] at b0
        have b1 : (48 : Int) ≤ (C : Int) := by omega
        have b2 : ¬ (C : Int) ≤ 57 := by omega
        have b4 : (97 : Int) ≤ (C : Int) := by omega
        have b5 : (C : Int) ≤ 102 := by omega
        have b3 : 16 * (N : Int) + (C : Int) - 97 + 10 = (M : Int) := by omega
        replace hC2 := hide hC2
        replace hCd := hide hCd
        replace hM := hide hM
        go_wp2
        go_quiet (fail)
        go_wp2
        go_quiet (fail)
        go_wp2
        go_roundw
        case rel => exact ⟨i + 1, by go_num, by rw [hM2.out], by omega, by rw [hpn.out]; exact hR1.out _, ho1.out _⟩
        case measure => simp [RowKit.intOf]; omega
    · obtain rfl : i = 4 := by omega
      replace hR := hide hR
      replace ho := hide ho
      go_wp2
      go_ret
      exact ⟨rfl, hR.out, ho.out⟩

/-- What stands behind the backslash of an escape. -/
def escT (c : UInt8) : List UInt8 := (qC c).drop 1

theorem chr_any (n : Nat) (hn : n < 128) (w : World) : (convert 21 9 (.int .i32 (n : Int))).run Tryz.prog w = .ok (.string ⟨#[UInt8.ofNat n]⟩) w := conv_lit n hn w

theorem rd_set {w : World} {r : Nat} {s k x : ByteArray} {a : Nat} (h : Rd w r s a k x false) (N : Nat) : Rd ((w.drewN N).setCell ⟨r, 1, none⟩ (.int .i64 ((a : Int) + 1))) r s (a + 1) k x false := by
  have h1 := (show Blk (w.drewN N) r _ _ from h).set_ 1 (.int .i64 ((a : Int) + 1))
  simpa [Rd] using h1

set_option maxHeartbeats 4000000 in
set_option maxRecDepth 100000 in
theorem escaped_any (w : World) (r : Nat) (s k x : ByteArray) (a : Nat) (c : UInt8) (m : List UInt8) (h : Rd w r s a k x false) (hq : ∃ t, qC c = 92 :: t) (hp : Pt s a (escT c ++ m)) (hs : s.size ≤ 1000000) :
    Calls Tryz.prog 196 #[.pointer (some ⟨r, 0, none⟩)] w fun e w' => e = .returned (.string ⟨#[c]⟩) ∧ Rd w' r s (a + (escT c).length) k x false ∧ Only (· = r) w w' := by
  have c0 := h.cell 0
  have c1 := h.cell 1
  have f1 := h.frozen 1
  simp at c0 c1
  have hR1 := hide (rd_set h)
  have hN := hide (fun N => (show Rd (w.drewN N) r s a k x false from h))
  have ho1 := hide (fun N => ((Only.refl (· = r) w).drewN N).setCell (p := ⟨r, 1, none⟩) (Or.inl rfl) (.int .i64 ((a : Int) + 1)))
  replace h := hide h
  rcases byte_kinds c with ⟨hc, hqc⟩ | ⟨hc, hqc⟩ | ⟨hc, hqc⟩ | ⟨hc, hqc⟩ | ⟨hc, hqc⟩ | ⟨hc, hqc⟩ | ⟨hc, hqc⟩ | ⟨hc, hqc⟩ | ⟨hc, hqc⟩ | ⟨hc, hqc⟩
  · have he : escT c = [34] := by unfold escT; rw [hqc]; rfl
    rw [he] at hp ⊢
    obtain ⟨hi, hat⟩ := hp.at
    have hcut := hp.cutN (n := 1) (by simp)
    rw [show List.take 1 (([34] : List UInt8) ++ m) = [34] from rfl] at hcut
    have hcc : c = 34 := UInt8.toNat_inj.1 hc
    subst hcc
    have hcC : s[a].toNat = 34 := by rw [hat]; rfl
    have hne : ((a : Int) == (s.size : Int)) = false := by simp; omega
    replace hcut := hide hcut
    replace hp := hide hp
    replace hat := hide hat
    replace he := hide he
    go_enter Tryz.func196, Tryz.ntmps196
    go_wp2
    go_quiet (fail)
    go_wp2
    go_quiet (fail)
    go_wp2
    go_quiet (fail)
    go_wp2
    rw [hcut.out]
    go_ret
    exact ⟨rfl, hR1.out _, (ho1.out _).drewN _⟩
  · have he : escT c = [92] := by unfold escT; rw [hqc]; rfl
    rw [he] at hp ⊢
    obtain ⟨hi, hat⟩ := hp.at
    have hcut := hp.cutN (n := 1) (by simp)
    rw [show List.take 1 (([92] : List UInt8) ++ m) = [92] from rfl] at hcut
    have hcc : c = 92 := UInt8.toNat_inj.1 hc
    subst hcc
    have hcC : s[a].toNat = 92 := by rw [hat]; rfl
    have hne : ((a : Int) == (s.size : Int)) = false := by simp; omega
    replace hcut := hide hcut
    replace hp := hide hp
    replace hat := hide hat
    replace he := hide he
    go_enter Tryz.func196, Tryz.ntmps196
    go_wp2
    go_quiet (fail)
    go_wp2
    go_quiet (fail)
    go_wp2
    go_quiet (fail)
    go_wp2
    rw [hcut.out]
    go_ret
    exact ⟨rfl, hR1.out _, (ho1.out _).drewN _⟩
  · have he : escT c = [110] := by unfold escT; rw [hqc]; rfl
    rw [he] at hp ⊢
    obtain ⟨hi, hat⟩ := hp.at
    have hcut := hp.cutN (n := 1) (by simp)
    rw [show List.take 1 (([110] : List UInt8) ++ m) = [110] from rfl] at hcut
    have hcc : c = 10 := UInt8.toNat_inj.1 hc
    subst hcc
    have hcC : s[a].toNat = 110 := by rw [hat]; rfl
    have hne : ((a : Int) == (s.size : Int)) = false := by simp; omega
    replace hcut := hide hcut
    replace hp := hide hp
    replace hat := hide hat
    replace he := hide he
    go_enter Tryz.func196, Tryz.ntmps196
    go_wp2
    go_quiet (fail)
    go_wp2
    go_quiet (fail)
    go_wp2
    go_ret
    exact ⟨rfl, hR1.out _, ho1.out _⟩
  · have he : escT c = [116] := by unfold escT; rw [hqc]; rfl
    rw [he] at hp ⊢
    obtain ⟨hi, hat⟩ := hp.at
    have hcut := hp.cutN (n := 1) (by simp)
    rw [show List.take 1 (([116] : List UInt8) ++ m) = [116] from rfl] at hcut
    have hcc : c = 9 := UInt8.toNat_inj.1 hc
    subst hcc
    have hcC : s[a].toNat = 116 := by rw [hat]; rfl
    have hne : ((a : Int) == (s.size : Int)) = false := by simp; omega
    replace hcut := hide hcut
    replace hp := hide hp
    replace hat := hide hat
    replace he := hide he
    go_enter Tryz.func196, Tryz.ntmps196
    go_wp2
    go_quiet (fail)
    go_wp2
    go_quiet (fail)
    go_wp2
    go_ret
    exact ⟨rfl, hR1.out _, ho1.out _⟩
  · have he : escT c = [114] := by unfold escT; rw [hqc]; rfl
    rw [he] at hp ⊢
    obtain ⟨hi, hat⟩ := hp.at
    have hcut := hp.cutN (n := 1) (by simp)
    rw [show List.take 1 (([114] : List UInt8) ++ m) = [114] from rfl] at hcut
    have hcc : c = 13 := UInt8.toNat_inj.1 hc
    subst hcc
    have hcC : s[a].toNat = 114 := by rw [hat]; rfl
    have hne : ((a : Int) == (s.size : Int)) = false := by simp; omega
    replace hcut := hide hcut
    replace hp := hide hp
    replace hat := hide hat
    replace he := hide he
    go_enter Tryz.func196, Tryz.ntmps196
    go_wp2
    go_quiet (fail)
    go_wp2
    go_quiet (fail)
    go_wp2
    go_ret
    exact ⟨rfl, hR1.out _, ho1.out _⟩
  · have he : escT c = [98] := by unfold escT; rw [hqc]; rfl
    rw [he] at hp ⊢
    obtain ⟨hi, hat⟩ := hp.at
    have hcut := hp.cutN (n := 1) (by simp)
    rw [show List.take 1 (([98] : List UInt8) ++ m) = [98] from rfl] at hcut
    have hcc : c = 8 := UInt8.toNat_inj.1 hc
    subst hcc
    have hcC : s[a].toNat = 98 := by rw [hat]; rfl
    have hne : ((a : Int) == (s.size : Int)) = false := by simp; omega
    replace hcut := hide hcut
    replace hp := hide hp
    replace hat := hide hat
    replace he := hide he
    go_enter Tryz.func196, Tryz.ntmps196
    go_wp2
    go_quiet (fail)
    go_wp2
    go_quiet (fail)
    go_wp2
    go_ret
    exact ⟨rfl, hR1.out _, ho1.out _⟩
  · have he : escT c = [102] := by unfold escT; rw [hqc]; rfl
    rw [he] at hp ⊢
    obtain ⟨hi, hat⟩ := hp.at
    have hcut := hp.cutN (n := 1) (by simp)
    rw [show List.take 1 (([102] : List UInt8) ++ m) = [102] from rfl] at hcut
    have hcc : c = 12 := UInt8.toNat_inj.1 hc
    subst hcc
    have hcC : s[a].toNat = 102 := by rw [hat]; rfl
    have hne : ((a : Int) == (s.size : Int)) = false := by simp; omega
    replace hcut := hide hcut
    replace hp := hide hp
    replace hat := hide hat
    replace he := hide he
    go_enter Tryz.func196, Tryz.ntmps196
    go_wp2
    go_quiet (fail)
    go_wp2
    go_quiet (fail)
    go_wp2
    go_ret
    exact ⟨rfl, hR1.out _, ho1.out _⟩
  · obtain ⟨n, hn⟩ : ∃ n : Nat, c.toNat = n := ⟨_, rfl⟩
    rw [hn] at hc hqc
    have he : escT c = 117 :: [0, 0, n / 16, n % 16].map hxC := by unfold escT; rw [hqc]; rfl
    have hhv : hv [0, 0, n / 16, n % 16] 4 = n := by
      show (((0 * 16 + 0) * 16 + 0) * 16 + n / 16) * 16 + n % 16 = n
      omega
    rw [he] at hp ⊢
    obtain ⟨hi, hat⟩ := hp.at
    have hcC : s[a].toNat = 117 := by rw [hat]; rfl
    have hne : ((a : Int) == (s.size : Int)) = false := by simp; omega
    have hn128 : n < 128 := by omega
    have hnx : ∀ N, _ := fun N => hex_any _ r s k x (a + 1) [0, 0, n / 16, n % 16] m (hR1.out N) rfl (by
      intro d hd
      simp at hd
      omega) hp.next hs
    rw [hhv] at hnx
    have hcv := fun w => chr_any n hn128 w
    have hw32 : IntKind.i32.wrap (n : Int) = (n : Int) := by rw [IntKind.wrap_i32]; omega
    have b1 : ¬ (55296 : Int) ≤ (n : Int) := by omega
    have b2 : decide ((55296 : Int) ≤ (n : Int)) = false := decide_eq_false b1
    have hcc : UInt8.ofNat n = c := by rw [← hn]; exact UInt8.ofNat_toNat
    rw [hcc] at hcv
    replace hnx := hide hnx
    replace hcc := hide hcc
    replace hhv := hide hhv
    replace hn := hide hn
    replace hqc := hide hqc
    replace hc := hide hc
    replace he := hide he
    replace hp := hide hp
    replace hat := hide hat
    go_enter Tryz.func196, Tryz.ntmps196
    go_wp2
    go_quiet (fail)
    go_wp2
    go_quiet (fail)
    go_upto_region 23 with (go_at_call 216; refine (hnx.out _).mono ?_; rintro e W2 ⟨rfl, h2, o2⟩; have e0 := h2.cell 0; have e1 := h2.cell 1; simp at e0 e1; replace h2 := hide h2; replace o2 := hide o2)
    go_quiet (fail)
    go_wp2
    go_ret
    exact ⟨rfl, h2.out, ((ho1.out _).trans o2.out).drewN _⟩
  · rw [hqc] at hq
    obtain ⟨t, ht⟩ := hq
    injection ht with ht
    rw [ht] at hc
    exact absurd hc (by decide)
  · rw [hqc] at hq
    obtain ⟨t, ht⟩ := hq
    injection ht with ht
    rw [ht] at hc
    exact absurd rfl hc.2.2.1
end Go.Proofs.YtbnbemacljjimaaGreatDoor

namespace Go.Proofs.YtbnbemacljjimaaGreatDoor
open Go.RowKit
set_option linter.unusedVariables false

set_option maxHeartbeats 1000000 in
set_option maxRecDepth 100000 in
theorem toldV_same (n : Nat) (w : World) (B : Nat) (r y : Value) (v : JV) (hr : ResAt w B n r v 0) (hy : JAt w B (n + 1) y v) (hs : Say (n + 1) v) (hB : B ≤ w.heap.size) :
    Calls Tryz.prog 40 #[r, y, .int .i64 0] w fun e w' => e = .returned (.bool true) ∧ Below w.heap.size w w' := by
  obtain ⟨c0, c1, c2, c3, c4, c5, rfl, hx⟩ := hr
  have hy' := hide hy
  obtain ⟨la, lc, ka, kc, va, vc, rfl, -⟩ := hy
  obtain ⟨W, hW⟩ : ∃ W, W = (w.alloc (.cells #[c0, c1, c2, c3, c4, c5, .int .i64 0] 35)).alloc (.cells #[.int .i64 v.kind, .int .i64 v.half, .string v.text, .slice la v.list.length lc, .slice ka v.keys.length kc, .slice va v.vals.length vc] 26) := ⟨_, rfl⟩
  have bW : Below w.heap.size w W := by rw [hW]; exact Below.alloc (Below.alloc (Below.refl _ _) (Nat.le_refl _) _) (by simp) _
  have hfr : ∀ p : Addr, p.block < B → W.cell? p = w.cell? p := fun p hp => bW.cell (by omega)
  have hBW := Nat.le_trans hB bW.size
  have hc := hide (same_any (n + 1) W B _ _ v (JAt.keep hfr (Nat.le_refl _) _ _ _ hx) (JAt.keep hfr (Nat.le_refl _) _ _ _ hy'.out) hs hBW)
  replace bW := hide bW
  clear hfr hs hx hy'
  go_enter Tryz.func40, Tryz.ntmps40
  go_wp2_with fail
  rw [← hW]
  clear hW
  refine hc.out.mono ?_
  rintro e W2 ⟨rfl, hb2⟩
  replace hb2 := hide (bW.out.trans (hb2.mono bW.out.size))
  go_wp2
  go_ret
  exact ⟨rfl, hb2.out⟩

set_option maxHeartbeats 1000000 in
set_option maxRecDepth 100000 in
theorem toldV_raise (n : Nat) (w : World) (B : Nat) (r : Value) (v : JV) (c0 c1 c2 c3 c4 c5 : Value) (hr : ResAt w B n r v 1) :
    Calls Tryz.prog 40 #[r, .agg #[c0, c1, c2, c3, c4, c5], .int .i64 1] w fun e w' => e = .returned (.bool true) ∧ Below w.heap.size w w' := by
  obtain ⟨d0, d1, d2, d3, d4, d5, rfl, -⟩ := hr
  go_enter Tryz.func40, Tryz.ntmps40
  go_wp2
  go_ret
  exact ⟨rfl, Below.alloc (Below.alloc (Below.refl _ _) (Nat.le_refl _) _) (by simp) _⟩

end Go.Proofs.YtbnbemacljjimaaGreatDoor
