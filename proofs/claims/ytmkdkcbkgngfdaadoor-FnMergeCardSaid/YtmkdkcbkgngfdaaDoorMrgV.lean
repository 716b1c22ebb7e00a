/- Rows of texts and of values, as lists of cells. -/
import Derived.Test.YtmkdkcbkgngfdaaDoorMrgW
import Derived.Test.YtmkdkcbkgngfdaaDoorMrgS
namespace Go.Proofs.YtmkdkcbkgngfdaaDoor
open Go.RowKit Go.Maps Go.Sort
set_option linter.unusedVariables false

/-- A value's six cells. -/
abbrev Sx := Value × Value × Value × Value × Value × Value
def aggS : Sx → Value | (a, b, c, d, e, f) => .agg #[a, b, c, d, e, f]
def fl : List Sx → List Value
  | [] => []
  | (a, b, c, d, e, f) :: r => a :: b :: c :: d :: e :: f :: fl r

theorem fl_append : ∀ (a b : List Sx), fl (a ++ b) = fl a ++ fl b
  | [], b => rfl
  | (c0, c1, c2, c3, c4, c5) :: r, b => by simp [fl, fl_append r b]
theorem fl_length : ∀ a : List Sx, (fl a).length = a.length * 6
  | [] => rfl
  | (c0, c1, c2, c3, c4, c5) :: r => by simp only [fl, List.length_cons, fl_length r]; omega
theorem fl_take : ∀ (a : List Sx) (k : Nat), (fl a).take (k * 6) = fl (a.take k)
  | [], k => by simp [fl]
  | x :: r, 0 => by simp [fl]
  | (c0, c1, c2, c3, c4, c5) :: r, k + 1 => by
    rw [show (k + 1) * 6 = k * 6 + 1 + 1 + 1 + 1 + 1 + 1 by omega]
    simp only [fl, List.take_succ_cons, fl_take r k]
theorem fl_drop : ∀ (a : List Sx) (k : Nat), (fl a).drop (k * 6) = fl (a.drop k)
  | [], k => by simp [fl]
  | x :: r, 0 => by simp
  | (c0, c1, c2, c3, c4, c5) :: r, k + 1 => by
    rw [show (k + 1) * 6 = k * 6 + 1 + 1 + 1 + 1 + 1 + 1 by omega]
    simp only [fl, List.drop_succ_cons, fl_drop r k]
theorem fl_get : ∀ (a : List Sx) (i : Nat) (c0 c1 c2 c3 c4 c5 : Value), a[i]? = some (c0, c1, c2, c3, c4, c5) →
    (fl a)[i * 6]? = some c0 ∧ (fl a)[i * 6 + 1]? = some c1 ∧ (fl a)[i * 6 + 2]? = some c2 ∧ (fl a)[i * 6 + 3]? = some c3 ∧ (fl a)[i * 6 + 4]? = some c4 ∧ (fl a)[i * 6 + 5]? = some c5
  | [], i, _, _, _, _, _, _, h => by simp at h
  | x :: r, 0, c0, c1, c2, c3, c4, c5, h => by
    simp at h
    subst h
    exact ⟨rfl, rfl, rfl, rfl, rfl, rfl⟩
  | (d0, d1, d2, d3, d4, d5) :: r, i + 1, c0, c1, c2, c3, c4, c5, h => by
    obtain ⟨h0, h1, h2, h3, h4, h5⟩ := fl_get r i c0 c1 c2 c3 c4 c5 (by simpa using h)
    have e : ∀ j, (fl ((d0, d1, d2, d3, d4, d5) :: r))[(i + 1) * 6 + j]? = (fl r)[i * 6 + j]? := fun j => by
      rw [show (i + 1) * 6 + j = i * 6 + j + 1 + 1 + 1 + 1 + 1 + 1 by omega]
      simp [fl]
    exact ⟨(e 0).trans h0, (e 1).trans h1, (e 2).trans h2, (e 3).trans h3, (e 4).trans h4, (e 5).trans h5⟩

/-- Rows of six cells that are values. -/
def SxR (R : Value → JV → Prop) (rs : List Sx) (ys : List JV) : Prop := rs.length = ys.length ∧ ∀ (i : Nat) y, ys[i]? = some y → ∃ r, rs[i]? = some r ∧ R (aggS r) y

section
variable {R R' : Value → JV → Prop}
theorem SxR.mono {rs : List Sx} {ys : List JV} (h : SxR R rs ys) (hR : ∀ x y, R x y → R' x y) : SxR R' rs ys := ⟨h.1, fun i y hy => by
  obtain ⟨r, h1, h2⟩ := h.2 i y hy
  exact ⟨r, h1, hR _ _ h2⟩⟩
theorem SxR.append {rs qs : List Sx} {ys zs : List JV} (h : SxR R rs ys) (h2 : SxR R qs zs) : SxR R (rs ++ qs) (ys ++ zs) := by
  refine ⟨by simp [h.1, h2.1], fun i y hy => ?_⟩
  rcases Nat.lt_or_ge i ys.length with hi | hi
  · rw [List.getElem?_append_left hi] at hy
    rw [List.getElem?_append_left (by rw [h.1]; exact hi)]
    exact h.2 i y hy
  · rw [List.getElem?_append_right hi] at hy
    rw [List.getElem?_append_right (by rw [h.1]; exact hi), h.1]
    exact h2.2 _ y hy
theorem SxR.take {rs : List Sx} {ys : List JV} (h : SxR R rs ys) (k : Nat) : SxR R (rs.take k) (ys.take k) := by
  refine ⟨by simp [h.1], fun i y hy => ?_⟩
  rw [List.getElem?_take] at hy ⊢
  split at hy
  · rename_i hi
    rw [if_pos hi]
    exact h.2 i y hy
  · cases hy
theorem SxR.drop {rs : List Sx} {ys : List JV} (h : SxR R rs ys) (k : Nat) : SxR R (rs.drop k) (ys.drop k) := by
  refine ⟨by simp [h.1], fun i y hy => ?_⟩
  rw [List.getElem?_drop] at hy ⊢
  exact h.2 _ y hy
theorem SxR.one {r : Sx} {y : JV} (h : R (aggS r) y) : SxR R [r] [y] := by
  refine ⟨rfl, fun i z hz => ?_⟩
  rcases i with _ | i
  · simp at hz
    subst hz
    exact ⟨r, rfl, h⟩
  · simp at hz

theorem mem_fl : ∀ (a : List Sx) (z : Value), z ∈ fl a → ∃ (i : Nat) (c0 c1 c2 c3 c4 c5 : Value), a[i]? = some (c0, c1, c2, c3, c4, c5) ∧ (z = c0 ∨ z = c1 ∨ z = c2 ∨ z = c3 ∨ z = c4 ∨ z = c5)
  | [], z, h => by simp [fl] at h
  | (d0, d1, d2, d3, d4, d5) :: r, z, h => by
    simp only [fl, List.mem_cons] at h
    rcases h with h | h | h | h | h | h | h
    · exact ⟨0, d0, d1, d2, d3, d4, d5, rfl, Or.inl h⟩
    · exact ⟨0, d0, d1, d2, d3, d4, d5, rfl, Or.inr (Or.inl h)⟩
    · exact ⟨0, d0, d1, d2, d3, d4, d5, rfl, Or.inr (Or.inr (Or.inl h))⟩
    · exact ⟨0, d0, d1, d2, d3, d4, d5, rfl, Or.inr (Or.inr (Or.inr (Or.inl h)))⟩
    · exact ⟨0, d0, d1, d2, d3, d4, d5, rfl, Or.inr (Or.inr (Or.inr (Or.inr (Or.inl h))))⟩
    · exact ⟨0, d0, d1, d2, d3, d4, d5, rfl, Or.inr (Or.inr (Or.inr (Or.inr (Or.inr h))))⟩
    · obtain ⟨i, c0, c1, c2, c3, c4, c5, h1, h2⟩ := mem_fl r z h
      exact ⟨i + 1, c0, c1, c2, c3, c4, c5, by simpa using h1, h2⟩

theorem fl_one {n : Nat} {rs : List Sx} {ys : List JV} (h : ∀ (i : Nat) y, ys[i]? = some y → ∃ r, rs[i]? = some r ∧ ∃ w B, JAt w B (n + 1) (aggS r) y) (hl : rs.length = ys.length) : ∀ z ∈ fl rs, z.oneCell' = true := by
  intro z hz
  obtain ⟨i, c0, c1, c2, c3, c4, c5, hi, hor⟩ := mem_fl rs z hz
  have hil := (List.getElem?_eq_some_iff.1 hi).1
  obtain ⟨y, hy⟩ : ∃ y, ys[i]? = some y := ⟨_, List.getElem?_eq_getElem (by omega)⟩
  obtain ⟨r, hr, w, B, hj⟩ := h i y hy
  rw [hi] at hr
  cases hr
  obtain ⟨la, lc, ka, kc, va, vc, e, -⟩ := hj
  simp [aggS] at e
  obtain ⟨rfl, rfl, rfl, rfl, rfl, rfl⟩ := e
  rcases hor with rfl | rfl | rfl | rfl | rfl | rfl <;> rfl

/-- A row of values is such a list, which can be read. -/
theorem VecAt.list {w : World} {B : Nat} {A : Option Addr} {ys : List JV} (h : VecAt R w B A ys) : ∃ rs, SxR R rs ys ∧ Reads w B 6 A ys.length (fl rs) := by
  rcases Nat.eq_zero_or_pos ys.length with h0 | h0
  · have : ys = [] := List.eq_nil_of_length_eq_zero h0
    subst this
    exact ⟨[], ⟨rfl, fun i y hy => by simp at hy⟩, rfl, fun h => absurd h (by simp)⟩
  · obtain ⟨b, o, rfl, hb, hc⟩ := h h0
    have : ∀ n, n ≤ ys.length → ∃ rs : List Sx, rs.length = n ∧ (∀ (i : Nat) y, i < n → ys[i]? = some y → ∃ r, rs[i]? = some r ∧ R (aggS r) y) ∧ ∀ j u, (fl rs)[j]? = some u → w.cell? ⟨b, o + j, none⟩ = some u := by
      intro n
      induction n with
      | zero => exact fun _ => ⟨[], rfl, fun i y hi => absurd hi (by omega), fun j u hu => by simp [fl] at hu⟩
      | succ n ih =>
        intro hn
        obtain ⟨rs, h1, h2, h3⟩ := ih (by omega)
        obtain ⟨y, hy⟩ : ∃ y, ys[n]? = some y := ⟨_, List.getElem?_eq_getElem (by omega)⟩
        obtain ⟨c0, c1, c2, c3, c4, c5, e0, e1, e2, e3, e4, e5, hr⟩ := hc n y hy
        refine ⟨rs ++ [(c0, c1, c2, c3, c4, c5)], by simp [h1], fun i z hi hz => ?_, fun j u hu => ?_⟩
        · rcases Nat.lt_or_ge i n with hlt | hge
          · rw [List.getElem?_append_left (by omega)]
            exact h2 i z hlt hz
          · obtain rfl : i = n := by omega
            rw [hy] at hz
            cases hz
            rw [List.getElem?_append_right (by omega), h1]
            simp
            exact hr
        · rw [fl_append] at hu
          have hlen : (fl rs).length = n * 6 := by rw [fl_length, h1]
          rcases Nat.lt_or_ge j (n * 6) with hlt | hge
          · rw [List.getElem?_append_left (by omega)] at hu
            exact h3 j u hu
          · rw [List.getElem?_append_right (by omega), hlen] at hu
            obtain ⟨d, rfl⟩ : ∃ d, j = n * 6 + d := ⟨j - n * 6, by omega⟩
            rw [Nat.add_sub_cancel_left] at hu
            have hd : d < 6 := by
              have := (List.getElem?_eq_some_iff.1 hu).1
              simpa [fl] using this
            rw [← Nat.add_assoc]
            rcases (by omega : d = 0 ∨ d = 1 ∨ d = 2 ∨ d = 3 ∨ d = 4 ∨ d = 5) with rfl | rfl | rfl | rfl | rfl | rfl <;> (simp [fl] at hu; subst hu; assumption)
    obtain ⟨rs, h1, h2, h3⟩ := this ys.length (Nat.le_refl _)
    refine ⟨rs, ⟨h1, fun i y hy => h2 i y (List.getElem?_eq_some_iff.1 hy).1 hy⟩, by rw [fl_length, h1], fun _ => ⟨_, rfl, hb, fun j u hu => ?_⟩⟩
    have := h3 j u hu
    unfold Addr.add
    split
    · rename_i hj
      have : j = 0 := by simpa using hj
      subst this
      exact h3 0 u hu
    · exact this

/-- A row that is owned, as a row of values. -/
theorem SxR.vec {w : World} {base B : Nat} {A : Option Addr} {c : Nat} {rs : List Sx} {ys : List JV} (h : SxR R rs ys) (ho : w.ownsRow base 26 6 (.slice A ys.length c) ys.length (fl rs)) (hB : w.heap.size ≤ B) : VecAt R w B A ys := by
  intro hl
  obtain ⟨g, cap, hv, hg, hlt⟩ := ho.form hl
  injection hv with hA
  subst hA
  refine ⟨g, 0, rfl, by omega, fun i y hy => ?_⟩
  obtain ⟨⟨c0, c1, c2, c3, c4, c5⟩, hr, hR⟩ := h.2 i y hy
  have hi := (List.getElem?_eq_some_iff.1 hy).1
  obtain ⟨e0, e1, e2, e3, e4, e5⟩ := fl_get rs i c0 c1 c2 c3 c4 c5 hr
  have hat : ∀ d u, d < 6 → (fl rs)[i * 6 + d]? = some u → w.cell? ⟨g, 0 + i * 6 + d, none⟩ = some u := fun d u hd hu => by
    rw [Nat.zero_add, ho.cellAt (i * 6 + d) (by omega)]
    exact hu
  exact ⟨c0, c1, c2, c3, c4, c5, hat 0 _ (by omega) e0, hat 1 _ (by omega) e1, hat 2 _ (by omega) e2, hat 3 _ (by omega) e3, hat 4 _ (by omega) e4, hat 5 _ (by omega) e5, hR⟩
end

theorem StrsAt.reads {w : World} {B : Nat} {A : Option Addr} {xs : List ByteArray} (h : StrsAt w B A xs) : Reads w B 1 A xs.length (xs.map Value.string) := by
  refine ⟨by simp, fun hn => ?_⟩
  obtain ⟨b, o, rfl, hb, hc⟩ := h.2 hn
  refine ⟨_, rfl, hb, fun j u hu => ?_⟩
  rw [List.getElem?_map] at hu
  obtain ⟨s, hs, rfl⟩ := Option.map_eq_some_iff.1 hu
  have := hc j s hs
  unfold Addr.add
  split
  · rename_i hj
    have : j = 0 := by simpa using hj
    subst this
    exact hc 0 s hs
  · exact this

theorem Reads.take {w : World} {B size n k : Nat} {A : Option Addr} {xs : List Value} (h : Reads w B size A n xs) (hk : k ≤ n) : Reads w B size A k (xs.take (k * size)) := by
  have hl : k * size ≤ n * size := Nat.mul_le_mul_right _ hk
  refine ⟨by rw [List.length_take, h.1]; omega, fun hp => ?_⟩
  obtain ⟨ad, e, hb, hc⟩ := h.2 (by omega)
  refine ⟨ad, e, hb, fun j u hu => ?_⟩
  rw [List.getElem?_take] at hu
  split at hu
  · exact hc j u hu
  · cases hu

/-- A row of texts that is owned. -/
theorem own_strs {w : World} {base B : Nat} {A : Option Addr} {c : Nat} {xs : List ByteArray} (ho : w.ownsRow base 9 1 (.slice A xs.length c) xs.length (xs.map Value.string)) (hB : w.heap.size ≤ B) (hs : ∀ s ∈ xs, s.size ≤ 9223372036854775807) : StrsAt w B A xs := by
  refine ⟨hs, fun hl => ?_⟩
  obtain ⟨g, cap, hv, hg, hlt⟩ := ho.form hl
  injection hv with hA
  subst hA
  refine ⟨g, 0, rfl, by omega, fun i s hi => ?_⟩
  have h1 := (List.getElem?_eq_some_iff.1 hi).1
  rw [Nat.zero_add, ho.cellAt i (by omega), List.getElem?_map, hi]
  rfl

theorem own_base {w : World} {b b' : Nat} {e : TypeId} {s n : Nat} {v : Value} {xs : List Value} (hb : b' ≤ b) (h : w.ownsRow b e s v n xs) : w.ownsRow b' e s v n xs := by
  obtain ⟨h1, h2⟩ := h
  refine ⟨h1, ?_⟩
  rcases h2 with h2 | ⟨g, cap, cur, r1, r2, r3⟩
  · exact Or.inl h2
  · exact Or.inr ⟨g, cap, cur, r1, by omega, r3⟩

theorem own_heap {w w' : World} {b : Nat} {e : TypeId} {s n : Nat} {v : Value} {xs : List Value} (h : w.ownsRow b e s v n xs) (hh : w'.heap = w.heap) : w'.ownsRow b e s v n xs := by
  unfold World.ownsRow at *
  rw [hh]
  exact h

theorem reads_heap {w w' : World} {B s n : Nat} {A : Option Addr} {xs : List Value} (h : Reads w B s A n xs) (hh : w'.heap = w.heap) : Reads w' B s A n xs :=
  h.keep (fun p hp => by simp [World.cell?, hh])

theorem blk_heap {w w' : World} {g : Nat} {t : TypeId} {cs : Array Value} (h : Blk w g t cs) (hh : w'.heap = w.heap) : Blk w' g t cs := by
  unfold Blk at *
  rw [hh]
  exact h

theorem slice_str (A : Option Addr) (n cap j : Nat) (hj : j ≤ n) (X : World) : (Instr.slice 24 (.slice A n cap) (some (.int .i64 j)) none none).run Tryd.prog X = .ok (.slice (if cap = j then A else A.map (·.add (j * 1))) (n - j) (cap - j)) X := by
  have hs : (sizeOf (Tryd.prog.elem 24)).run Tryd.prog X = .ok 1 X := by kernel_rfl
  rw [run_slice_l (P := Tryd.prog) X 24 A n cap (by kernel_rfl) .i64 j (by omega) (by omega), hs]
  rfl
theorem slice_val (A : Option Addr) (n cap j : Nat) (hj : j ≤ n) (X : World) : (Instr.slice 23 (.slice A n cap) (some (.int .i64 j)) none none).run Tryd.prog X = .ok (.slice (if cap = j then A else A.map (·.add (j * 6))) (n - j) (cap - j)) X := by
  have hs : (sizeOf (Tryd.prog.elem 23)).run Tryd.prog X = .ok 6 X := by kernel_rfl
  rw [run_slice_l (P := Tryd.prog) X 23 A n cap (by kernel_rfl) .i64 j (by omega) (by omega), hs]
  rfl

/-- A row that is owned, as a row of values whose blocks are among some. -/
theorem SxR.vecP {R : Value → JV → Prop} {w : World} {base : Nat} {P : Nat → Prop} {A : Option Addr} {c : Nat} {rs : List Sx} {ys : List JV} (h : SxR R rs ys) (ho : w.ownsRow base 26 6 (.slice A ys.length c) ys.length (fl rs)) (hP : ∀ b, base ≤ b → b < w.heap.size → P b) : VecP R w P A ys := by
  intro hl
  obtain ⟨g, cap, hv, hg, hlt⟩ := ho.form hl
  injection hv with hA
  subst hA
  refine ⟨g, 0, rfl, hP g hg hlt, fun i y hy => ?_⟩
  obtain ⟨⟨c0, c1, c2, c3, c4, c5⟩, hr, hR⟩ := h.2 i y hy
  have hi := (List.getElem?_eq_some_iff.1 hy).1
  obtain ⟨e0, e1, e2, e3, e4, e5⟩ := fl_get rs i c0 c1 c2 c3 c4 c5 hr
  have hat : ∀ d u, d < 6 → (fl rs)[i * 6 + d]? = some u → w.cell? ⟨g, 0 + i * 6 + d, none⟩ = some u := fun d u hd hu => by
    rw [Nat.zero_add, ho.cellAt (i * 6 + d) (by omega)]
    exact hu
  exact ⟨c0, c1, c2, c3, c4, c5, hat 0 _ (by omega) e0, hat 1 _ (by omega) e1, hat 2 _ (by omega) e2, hat 3 _ (by omega) e3, hat 4 _ (by omega) e4, hat 5 _ (by omega) e5, hR⟩

theorem own_strsP {w : World} {base : Nat} {P : Nat → Prop} {A : Option Addr} {c : Nat} {xs : List ByteArray} (ho : w.ownsRow base 9 1 (.slice A xs.length c) xs.length (xs.map Value.string)) (hP : ∀ b, base ≤ b → b < w.heap.size → P b) (hs : ∀ s ∈ xs, s.size ≤ 9223372036854775807) : StrsP w P A xs := by
  refine ⟨hs, fun hl => ?_⟩
  obtain ⟨g, cap, hv, hg, hlt⟩ := ho.form hl
  injection hv with hA
  subst hA
  refine ⟨g, 0, rfl, hP g hg hlt, fun i s hi => ?_⟩
  have h1 := (List.getElem?_eq_some_iff.1 hi).1
  rw [Nat.zero_add, ho.cellAt i (by omega), List.getElem?_map, hi]
  rfl

/-- What With hands back. -/
theorem with_end {W : World} {S n N : Nat} {P : Nat → Prop} {L : List (ByteArray × JV)} {A6 A8 : Option Addr} {c6 c8 : Nat} {rs : List Sx} (hN : N = L.length) (hk : W.ownsRow S 9 1 (.slice A6 N c6) N ((L.map (·.1)).map Value.string)) (h1 : N ≤ c6) (h2 : c6 ≤ 9223372036854775807)
    (hrs : SxR (JP W P (n + 1)) rs (L.map (·.2))) (hv : W.ownsRow S 26 6 (.slice A8 N c8) N (fl rs)) (h3 : N ≤ c8) (h4 : c8 ≤ 9223372036854775807) (hs : ∀ p ∈ L, p.1.size ≤ 9223372036854775807) (hP : ∀ b, S ≤ b → b < W.heap.size → P b) :
    JP W P (n + 2) (.agg #[.int .i64 6, .int .i64 0, .string ⟨#[]⟩, .slice none 0 0, .slice A6 N c6, .slice A8 N c8]) (mapJ L) := by
  subst hN
  refine ⟨none, 0, A6, c6, A8, c8, by simp [mapJ, JV.kind, JV.half, JV.text, JV.list, JV.keys, JV.vals], Nat.le_refl _, by simpa [mapJ, JV.keys] using h1, by simpa [mapJ, JV.vals] using h3, by decide, h2, h4, by show (⟨#[]⟩ : ByteArray).size ≤ 9223372036854775807; decide, by show (-9223372036854775808 : Int) ≤ 6 ∧ (6 : Int) ≤ 9223372036854775807; decide, by show (-9223372036854775808 : Int) ≤ 0 ∧ (0 : Int) ≤ 9223372036854775807; decide, fun h => absurd h (by show ¬ 0 < 0; omega), ?_, ?_⟩
  · have hl : (L.map (·.1)).length = L.length := by simp
    rw [← hl] at hk
    exact own_strsP hk hP (fun s hs' => by
      obtain ⟨p, hp, rfl⟩ := List.mem_map.1 hs'
      exact hs p hp)
  · have hl : (L.map (·.2)).length = L.length := by simp
    rw [← hl] at hv
    exact SxR.vecP hrs hv hP

theorem put_fst (v u : JV) (k : ByteArray) (hl : v.keys.length = v.vals.length) (jj : Nat) (hjj : jj = plc v.keys k + (if hit v.keys k = true then 1 else 0)) :
    (put (prs v) k u).map (·.1) = v.keys.take (plc v.keys k) ++ [k] ++ v.keys.drop jj ∧ (put (prs v) k u).map (·.2) = v.vals.take (plc v.keys k) ++ [u] ++ v.vals.drop jj := by
  obtain ⟨z1, z2⟩ := zip_fst v.keys v.vals hl
  have e1 : (prs v).map (·.1) = v.keys := z1
  have e2 : (prs v).map (·.2) = v.vals := z2
  rw [put_eq k u (prs v), e1, ← hjj]
  constructor
  · rw [List.map_append, List.map_take, List.map_cons, List.map_drop, e1]
    simp
  · rw [List.map_append, List.map_take, List.map_cons, List.map_drop, e2]
    simp
end Go.Proofs.YtmkdkcbkgngfdaaDoor
