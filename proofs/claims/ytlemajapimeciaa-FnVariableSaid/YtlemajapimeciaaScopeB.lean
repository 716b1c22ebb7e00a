/- What the machine finds: a variable of a scope, looked for along the chain of scopes. -/
import Derived.Test.YtlemajapimeciaaScopeA
namespace Go.Proofs.Ytlemajapimeciaa
open Go.RowKit

set_option maxHeartbeats 1000000 in
theorem zzScope_any (w : World) (B s p sb eb : Nat) (fk : Value) (xs : List (Int × Int × Int)) (id off outer : Int) (he : Blk w eb 57 (envCells s p sb fk)) (h : ScopeSt w B sb xs) (hB : B ≤ w.heap.size) (hsB : B ≤ sb) (hlen : xs.length ≤ 100) :
    Calls Try.prog 9 #[.pointer (some ⟨eb, 0, none⟩), .int .i64 id, .int .i64 off, .int .i64 outer] w fun e w' =>
      e = .returned (.tuple #[]) ∧ ScopeSt w' B sb (xs ++ [(id, off, outer)]) ∧ Below B w w' ∧ Keeps 72 74 w w' := by
  have c3 := he.cell 3
  simp [envCells] at c3
  go_enter Try.func9, Try.ntmps9
  go_wp2_with (go_at_call 21; refine (scPush_any _ B sb xs id off outer h hB hsB hlen).mono ?_; rintro e w' ⟨rfl, hst, hbel, hk⟩)
  go_end0
  exact ⟨rfl, hst, hbel, hk⟩

/-- The scope with a number, looked for from place i outwards. -/
def chase (xs : List (Int × Int × Int)) (id : Int) : Nat → Int → Option (Int × Int × Int)
  | 0, _ => none
  | f + 1, i => if i < 0 then none else match xs[i.toNat]? with
    | none => none
    | some x => if x.1 = id then some x else chase xs id f x.2.2

theorem scCells_at : ∀ (xs : List (Int × Int × Int)) (k i : Nat) (x : Int × Int × Int), xs[i]? = some x →
    (scCells k xs)[i * 6]? = some (.int .i64 x.1) ∧ (scCells k xs)[i * 6 + 1]? = some (.int .i64 x.2.1) ∧ (scCells k xs)[i * 6 + 2]? = some (.int .i64 0) ∧ (scCells k xs)[i * 6 + 3]? = some (.int .i64 0) ∧ (scCells k xs)[i * 6 + 4]? = some (.int .i64 x.2.2)
  | [], _, _, _, h => by simp at h
  | y :: r, k, 0, x, h => by
    simp at h; subst h
    simp [scCells]
  | y :: r, k, i + 1, x, h => by
    have := scCells_at r (k + 1) i x (by simpa using h)
    simp only [scCells]
    rw [show (i + 1) * 6 = i * 6 + 6 by omega]
    exact this

set_option maxHeartbeats 1000000 in
theorem index_any (w : World) (B s p sb eb : Nat) (fk : Value) (xs : List (Int × Int × Int)) (id k : Int) (x : Int × Int × Int) (he : Blk w eb 57 (envCells s p sb fk)) (h : ScopeSt w B sb xs)
    (hlen : xs.length ≤ 100) (hout : ∀ (i : Nat) y, xs[i]? = some y → y.2.2 < i) (hx : chase xs id xs.length ((xs.length : Int) - 1) = some x) :
    Calls Try.prog 22 #[.pointer (some ⟨eb, 0, none⟩), .agg #[.int .i64 id, .int .i64 k]] w fun e w' => e = .returned (.int .i64 (wrap64 (x.2.1 + k))) ∧ Below w.heap.size w w' := by
  obtain ⟨v, hblk, hown⟩ := h
  obtain ⟨ao, cap, rfl⟩ := own_slice hown
  have hes := he.lt
  have hbs := hblk.lt
  have c3 := he.cell 3
  simp [envCells] at c3
  have c0 := hblk.cell 0
  have c1 := hblk.cell 1
  simp at c0 c1
  have hpos : 0 < xs.length := by
    rcases xs with _ | ⟨y, r⟩
    · simp [chase] at hx
    · simp
  obtain ⟨g, cap', hv, hBg, hgl⟩ := hown.form hpos
  obtain ⟨rfl, rfl⟩ : ao = some ⟨g, 0, none⟩ ∧ cap = cap' := by injection hv; exact ⟨by assumption, by assumption⟩
  have hcell : ∀ (j : Nat) y, xs[j]? = some y → w.cell? ⟨g, j * 6, none⟩ = some (.int .i64 y.1) ∧ w.cell? ⟨g, j * 6 + 1, none⟩ = some (.int .i64 y.2.1) ∧ w.cell? ⟨g, j * 6 + 2, none⟩ = some (.int .i64 0) ∧ w.cell? ⟨g, j * 6 + 3, none⟩ = some (.int .i64 0) ∧ w.cell? ⟨g, j * 6 + 4, none⟩ = some (.int .i64 y.2.2) := by
    intro j y hj
    have hjl : j < xs.length := (List.getElem?_eq_some_iff.1 hj).1
    obtain ⟨a0, a1, a2, a3, a4⟩ := scCells_at xs 0 j y hj
    refine ⟨?_, ?_, ?_, ?_, ?_⟩ <;> (rw [hown.cellAt _ (by omega)]; assumption)
  have HC := Lib.hid hcell
  have HX := Lib.hid hx
  have HO := Lib.hid hout
  clear hcell hx hout hv
  go_enter Try.func22, Try.ntmps22
  go_wp2
  go_region
  go_wp2
  go_loopw [6] (fun i wr => ∃ f i', i = .int .i64 i' ∧ chase xs id f i' = some x ∧ i' + 1 ≤ f ∧ i' < xs.length ∧ Below w.heap.size w wr ∧ wr.cell? ⟨w.heap.size, 1, none⟩ = some (.int .i64 k) ∧ w.heap.size < wr.heap.size) (fun i _ => (intOf i + 1).toNat)
  case atStart => exact ⟨xs.length, _, rfl, HX.out, by omega, by omega, ((Below.refl _ _).alloc (Nat.le_refl _) _).drew, by simp, by simp⟩
  case round =>
    obtain ⟨f, i, rfl, hch, hif, hil, hbw, hbox, hsz⟩ := hrel
    obtain ⟨f', rfl⟩ : ∃ f', f = f' + 1 := by
      cases f with
      | zero => simp [chase] at hch
      | succ f => exact ⟨f, rfl⟩
    have hi0 : 0 ≤ i := by
      rcases Int.lt_or_le i 0 with hneg | hp
      · simp [chase, hneg] at hch
      · exact hp
    obtain ⟨j, rfl⟩ : ∃ j : Nat, i = j := ⟨i.toNat, by omega⟩
    have hjl : j < xs.length := by omega
    obtain ⟨y, hy⟩ : ∃ y, xs[j]? = some y := ⟨_, List.getElem?_eq_getElem hjl⟩
    obtain ⟨a0, a1, a2, a3, a4⟩ := HC.out j y hy
    have b0 := (hbw.cell (p := ⟨g, j * 6, none⟩) hgl).trans a0
    have b1 := (hbw.cell (p := ⟨g, j * 6 + 1, none⟩) hgl).trans a1
    have b2 := (hbw.cell (p := ⟨g, j * 6 + 2, none⟩) hgl).trans a2
    have b3 := (hbw.cell (p := ⟨g, j * 6 + 3, none⟩) hgl).trans a3
    have b4 := (hbw.cell (p := ⟨g, j * 6 + 4, none⟩) hgl).trans a4
    have d3 := (hbw.cell (p := ⟨eb, 3, none⟩) hes).trans c3
    have d0 := (hbw.cell (p := ⟨sb, 0, none⟩) hbs).trans c0
    have hnext : chase xs id (f' + 1) (j : Int) = if y.1 = id then some y else chase xs id f' y.2.2 := by
      simp only [chase]; rw [if_neg (by omega)]; simp [hy]
    rw [hnext] at hch
    have HN := Lib.hid hch
    clear hch hnext a0 a1 a2 a3 a4
    have hyo := HO.out j y hy
    have HY := Lib.hid hy
    clear hy
    by_cases hid : y.1 = id
    · have hyx : y = x := by have := HN.out; rw [if_pos hid] at this; exact Option.some.inj this
      subst hyx
      go_wp2
      go_ret
      exact ⟨rfl, (hbw.alloc hbw.size _)⟩
    · have HC2 : Hid (chase xs id f' y.2.2 = some x) := by have := HN.out; rw [if_neg hid] at this; exact this
      go_wp2
      go_roundw
      case rel => exact ⟨f', _, rfl, HC2.out, by omega, by omega, hbw.alloc hbw.size _, by rw [World.cell?_alloc_past _ _ _ hsz]; exact hbox, by simp; omega⟩
      case measure => simp [intOf]; omega

set_option maxHeartbeats 1000000 in
theorem zzVariable_any (w : World) (B s p sb eb : Nat) (fk : Value) (xs : List (Int × Int × Int)) (id k : Int) (x : Int × Int × Int) (he : Blk w eb 57 (envCells s p sb fk)) (h : ScopeSt w B sb xs)
    (hlen : xs.length ≤ 100) (hout : ∀ (i : Nat) y, xs[i]? = some y → y.2.2 < i) (hx : chase xs id xs.length ((xs.length : Int) - 1) = some x) :
    Calls Try.prog 10 #[.pointer (some ⟨eb, 0, none⟩), .int .i64 id, .int .i64 k] w fun e w' => e = .returned (.int .i64 (wrap64 (x.2.1 + k))) ∧ Below w.heap.size w w' := by
  have HX := Lib.hid hx
  have HO := Lib.hid hout
  clear hx hout
  go_enter Try.func10, Try.ntmps10
  go_wp2_with (go_at_call 22; refine (index_any _ B s p sb eb fk xs id k x he h hlen HO.out HX.out).mono ?_; rintro e w' ⟨rfl, hbel⟩)
  go_ret
  exact ⟨rfl, hbel⟩
end Go.Proofs.Ytlemajapimeciaa
