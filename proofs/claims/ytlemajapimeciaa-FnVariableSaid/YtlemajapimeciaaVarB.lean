/- What the thin package's look-up of a variable gives, where the scope is found: its offset and the variable's number. -/
import Derived.Test.YtlemajapimeciaaVarA
namespace Go.Proofs.Ytlemajapimeciaa
open Go.RowKit

theorem take_snoc' {α : Type} (xs : List α) (j : Nat) (y : α) (h : xs[j]? = some y) : xs.take (j + 1) = xs.take j ++ [y] := by
  rw [List.take_add_one, h]; rfl

theorem scopeSt_fresh {w w' : World} (h : EnvMade w w') : ScopeSt w' w.heap.size (w.heap.size + 2) [] := by
  obtain ⟨_, _, h2, _⟩ := h
  exact ⟨_, h2, World.ownsRow_nil _ _ _ _⟩

theorem scopeSt_alloc {w : World} {B sb : Nat} {xs : List (Int × Int × Int)} (h : ScopeSt w B sb xs) (o : Obj) : ScopeSt (w.alloc o) B sb xs := by
  obtain ⟨v, hb, ho⟩ := h
  exact ⟨v, hb.alloc o, ho.alloc o⟩

set_option maxHeartbeats 1000000 in
theorem variable_any (w : World) (b o cap : Nat) (xs : List (Int × Int × Int)) (id k : Int) (x : Int × Int × Int) (hl : ScList w w.heap.size b o xs)
    (hlen : xs.length ≤ 100) (hout : ∀ (i : Nat) y, xs[i]? = some y → y.2.2 < i) (hx : chase xs id xs.length ((xs.length : Int) - 1) = some x) :
    Calls Try.prog 5 #[.slice (some ⟨b, o, none⟩) xs.length cap, .int .i64 id, .int .i64 k] w fun e w' => e = .returned (.int .i64 (wrap64 (x.2.1 + k))) ∧ Below w.heap.size w w' := by
  have HX := Lib.hid hx
  have HO := Lib.hid hout
  have HL := Lib.hid hl
  have hblt := hl.lt
  clear hx hout hl
  go_enter Try.func5, Try.ntmps5
  go_wp2_with (first
    | (go_at_call 7; refine (found_any _ b o cap xs id x HL.out hlen HO.out HX.out).mono ?_; rintro e w1 ⟨rfl, hb1⟩)
    | (go_at_call 8; refine (zzNewEnv_any _).mono ?_; rintro e w2 ⟨rfl, hm⟩))
  have hst := scopeSt_fresh hm
  obtain ⟨_, _, _, hev, hb2, hsz2⟩ := hm
  have hb12 : Below w.heap.size w w2 := hb1.trans (hb2.mono hb1.size)
  have hs1 := hb1.size
  go_loopw [17] (fun i wr => ∃ j : Nat, i = .int .i64 j ∧ j ≤ xs.length ∧ Below w.heap.size w wr ∧ w1.heap.size ≤ wr.heap.size ∧ Blk wr (w1.heap.size + 3) 57 (envCells w1.heap.size (w1.heap.size + 1) (w1.heap.size + 2) (.slice none 0 0)) ∧ ScopeSt wr w1.heap.size (w1.heap.size + 2) (xs.take j)) (fun i _ => xs.length - (intOf i).toNat)
  case atStart => exact ⟨0, rfl, Nat.zero_le _, hb12, hb2.size, hev, hst⟩
  case round =>
    obtain ⟨j, rfl, hj, hbw, hsw, hew, hsc⟩ := hrel
    by_cases hjl : j < xs.length
    · obtain ⟨y, hy⟩ : ∃ y, xs[j]? = some y := ⟨_, List.getElem?_eq_getElem hjl⟩
      obtain ⟨a0, a1, a2⟩ := (HL.out.below hbw (Nat.le_refl _)).at_ j y hy
      have HT := Lib.hid (take_snoc' xs j y hy)
      have HY := Lib.hid hy
      clear hy
      have hsc' := fun o => scopeSt_alloc hsc o
      have hsw' : ∀ o, w1.heap.size ≤ (wr.alloc o).heap.size := fun o => by simp; omega
      have htl : (xs.take j).length ≤ 100 := by rw [List.length_take]; omega
      go_wp2_with (go_at_call 9; refine (zzScope_any _ w1.heap.size _ _ _ _ _ (xs.take j) y.1 y.2.1 y.2.2 (hew.alloc _) (hsc' _) (hsw' _) (Nat.le_add_right _ _) htl).mono ?_; rintro e w3 ⟨rfl, hs3, hb3, hk3⟩)
      go_roundw
      case rel => exact ⟨j + 1, by go_num, by omega, (hbw.alloc hbw.size _).trans (hb3.mono hs1), Nat.le_trans (hsw' _) hb3.size, hk3 _ _ _ (by decide) (by decide) (hew.alloc _), by rw [HT.out]; exact hs3⟩
      case measure => simp [intOf]; omega
    · have e : xs.take j = xs := List.take_of_length_le (by omega)
      rw [e] at hsc
      clear e
      go_wp2_with (go_at_call 10; refine (zzVariable_any _ w1.heap.size _ _ _ _ _ xs id k x hew hsc hlen HO.out HX.out).mono ?_; rintro e w3 ⟨rfl, hb3⟩)
      go_ret
      exact ⟨rfl, hbw.trans (hb3.mono (by omega))⟩
end Go.Proofs.Ytlemajapimeciaa
