/- The statement about a variable of a scope: the law's own run, for every list of scopes. -/
import Derived.Test.YtlemajapimeciaaVarB
namespace Go.Proofs.Ytlemajapimeciaa
open Go.RowKit

theorem wrap_sum {a k : Int} (h0 : 0 ≤ a) (h1 : a ≤ 1073741824) (h2 : 0 ≤ k) (h3 : k ≤ 1073741824) : wrap64 (a + k) = a + k := by unfold wrap64; omega

theorem wrap_sum' {a k : Int} (h0 : 0 ≤ a) (h1 : a ≤ 1073741824) (h2 : 0 ≤ k) (h3 : k ≤ 1073741824) : IntKind.i64.wrap (a + k) = a + k := by
  rw [IntKind.wrap_i64]; omega

theorem variable_any' (w : World) (b o cap : Nat) (xs : List (Int × Int × Int)) (id k : Int) (x : Int × Int × Int) (hl : ScList w w.heap.size b o xs)
    (hlen : xs.length ≤ 100) (hout : ∀ (i : Nat) y, xs[i]? = some y → y.2.2 < i) (hx : chase xs id xs.length ((xs.length : Int) - 1) = some x) (hw : wrap64 (x.2.1 + k) = x.2.1 + k) :
    Calls Try.prog 5 #[.slice (some ⟨b, o, none⟩) xs.length cap, .int .i64 id, .int .i64 k] w fun e w' => e = .returned (.int .i64 (x.2.1 + k)) ∧ Below w.heap.size w w' := by
  have h := variable_any w b o cap xs id k x hl hlen hout hx
  rwa [hw] at h

set_option maxHeartbeats 2000000 in
theorem lawVar_any (w : World) (ao : Option Addr) (cap : Nat) (xs : List (Int × Int × Int)) (id k : Int) (hm : xs.length ≤ 9223372036854775807)
    (hl : 0 < xs.length → ∃ b o, ao = some ⟨b, o, none⟩ ∧ ScList w w.heap.size b o xs) :
    Calls Try.prog 3 #[.slice ao xs.length cap, .int .i64 id, .int .i64 k] w fun e w' => e = .returned (.bool true) ∧ Below w.heap.size w w' := by
  by_cases hbig : 2147483647 < xs.length
  · go_enter Try.func3, Try.ntmps3
    go_wp2
    go_ret
    exact ⟨rfl, Below.refl _ _⟩
  by_cases h0 : xs.length = 0
  · have H0 : ((xs.length : Int) == 0) = true := by simp [h0]
    clear h0
    go_enter Try.func3, Try.ntmps3
    go_wp2
    go_ret
    exact ⟨rfl, Below.refl _ _⟩
  have H0 : ((xs.length : Int) == 0) = false := by simpa using h0
  have hpos : 0 < xs.length := by omega
  by_cases h100 : 100 < xs.length
  · go_enter Try.func3, Try.ntmps3
    go_wp2
    go_ret
    exact ⟨rfl, Below.refl _ _⟩
  by_cases hk0 : k < 0
  · go_enter Try.func3, Try.ntmps3
    go_wp2
    go_ret
    exact ⟨rfl, Below.refl _ _⟩
  by_cases hk1 : 1073741824 < k
  · go_enter Try.func3, Try.ntmps3
    go_wp2
    go_ret
    exact ⟨rfl, Below.refl _ _⟩
  obtain ⟨b, o, rfl, hL⟩ := hl hpos
  have HL := Lib.hid hL
  have hblt := hL.lt
  clear hL hl
  go_enter Try.func3, Try.ntmps3
  go_wp2
  go_loopw [31] (fun i wr => ∃ j : Nat, i = .int .i64 j ∧ j ≤ xs.length ∧ Below w.heap.size w wr ∧ ∀ (t : Nat) y, t < j → xs[t]? = some y → y.2.2 < t ∧ 0 ≤ y.2.1 ∧ y.2.1 ≤ 1073741824) (fun i _ => xs.length - (intOf i).toNat)
  case atStart => exact ⟨0, rfl, Nat.zero_le _, Below.refl _ _, fun t y ht => by omega⟩
  case round =>
    obtain ⟨j, rfl, hj, hbw, hpre⟩ := hrel
    have HP := Lib.hid hpre
    clear hpre
    by_cases hjl : j < xs.length
    · obtain ⟨y, hy⟩ : ∃ y, xs[j]? = some y := ⟨_, List.getElem?_eq_getElem hjl⟩
      obtain ⟨a0, a1, a2⟩ := (HL.out.below hbw (Nat.le_refl _)).at_ j y hy
      have HY := Lib.hid hy
      clear hy
      by_cases g1 : (j : Int) ≤ y.2.2
      · go_wp2
        go_ret
        exact ⟨rfl, hbw.alloc hbw.size _⟩
      by_cases g2 : y.2.1 < 0
      · go_wp2
        go_ret
        exact ⟨rfl, hbw.alloc hbw.size _⟩
      by_cases g3 : 1073741824 < y.2.1
      · go_wp2
        go_ret
        exact ⟨rfl, hbw.alloc hbw.size _⟩
      go_wp2
      go_roundw
      case rel => 
        refine ⟨j + 1, by go_num, by omega, hbw.alloc hbw.size _, fun t z ht hz => ?_⟩
        by_cases htj : t = j
        · subst htj
          have : z = y := by have := HY.out; rw [this] at hz; exact (Option.some.inj hz).symm
          subst this
          omega
        · exact HP.out t z (by omega) hz
      case measure => simp [intOf]; omega
    · have hje : j = xs.length := by omega
      have HA : Hid (∀ (t : Nat) y, xs[t]? = some y → y.2.2 < t ∧ 0 ≤ y.2.1 ∧ y.2.1 ≤ 1073741824) := fun t y hy => HP.out t y (by have := (List.getElem?_eq_some_iff.1 hy).1; omega) hy
      clear HP hje
      go_wp2
      go_loopw [9] (fun i wr => ∃ (f : Nat) (i' : Int), i = .int .i64 i' ∧ chase xs id xs.length ((xs.length : Int) - 1) = chase xs id f i' ∧ i' + 1 ≤ f ∧ i' < xs.length ∧ Below w.heap.size w wr) (fun i _ => (intOf i + 1).toNat)
      case atStart => exact ⟨xs.length, _, rfl, rfl, by omega, by omega, hbw⟩
      case round =>
        obtain ⟨f, i, rfl, hch, hif, hil, hbw2⟩ := hrel
        have HC := Lib.hid hch
        clear hch
        by_cases hi0 : i < 0
        · go_wp2
          go_ret
          exact ⟨rfl, hbw2⟩
        obtain ⟨j', rfl⟩ : ∃ j : Nat, i = j := ⟨i.toNat, by omega⟩
        obtain ⟨f', rfl⟩ : ∃ f', f = f' + 1 := ⟨f - 1, by omega⟩
        have hjl' : j' < xs.length := by omega
        obtain ⟨y, hy⟩ : ∃ y, xs[j']? = some y := ⟨_, List.getElem?_eq_getElem hjl'⟩
        obtain ⟨a0, a1, a2⟩ := (HL.out.below hbw2 (Nat.le_refl _)).at_ j' y hy
        obtain ⟨q1, q2, q3⟩ := HA.out j' y hy
        have HY := Lib.hid hy
        clear hy
        by_cases hid : y.1 = id
        · have HX : Hid (chase xs id xs.length ((xs.length : Int) - 1) = some y) := by
            show chase xs id xs.length ((xs.length : Int) - 1) = some y
            rw [HC.out]; simp only [chase]; rw [if_neg (by omega)]
            have := HY.out
            simp [this, hid]
          have HO : Hid (∀ (i : Nat) z, xs[i]? = some z → z.2.2 < i) := fun t z hz => (HA.out t z hz).1
          go_wp2
          have hL2 : ScList wr.drew wr.drew.heap.size b o xs := by
            have h := HL.out.below hbw2.drew (Nat.le_refl _)
            exact ⟨Nat.lt_of_lt_of_le h.lt hbw2.size, h.at_⟩
          have HL2 := Lib.hid hL2
          clear hL2
          have hl100 : xs.length ≤ 100 := by omega
          have hs2 : b < wr.drew.heap.size := Nat.lt_of_lt_of_le hblt hbw2.size
          have HW := Lib.hid (wrap_sum q2 q3 (by omega) (by omega) : wrap64 (y.2.1 + k) = y.2.1 + k)
          go_region_with (go_at_call 5; refine (variable_any' _ b o cap xs id k y HL2.out hl100 HO.out HX.out HW.out).mono ?_; rintro e w' ⟨rfl, hb⟩; have b1 := (hb.cell (p := ⟨b, o + j' * 3 + 1, none⟩) hs2).trans a1)
          all_goals
            go_wp2
            go_ret
            exact ⟨by first | rfl | (simp [Act.put]; exact (wrap_sum' q2 q3 (by omega) (by omega)).symm), hbw2.drew.trans (hb.mono hbw2.size)⟩
        · have HC2 : Hid (chase xs id xs.length ((xs.length : Int) - 1) = chase xs id f' y.2.2) := by
            show chase xs id xs.length ((xs.length : Int) - 1) = chase xs id f' y.2.2
            rw [HC.out]; simp only [chase]; rw [if_neg (by omega)]
            have := HY.out
            simp [this, hid]
          go_wp2
          go_roundw
          case rel => exact ⟨f', _, rfl, HC2.out, by omega, by omega, hbw2⟩
          case measure => simp [intOf]; omega
end Go.Proofs.Ytlemajapimeciaa
