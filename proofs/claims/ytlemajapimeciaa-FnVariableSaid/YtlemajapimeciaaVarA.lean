/- What the thin package's look-up of a variable gives, where the scope is found. -/
import Derived.Test.YtlemajapimeciaaScopeB
namespace Go.Proofs.Ytlemajapimeciaa
open Go.RowKit

/-- A slice of scopes in memory, below block B. -/
structure ScList (w : World) (B b o : Nat) (xs : List (Int × Int × Int)) : Prop where
  lt : b < B
  at_ : ∀ (j : Nat) y, xs[j]? = some y → w.cell? ⟨b, o + j * 3, none⟩ = some (.int .i64 y.1) ∧ w.cell? ⟨b, o + j * 3 + 1, none⟩ = some (.int .i64 y.2.1) ∧ w.cell? ⟨b, o + j * 3 + 2, none⟩ = some (.int .i64 y.2.2)

theorem ScList.below {w w' : World} {B b o : Nat} {xs : List (Int × Int × Int)} (h : ScList w B b o xs) {B' : Nat} (hb : Below B' w w') (hB : B ≤ B') : ScList w' B b o xs :=
  ⟨h.lt, fun j y hy => by
    obtain ⟨a0, a1, a2⟩ := h.at_ j y hy
    have hlt := h.lt
    exact ⟨(hb.cell (p := ⟨b, _, none⟩) (Nat.lt_of_lt_of_le hlt hB)).trans a0, (hb.cell (p := ⟨b, _, none⟩) (Nat.lt_of_lt_of_le hlt hB)).trans a1, (hb.cell (p := ⟨b, _, none⟩) (Nat.lt_of_lt_of_le hlt hB)).trans a2⟩⟩

theorem chase_pos {xs : List (Int × Int × Int)} {id : Int} {f : Nat} {i : Int} {x : Int × Int × Int} (h : chase xs id f i = some x) : 0 ≤ i ∧ ∃ f', f = f' + 1 ∧
    ∃ y, xs[i.toNat]? = some y ∧ (y.1 = id → y = x) ∧ (y.1 ≠ id → chase xs id f' y.2.2 = some x) := by
  cases f with
  | zero => simp [chase] at h
  | succ f =>
    rcases Int.lt_or_le i 0 with hneg | hp
    · simp [chase, hneg] at h
    · refine ⟨hp, f, rfl, ?_⟩
      simp only [chase] at h
      rw [if_neg (by omega)] at h
      cases hy : xs[i.toNat]? with
      | none => rw [hy] at h; simp at h
      | some y =>
        rw [hy] at h
        refine ⟨y, rfl, ?_, ?_⟩
        · intro e; simp only [e, if_pos] at h; exact Option.some.inj h
        · intro e; simp only [if_neg e] at h; exact h

set_option maxHeartbeats 1000000 in
theorem found_any (w : World) (b o cap : Nat) (xs : List (Int × Int × Int)) (id : Int) (x : Int × Int × Int) (hl : ScList w w.heap.size b o xs) 
    (hlen : xs.length ≤ 100) (hout : ∀ (i : Nat) y, xs[i]? = some y → y.2.2 < i) (hx : chase xs id xs.length ((xs.length : Int) - 1) = some x) :
    Calls Try.prog 7 #[.slice (some ⟨b, o, none⟩) xs.length cap, .int .i64 id] w fun e w' => e = .returned (.bool true) ∧ Below w.heap.size w w' := by
  have HX := Lib.hid hx
  have HO := Lib.hid hout
  have HL := Lib.hid hl
  have hblt := hl.lt
  clear hx hout hl
  go_enter Try.func7, Try.ntmps7
  go_wp2
  go_loopw [10] (fun i wr => ∃ j : Nat, i = .int .i64 j ∧ j ≤ xs.length ∧ Below w.heap.size w wr) (fun i _ => xs.length - (intOf i).toNat)
  case atStart => exact ⟨0, rfl, Nat.zero_le _, Below.refl _ _⟩
  case round =>
    obtain ⟨j, rfl, hj, hbw⟩ := hrel
    by_cases hjl : j < xs.length
    · obtain ⟨y, hy⟩ : ∃ y, xs[j]? = some y := ⟨_, List.getElem?_eq_getElem hjl⟩
      have hlt := HO.out j y hy
      obtain ⟨a0, a1, a2⟩ := (HL.out.below hbw (Nat.le_refl _)).at_ j y hy
      have HY := Lib.hid hy
      clear hy
      go_wp2
      go_roundw
      case rel => exact ⟨j + 1, by go_num, by omega, hbw.alloc hbw.size _⟩
      case measure => simp [intOf]; omega
    · go_wp2
      go_loopw [7] (fun i wr => ∃ f i', i = .int .i64 i' ∧ chase xs id f i' = some x ∧ i' < xs.length ∧ Below w.heap.size w wr) (fun i _ => (intOf i + 1).toNat)
      case atStart => exact ⟨xs.length, _, rfl, HX.out, by omega, hbw⟩
      case round =>
        obtain ⟨f, i, rfl, hch, hil, hbw2⟩ := hrel
        obtain ⟨hi0, f', rfl, y, hy, hyes, hno⟩ := chase_pos hch
        obtain ⟨j', rfl⟩ : ∃ j : Nat, i = j := ⟨i.toNat, by omega⟩
        have hlt := HO.out j' y hy
        obtain ⟨a0, a1, a2⟩ := (HL.out.below hbw2 (Nat.le_refl _)).at_ j' y hy
        have HY := Lib.hid hy
        have HN := Lib.hid hno
        clear hy hch hyes hno
        by_cases hid : y.1 = id
        · go_wp2
          go_ret
          exact ⟨rfl, hbw2⟩
        · have HC := Lib.hid (HN.out hid)
          go_wp2
          go_roundw
          case rel => exact ⟨f', _, rfl, HC.out, by omega, hbw2⟩
          case measure => simp [intOf]; omega
end Go.Proofs.Ytlemajapimeciaa
