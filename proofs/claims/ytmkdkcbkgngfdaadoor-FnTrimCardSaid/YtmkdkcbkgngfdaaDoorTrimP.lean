/- Trimming white space: what the library's walks come to at a string of bytes below 128. -/
import Derived.Shelf.GgClosure.StringsTrimFunc
import Derived.Lib.TrimAscii
import Derived.Test.YtmkdkcbkgngfdaaDoorSays
namespace Go.Proofs.YtmkdkcbkgngfdaaDoor
open Go.Lib
set_option linter.unusedVariables false

/-- What the program holds for white space. -/
def sp (r : Nat) : Bool := decide (r = 9) || decide (r = 10) || decide (r = 11) || decide (r = 12) || decide (r = 13) || decide (r = 32) || decide (r = 133) || decide (r = 160) || decide (r = 5760) || decide (r = 8232) || decide (r = 8233) || decide (r = 8239) || decide (r = 8287) || decide (r = 12288) || (decide (8192 ≤ r) && decide (r ≤ 8202))

theorem sp_small (r : Nat) (h : r < 128) : sp r = (decide (r = 32) || (decide (9 ≤ r) && decide (r ≤ 13))) := by
  have e : sp r = true ↔ (r = 32 ∨ (9 ≤ r ∧ r ≤ 13)) := by
    simp only [sp, Bool.or_eq_true, Bool.and_eq_true, decide_eq_true_eq]
    omega
  cases hh : sp r <;> simp [hh] at e ⊢
  · exact e
  · exact e

def Small (s : ByteArray) : Prop := ∀ i, i < s.size → (s.get! i).toNat < 128

def fromL (s : ByteArray) : Nat → Nat → Nat
  | 0, i => i
  | f + 1, i => if i < s.size then (if sp (s.get! i).toNat = true then fromL s f (i + 1) else i) else i
def toL (s : ByteArray) : Nat → Nat
  | 0 => 0
  | i + 1 => if sp (s.get! i).toNat = true then toL s i else i + 1

theorem bytes_ext {a b : ByteArray} (h : a.data.toList = b.data.toList) : a = b := by
  obtain ⟨⟨a⟩⟩ := a
  obtain ⟨⟨b⟩⟩ := b
  exact congrArg (fun l => (⟨⟨l⟩⟩ : ByteArray)) h

theorem decode_small {s : ByteArray} (hA : Small s) {i : Nat} (h : i < s.size) : Utf8.decode s i = ((s.get! i).toNat, 1) := by
  rw [decode_N, getD_get!']
  exact decodeN_ascii _ _ _ _ _ (hA i h)

theorem last_small {s : ByteArray} (hA : Small s) {i : Nat} (h : i < s.size) : decodeLastL (s.data.toList.take (i + 1)) = ((s.get! i).toNat, 1) := by
  have hl : (s.data.toList.take (i + 1)).length = i + 1 := by rw [List.length_take, ← size_eq]; omega
  have hne : ¬ s.data.toList.take (i + 1) = [] := fun e => by rw [e] at hl; simp at hl
  have hg : (s.data.toList.take (i + 1)).getD ((s.data.toList.take (i + 1)).length - 1) 0 = s.get! i := by
    rw [hl, Nat.add_sub_cancel, getD_takeU _ _ _ (Nat.lt_succ_self i), getD_get!']
  unfold decodeLastL
  rw [if_neg hne, hg, if_pos (hA i h)]

theorem idx_from {s : ByteArray} (hA : Small s) : ∀ f pos, s.size ≤ pos + f → idxFuncFrom sp false s f pos = if fromL s f pos < s.size then (fromL s f pos : Int) else -1
  | 0, pos, h => by
    unfold idxFuncFrom fromL
    rw [if_neg (by omega)]
  | f + 1, pos, h => by
    unfold idxFuncFrom fromL
    by_cases hp : pos < s.size
    · rw [if_pos hp, if_pos hp, decode_small hA hp]
      cases hs : sp (s.get! pos).toNat
      · simp [hp]
      · simp only [if_true, Bool.true_eq_false, if_false]
        exact idx_from hA f (pos + 1) (by omega)
    · rw [if_neg hp, if_neg hp, if_neg hp]

theorem from_le (s : ByteArray) : ∀ f pos, pos ≤ s.size → fromL s f pos ≤ s.size
  | 0, pos, h => h
  | f + 1, pos, h => by
    unfold fromL
    split
    · split
      · exact from_le s f (pos + 1) (by omega)
      · exact h
    · exact h

theorem from_stop (s : ByteArray) : ∀ f pos, s.size ≤ pos + f → fromL s f pos < s.size → sp (s.get! (fromL s f pos)).toNat = false
  | 0, pos, h, hl => by
    unfold fromL at hl
    omega
  | f + 1, pos, h, hl => by
    by_cases hp : pos < s.size
    · cases hs : sp (s.get! pos).toNat
      · have e : fromL s (f + 1) pos = pos := by simp [fromL, hp, hs]
        rw [e]
        exact hs
      · have e : fromL s (f + 1) pos = fromL s f (pos + 1) := by simp [fromL, hp, hs]
        rw [e] at hl ⊢
        exact from_stop s f (pos + 1) (by omega) hl
    · have e : fromL s (f + 1) pos = pos := by simp [fromL, hp]
      rw [e] at hl
      exact absurd hl hp

theorem to_le (s : ByteArray) : ∀ i, toL s i ≤ i
  | 0 => Nat.le_refl 0
  | i + 1 => by
    unfold toL
    split
    · exact Nat.le_succ_of_le (to_le s i)
    · exact Nat.le_refl _

theorem to_gt (s : ByteArray) (j : Nat) (hj : sp (s.get! j).toNat = false) : ∀ i, j < i → j < toL s i
  | 0, h => absurd h (Nat.not_lt_zero j)
  | i + 1, h => by
    unfold toL
    split
    · rename_i hs
      refine to_gt s j hj i ?_
      rcases Nat.lt_or_ge j i with h' | h'
      · exact h'
      · obtain rfl : j = i := by omega
        rw [hj] at hs
        exact absurd hs (by decide)
    · omega

theorem last_from {s : ByteArray} (hA : Small s) : ∀ f i, i ≤ f → i ≤ s.size → lastIdxFuncFrom sp false s f i = (toL s i : Int) - 1
  | 0, i, h, _ => by
    obtain rfl : i = 0 := by omega
    rfl
  | f + 1, 0, _, _ => by
    rw [lastIdxFuncFrom_zero]
    rfl
  | f + 1, i + 1, h, hi => by
    unfold lastIdxFuncFrom toL
    rw [if_pos (Nat.succ_pos i), last_small hA (by omega)]
    cases hs : sp (s.get! i).toNat
    · simp
    · simp only [Bool.true_eq_false, if_false, if_true]
      rw [show i + 1 - 1 = i from rfl]
      exact last_from hA f i (by omega) (by omega)

theorem trimLeft_small {s : ByteArray} (hA : Small s) : trimLeftF sp s = s.extract (fromL s s.size 0) s.size := by
  have e := idx_from hA s.size 0 (by omega)
  have hle := from_le s s.size 0 (by omega)
  unfold trimLeftF idxFunc
  rw [e]
  by_cases hF : fromL s s.size 0 < s.size
  · rw [if_pos hF, if_neg (by omega), Int.toNat_natCast]
  · rw [if_neg hF, if_pos rfl, show fromL s s.size 0 = s.size by omega]
    apply bytes_ext
    rw [extract_data]
    simp

theorem get_extract (s : ByteArray) (a b i : Nat) (h : i < b - a) : (s.extract a b).get! i = s.get! (a + i) := by
  rw [← getD_get!', ← getD_get!', extract_data, getD_takeU _ _ _ h, getD_dropU]

theorem size_extract (s : ByteArray) (a : Nat) : (s.extract a s.size).size = s.size - a := by
  rw [size_eq, extract_data, List.length_take, List.length_drop, ← size_eq]; omega

theorem small_extract {s : ByteArray} (hA : Small s) (a : Nat) : Small (s.extract a s.size) := by
  intro i h
  rw [size_extract] at h
  rw [get_extract s a s.size i h]
  exact hA (a + i) (by omega)

theorem rightEnd_small {s : ByteArray} (hA : Small s) : rightEndF sp s = toL s s.size := by
  have e := last_from hA s.size s.size (Nat.le_refl _) (Nat.le_refl _)
  have hle := to_le s s.size
  unfold rightEndF lastIdxFunc
  rw [e]
  obtain ⟨T, hT⟩ : ∃ T, toL s s.size = T := ⟨_, rfl⟩
  rw [hT] at hle ⊢
  cases T with
  | zero => rfl
  | succ T =>
    rw [if_pos (by omega), show (((T + 1 : Nat) : Int) - 1).toNat = T by omega]
    have hz : (s.extract T s.size).size = s.size - T := size_extract s T
    have hd : decodeGoB (s.extract T s.size) = ((s.extract T s.size).get! 0 |>.toNat, 1) := by
      unfold decodeGoB
      rw [if_neg (by omega)]
      exact decode_small (small_extract hA T) (by omega)
    rw [hd]

theorem trimRight_small {s : ByteArray} (hA : Small s) : trimRightF sp s = s.extract 0 (toL s s.size) := by
  unfold trimRightF
  rw [rightEnd_small hA]

theorem to_extract (s : ByteArray) (F : Nat) : ∀ i, i ≤ s.size - F → toL (s.extract F s.size) i = 0 ∨ toL s (F + i) = F + toL (s.extract F s.size) i
  | 0, _ => .inl rfl
  | i + 1, h => by
    have hg := get_extract s F s.size i (by omega)
    rw [← Nat.add_assoc]
    unfold toL
    rw [hg]
    cases hs : sp (s.get! (F + i)).toNat
    · right
      simp only [Bool.false_eq_true, if_false]
      omega
    · simp only [if_true]
      exact to_extract s F i (by omega)

theorem trim_small {s : ByteArray} (hA : Small s) : trimF sp s = s.extract (min (fromL s s.size 0) (toL s s.size)) (toL s s.size) := by
  unfold trimF
  rw [trimLeft_small hA]
  have hle := from_le s s.size 0 (by omega)
  have hst := from_stop s s.size 0 (by omega)
  have htl := to_le s s.size
  obtain ⟨F, hF⟩ : ∃ F, fromL s s.size 0 = F := ⟨_, rfl⟩
  rw [hF] at hle hst ⊢
  rw [trimRight_small (small_extract hA F), size_extract]
  have hx := to_extract s F (s.size - F) (Nat.le_refl _)
  rw [show F + (s.size - F) = s.size by omega] at hx
  obtain ⟨T, hT⟩ : ∃ T, toL s s.size = T := ⟨_, rfl⟩
  obtain ⟨T', hT'⟩ : ∃ T', toL (s.extract F s.size) (s.size - F) = T' := ⟨_, rfl⟩
  have htl' := to_le (s.extract F s.size) (s.size - F)
  apply bytes_ext
  by_cases hlt : F < s.size
  · have h0 : 0 < toL (s.extract F s.size) (s.size - F) := by
      refine to_gt _ 0 ?_ _ (by omega)
      rw [get_extract s F s.size 0 (by omega)]
      exact hst hlt
    rw [hT'] at h0 hx htl' ⊢
    rw [hT] at hx htl ⊢
    have hTT : T = F + T' := hx.resolve_left (by omega)
    rw [show min F T = F by omega, extract_data, extract_data, extract_data, List.drop_zero, List.take_take]
    congr 1
    omega
  · rw [hT'] at htl' ⊢
    rw [hT] at htl ⊢
    obtain rfl : T' = 0 := by omega
    rw [show min F T = T by omega, extract_data, extract_data]
    simp

theorem trimRightF_size (p : Nat → Bool) (s : ByteArray) : (trimRightF p s).size ≤ s.size := by
  unfold trimRightF
  rw [size_eq, extract_data, List.length_take, List.length_drop, ← size_eq]; omega
theorem trimF_size (p : Nat → Bool) (s : ByteArray) : (trimF p s).size ≤ s.size := Nat.le_trans (trimRightF_size p _) (trimLeftF_size p s)
end Go.Proofs.YtmkdkcbkgngfdaaDoor
