/- The program's JSON string: what is written is the text of the string. -/
import Derived.Test.YtbnbemacljjimaaGreatDoorJc22
namespace Go.Proofs.YtbnbemacljjimaaGreatDoor
open Go.RowKit Go.Lib
set_option linter.unusedVariables false

theorem Ev.drew {B e b : Nat} {bs : List Value} {w w' : World} (h : Ev B e b bs w w') : Ev B e b bs w w'.drew := ⟨h.bl, h.en, h.bel.drew, h.oth.trans (fun i o ho _ _ _ => ho)⟩
theorem Ev.trans {B e b : Nat} {bs cs : List Value} {w w1 w2 : World} (h : Ev B e b bs w w1) (k : Ev B e b cs w1 w2) : Ev B e b cs w w2 := ⟨k.bl, k.en, h.bel.trans k.bel, h.oth.trans k.oth⟩
theorem Ev.size {B e b : Nat} {bs : List Value} {w w' : World} (h : Ev B e b bs w w') : w.heap.size ≤ w'.heap.size := h.bel.size
theorem strCells_app (s t : ByteArray) : Lib.strCells (s ++ t) = Lib.strCells s ++ Lib.strCells t := by
  unfold Lib.strCells
  rw [ByteArray.data_append, Array.toList_append, List.map_append]

/-- Writes under the encoder, one behind another. -/
theorem ew_str {B e b : Nat} {bs : List Value} {w w' : World} (t s : ByteArray) (h : Ev B e b (bs ++ Lib.strCells t) w w') (hne : e ≠ b) (hlen : bs.length + t.size + s.size ≤ 140737488355328) (hBw : B ≤ w.heap.size) :
    Calls Tryz.prog 113 #[.pointer (some ⟨b, 0, none⟩), .string s] w' fun r w2 => r = .returned (.tuple #[.int .i64 s.size, .nilIface]) ∧ Ev B e b (bs ++ Lib.strCells (t ++ s)) w w2 := by
  refine (str_write2 (s := s) h.bl h.en hne (by rw [List.length_append, Lib.strCells_length]; omega) (Nat.le_trans hBw h.size)).mono ?_
  rintro r w2 ⟨rfl, k⟩
  refine ⟨rfl, ?_⟩
  rw [strCells_app, ← List.append_assoc]
  exact h.trans k

theorem ew_byte {B e b : Nat} {bs : List Value} {w w' : World} (t : ByteArray) (c : UInt8) (n : Int) (hn : n = c.toNat) (h : Ev B e b (bs ++ Lib.strCells t) w w') (hne : e ≠ b) (hlen : bs.length + t.size + 1 ≤ 140737488355328) (hBw : B ≤ w.heap.size) :
    Calls Tryz.prog 235 #[.pointer (some ⟨b, 0, none⟩), .int .u8 n] w' fun r w2 => r = .returned .nilIface ∧ Ev B e b (bs ++ Lib.strCells (t ++ ⟨#[c]⟩)) w w2 := by
  subst hn
  refine (bl_byte_any B b _ (c.toNat : Int) w' h.bl (by rw [List.length_append, Lib.strCells_length]; omega) (Nat.le_trans hBw h.size)).mono ?_
  rintro r w2 ⟨rfl, k1, k2⟩
  refine ⟨rfl, ?_⟩
  rw [strCells_app, ← List.append_assoc]
  exact ⟨k1, h.en.wr k2 hne, h.bel.trans k2.bel, h.oth.trans (Oth.wr k2)⟩

/-- What is written up to a, and what stands from there to i, is the text up to i. -/
def Fl (s : ByteArray) (a i : Nat) : Prop := a ≤ i ∧ i ≤ s.size ∧ qA (s.data.toList.take a) ++ s.extract a i = qA (s.data.toList.take i)

theorem ext_same (s : ByteArray) (i : Nat) : s.extract i i = ⟨#[]⟩ := by
  apply ByteArray.ext
  apply Array.toList_inj.1
  rw [ByteArray.data_extract, Array.toList_extract, List.extract_eq_take_drop, Nat.sub_self, List.take_zero]
theorem ext_next {s : ByteArray} {a i : Nat} (h : a ≤ i) : s.extract a (i + 1) = s.extract a i ++ s.extract i (i + 1) := by
  apply ByteArray.ext
  apply Array.toList_inj.1
  rw [ByteArray.data_append, Array.toList_append, ByteArray.data_extract, ByteArray.data_extract, ByteArray.data_extract, Array.toList_extract, Array.toList_extract, Array.toList_extract, List.extract_eq_take_drop, List.extract_eq_take_drop, List.extract_eq_take_drop]
  rw [show i + 1 - a = (i - a) + 1 by omega, List.take_add, List.drop_drop, show a + (i - a) = i by omega, show i + 1 - i = 1 by omega]
theorem app_empty (t : ByteArray) : t ++ (⟨#[]⟩ : ByteArray) = t := by
  apply ByteArray.ext
  rw [ByteArray.data_append]
  exact Array.append_empty
theorem app_assoc (a b c : ByteArray) : a ++ b ++ c = a ++ (b ++ c) := by
  apply ByteArray.ext
  rw [ByteArray.data_append, ByteArray.data_append, ByteArray.data_append, ByteArray.data_append, Array.append_assoc]

theorem Fl.start {s : ByteArray} {i : Nat} (h : i ≤ s.size) : Fl s i i := ⟨Nat.le_refl _, h, by rw [ext_same, app_empty]⟩
theorem Fl.next {s : ByteArray} {a i : Nat} (h : Fl s a i) (hi : i < s.size) (hq : qC s[i] = [s[i]]) : Fl s a (i + 1) := by
  refine ⟨by have := h.1; omega, hi, ?_⟩
  rw [ext_next h.1, ← app_assoc, h.2.2, qA_snoc _ s[i] _ (by rw [cut_one hi, hq])]
  rw [List.take_succ_eq_append_getElem (by simpa using hi)]
  rfl
theorem Fl.many {s : ByteArray} {a : Nat} : ∀ (k : Nat) {i : Nat}, Fl s a i → i + k ≤ s.size → (∀ c ∈ (s.data.toList.drop i).take k, 128 ≤ c.toNat) → Fl s a (i + k)
  | 0, i, h, _, _ => h
  | k + 1, i, h, hk, hc => by
    have hi : i < s.size := by omega
    have hd := List.drop_eq_getElem_cons (l := s.data.toList) (i := i) (by simpa using hi)
    rw [hd, List.take_succ_cons] at hc
    have h1 := h.next hi (high_plain _ (hc _ List.mem_cons_self))
    rw [show i + (k + 1) = i + 1 + k by omega]
    exact Fl.many k h1 (by omega) (fun c hm => hc c (List.mem_cons_of_mem _ hm))

theorem decode_rest {s : ByteArray} {i : Nat} (hi : i < s.size) : Lib.decodeGo (s.extract i s.size) = decodeL (s.data.toList.drop i) := by
  have e : (s.extract i s.size).data.toList = s.data.toList.drop i := by
    rw [ByteArray.data_extract, Array.toList_extract, List.extract_eq_take_drop, List.take_of_length_le]
    rw [List.length_drop, Array.length_toList]
    exact Nat.le_refl _
  have hn : ¬ (s.extract i s.size).size = 0 := by
    have h1 : (s.extract i s.size).data.toList.length = (s.extract i s.size).size := by rw [Array.length_toList]; rfl
    rw [← h1, e, List.length_drop, Array.length_toList]
    show ¬ s.size - i = 0
    omega
  unfold Lib.decodeGo
  rw [if_neg hn, ← decodeL_drop, e]
  rfl

theorem valid_next {l : List UInt8} {c : UInt8} (h : validD (c :: l) = true) (hc : c.toNat < 128) : validD l = true := by
  have hs := validD_step (c :: l) (by simp)
  rw [h] at hs
  have hd : decodeL (c :: l) = (c.toNat, 1) := by
    rw [decodeL_N]
    have : ((c :: l).getD 0 0).toNat = c.toNat := rfl
    rw [this]
    unfold decodeN
    rw [if_pos hc]
  rw [hd, if_neg (fun hh => by have h1 : c.toNat = 65533 := hh.1; omega)] at hs
  exact hs.symm
end Go.Proofs.YtbnbemacljjimaaGreatDoor

namespace Go.Proofs.YtbnbemacljjimaaGreatDoor
open Go.RowKit Go.Lib
set_option linter.unusedVariables false

/-- Where a round of encodeString stands. -/
structure Es (B e b : Nat) (bs : List Value) (s : ByteArray) (a i : Nat) (w wr : World) : Prop where
  ew : Ev B e b (bs ++ Lib.strCells (qA (s.data.toList.take a))) w wr
  fl : Fl s a i
  vd : validD (s.data.toList.drop i) = true

theorem Es.next {B e b : Nat} {bs : List Value} {s : ByteArray} {a i : Nat} {w wr : World} (h : Es B e b bs s a i w wr) (hi : i < s.size) (hq : qC s[i] = [s[i]]) (hc : s[i].toNat < 128) : Es B e b bs s a (i + 1) w wr := by
  refine ⟨h.ew, h.fl.next hi hq, ?_⟩
  have h1 := h.vd
  rw [List.drop_eq_getElem_cons (by simpa using hi)] at h1
  exact valid_next h1 hc
theorem Es.esc {B e b : Nat} {bs : List Value} {s : ByteArray} {a i : Nat} {w wr wr2 : World} (h : Es B e b bs s a i w wr) (hi : i < s.size) (hc : s[i].toNat < 128) (t : ByteArray) (ht : t.data.toList = qC s[i]) (k : Ev B e b (bs ++ Lib.strCells (qA (s.data.toList.take i) ++ t)) w wr2) : Es B e b bs s (i + 1) (i + 1) w wr2 := by
  refine ⟨?_, Fl.start hi, ?_⟩
  · rw [qA_snoc _ s[i] _ ht] at k
    rw [List.take_succ_eq_append_getElem (by simpa using hi)]
    exact k
  · have h1 := h.vd
    rw [List.drop_eq_getElem_cons (by simpa using hi)] at h1
    exact valid_next h1 hc

theorem Ev.below {B e b : Nat} {bs : List Value} {w w1 w2 : World} (h : Ev B e b bs w w1) (hB : B ≤ w1.heap.size) (k : Below w1.heap.size w1 w2) : Ev B e b bs w w2 :=
  ⟨bl_only (P := fun _ => False) h.bl (Only.of_below k (fun k hk _ => hk)) (fun h => h) (fun _ _ _ _ h => h), h.en.below k, h.bel.trans (Below.mono k hB), h.oth.trans (Oth.below k)⟩
theorem Es.many {B e b : Nat} {bs : List Value} {s : ByteArray} {a i : Nat} {w wr : World} (h : Es B e b bs s a i w wr) {w2 : World} (hB : B ≤ wr.heap.size) (k : Below wr.heap.size wr w2) (K : Nat) (hK : i + K ≤ s.size) (hc : ∀ c ∈ (s.data.toList.drop i).take K, 128 ≤ c.toNat) (hv : validD (s.data.toList.drop (i + K)) = true) : Es B e b bs s a (i + K) w w2 :=
  ⟨h.ew.below hB k, h.fl.many K hK hc, hv⟩
theorem and15 : ∀ c : Nat, c < 32 → bits .and .u8 (c : Int) 15 = ((c % 16 : Nat) : Int) := by decide
theorem div16 (c : Nat) : (c : Int) / 2 ^ 4 = ((c / 16 : Nat) : Int) := by omega
theorem hex_idx (d : Nat) (hd : d < 16) (w : World) : (Instr.index 9 (.string ⟨#[48, 49, 50, 51, 52, 53, 54, 55, 56, 57, 97, 98, 99, 100, 101, 102]⟩) (.int .u8 (d : Int))).run Tryz.prog w = .ok (.int .u8 ((hxC d).toNat : Int)) w := by
  rw [run_index_string w 9 _ .u8 _ Tryz.underlying9]
  rcases (by omega : d = 0 ∨ d = 1 ∨ d = 2 ∨ d = 3 ∨ d = 4 ∨ d = 5 ∨ d = 6 ∨ d = 7 ∨ d = 8 ∨ d = 9 ∨ d = 10 ∨ d = 11 ∨ d = 12 ∨ d = 13 ∨ d = 14 ∨ d = 15) with rfl | rfl | rfl | rfl | rfl | rfl | rfl | rfl | rfl | rfl | rfl | rfl | rfl | rfl | rfl | rfl <;> rfl
theorem fst_byte : (⟨#[]⟩ : ByteArray) ++ ⟨#[34]⟩ = qA [] := rfl

set_option maxHeartbeats 8000000 in
set_option maxRecDepth 100000 in
theorem encStr_any (w : World) (B e b : Nat) (bs : List Value) (s : ByteArray) (hb : Bl B b bs w) (he : En e b w) (hne : e ≠ b) (hlen : bs.length + 6 * s.size + 64 ≤ 140737488355328) (hBw : B ≤ w.heap.size) (hT : Tabs w B) (hv : Lib.validD s.data.toList = true) (hd : NoDel s) :
    Calls Tryz.prog 106 #[.pointer (some ⟨e, 0, none⟩), .string s] w fun r w' => r = .returned (.tuple #[]) ∧ Ev B e b (bs ++ Lib.strCells (qT s)) w w' := by
  have hst : Ev B e b (bs ++ Lib.strCells ⟨#[]⟩) w w := ⟨by simpa [Lib.strCells] using hb, he, Below.refl _ _, Oth.refl _ _ _⟩
  have c0 := he.cell
  have hW := hide (ew_byte ⟨#[]⟩ 34 34 rfl hst hne (by show _ + 0 + 1 ≤ _; omega) hBw)
  have hsl : s.data.toList.length = s.size := by rw [Array.length_toList]; rfl
  replace hsl := hide hsl
  replace hv := hide hv
  replace hT := hide hT
  replace hd := hide hd
  clear hst hb he
  go_enter Tryz.func106, Tryz.ntmps106
  go_wp2_with (go_at_call 235; refine hW.out.mono ?_; rintro r w1 ⟨rfl, h1⟩; replace h1 := hide h1)
  go_loopw [4, 5] (fun s4 s5 wr => ∃ a i : Nat, s4 = .int .i64 a ∧ s5 = .int .i64 i ∧ Es B e b bs s a i w wr) (fun _ i _ => s.size - (RowKit.intOf i).toNat)
  case atStart => exact ⟨0, 0, rfl, rfl, by have := h1.out; rw [fst_byte] at this; exact this, Fl.start (Nat.zero_le _), hv.out⟩
  case round =>
    clear hW c0 h1
    obtain ⟨a, i, rfl, rfl, hes⟩ := hrel
    have hai := hes.fl.1
    have c0 := hes.ew.en.cell
    have hqa := qA_size (s.data.toList.take a)
    have hqi := qA_size (s.data.toList.take i)
    have hta : (s.data.toList.take a).length ≤ a := List.length_take_le _ _
    have hti : (s.data.toList.take i).length ≤ i := List.length_take_le _ _
    by_cases hlt : i < s.size
    · have hkinds := byte_kinds s[i]
      have hn127 : s[i].toNat ≠ 127 := fun hc => hd.out s[i] (by
        have := List.getElem_mem (l := s.data.toList) (n := i) (by simpa using hlt)
        exact this) (UInt8.toNat_inj.1 hc)
      replace hes := hide hes
      by_cases h128 : s[i].toNat < 128
      · have hesc := hide (hes.out.esc (wr2 := wr) hlt h128)
        have hsz : (s.extract a i).size = i - a := by rw [ByteArray.size_extract]; omega
        replace hsz := hide hsz
        have hnext := fun wr2 t ht k => hes.out.esc (wr2 := wr2) hlt h128 t ht k
        have hflu := hide hes.out.fl.2.2
        replace hnext := hide hnext
        rcases hkinds with ⟨hc, hq⟩ | ⟨hc, hq⟩ | ⟨hc, hq⟩ | ⟨hc, hq⟩ | ⟨hc, hq⟩ | ⟨hc, hq⟩ | ⟨hc, hq⟩ | ⟨hc, hq⟩ | ⟨hc, hq⟩ | ⟨hc, hq⟩
        · replace hq := hide hq
          have c5 := h128
          go_upto_if 41 with fail
          go_cut [] from 14 to 52 (fun wc => Ev B e b (bs ++ Lib.strCells (qA (s.data.toList.take i))) w wc)
          case first =>
            by_cases hai2 : a < i
            · have hai3 : (a : Int) < i := by omega
              go_upto_region 9 with fail
              refine region_tail 10 wr.drew rfl (by kernel_rfl) (by kernel_rfl) ?_
              simp only [List.take_succ_cons, List.take_zero, List.drop_succ_cons, List.drop_zero]
              repeat (go_big_quiet_step (fail))
              refine wpQuiet_nil ?_
              go_wp2_with (go_at_call 113; refine (ew_str (qA (s.data.toList.take a)) (s.extract a i) hes.out.ew.drew hne (by have := hsz.out; omega) hBw).mono ?_; rintro r w2 ⟨rfl, h2⟩; rw [hflu.out] at h2; replace h2 := hide h2)
              go_meet
              case rel => exact h2.out
            · have hai3 : ¬ (a : Int) < i := by omega
              go_wp2
              go_meet
              case rel =>
                have := hes.out.ew
                rw [show a = i by omega] at this
                exact this
          case rest =>
            have c1 := hcut.en.cell
            have hcut' := hide hcut
            clear hcut
            go_wp2_with (go_at_call 113; refine (ew_str (qA (s.data.toList.take i)) ⟨#[92, 34]⟩ hcut'.out hne (by show _ + _ + 2 ≤ _; omega) hBw).mono ?_; rintro r w2 ⟨rfl, h2⟩; replace h2 := hide (hnext.out w2 ⟨#[92, 34]⟩ hq.out.symm h2))
            go_roundw
            case rel => exact ⟨i + 1, i + 1, by go_num, by go_num, h2.out⟩
            case measure => simp [RowKit.intOf]; omega
        · replace hq := hide hq
          have c5 := h128
          go_upto_if 41 with fail
          go_cut [] from 14 to 52 (fun wc => Ev B e b (bs ++ Lib.strCells (qA (s.data.toList.take i))) w wc)
          case first =>
            by_cases hai2 : a < i
            · have hai3 : (a : Int) < i := by omega
              go_upto_region 9 with fail
              refine region_tail 10 wr.drew rfl (by kernel_rfl) (by kernel_rfl) ?_
              simp only [List.take_succ_cons, List.take_zero, List.drop_succ_cons, List.drop_zero]
              repeat (go_big_quiet_step (fail))
              refine wpQuiet_nil ?_
              go_wp2_with (go_at_call 113; refine (ew_str (qA (s.data.toList.take a)) (s.extract a i) hes.out.ew.drew hne (by have := hsz.out; omega) hBw).mono ?_; rintro r w2 ⟨rfl, h2⟩; rw [hflu.out] at h2; replace h2 := hide h2)
              go_meet
              case rel => exact h2.out
            · have hai3 : ¬ (a : Int) < i := by omega
              go_wp2
              go_meet
              case rel =>
                have := hes.out.ew
                rw [show a = i by omega] at this
                exact this
          case rest =>
            have c1 := hcut.en.cell
            have hcut' := hide hcut
            clear hcut
            go_wp2_with (go_at_call 113; refine (ew_str (qA (s.data.toList.take i)) ⟨#[92, 92]⟩ hcut'.out hne (by show _ + _ + 2 ≤ _; omega) hBw).mono ?_; rintro r w2 ⟨rfl, h2⟩; replace h2 := hide (hnext.out w2 ⟨#[92, 92]⟩ hq.out.symm h2))
            go_roundw
            case rel => exact ⟨i + 1, i + 1, by go_num, by go_num, h2.out⟩
            case measure => simp [RowKit.intOf]; omega
        · replace hq := hide hq
          have c5 := h128
          go_upto_if 41 with fail
          go_cut [] from 14 to 52 (fun wc => Ev B e b (bs ++ Lib.strCells (qA (s.data.toList.take i))) w wc)
          case first =>
            by_cases hai2 : a < i
            · have hai3 : (a : Int) < i := by omega
              go_upto_region 9 with fail
              refine region_tail 10 wr.drew rfl (by kernel_rfl) (by kernel_rfl) ?_
              simp only [List.take_succ_cons, List.take_zero, List.drop_succ_cons, List.drop_zero]
              repeat (go_big_quiet_step (fail))
              refine wpQuiet_nil ?_
              go_wp2_with (go_at_call 113; refine (ew_str (qA (s.data.toList.take a)) (s.extract a i) hes.out.ew.drew hne (by have := hsz.out; omega) hBw).mono ?_; rintro r w2 ⟨rfl, h2⟩; rw [hflu.out] at h2; replace h2 := hide h2)
              go_meet
              case rel => exact h2.out
            · have hai3 : ¬ (a : Int) < i := by omega
              go_wp2
              go_meet
              case rel =>
                have := hes.out.ew
                rw [show a = i by omega] at this
                exact this
          case rest =>
            have c1 := hcut.en.cell
            have hcut' := hide hcut
            clear hcut
            go_wp2_with (go_at_call 113; refine (ew_str (qA (s.data.toList.take i)) ⟨#[92, 110]⟩ hcut'.out hne (by show _ + _ + 2 ≤ _; omega) hBw).mono ?_; rintro r w2 ⟨rfl, h2⟩; replace h2 := hide (hnext.out w2 ⟨#[92, 110]⟩ hq.out.symm h2))
            go_roundw
            case rel => exact ⟨i + 1, i + 1, by go_num, by go_num, h2.out⟩
            case measure => simp [RowKit.intOf]; omega
        · replace hq := hide hq
          have c5 := h128
          go_upto_if 41 with fail
          go_cut [] from 14 to 52 (fun wc => Ev B e b (bs ++ Lib.strCells (qA (s.data.toList.take i))) w wc)
          case first =>
            by_cases hai2 : a < i
            · have hai3 : (a : Int) < i := by omega
              go_upto_region 9 with fail
              refine region_tail 10 wr.drew rfl (by kernel_rfl) (by kernel_rfl) ?_
              simp only [List.take_succ_cons, List.take_zero, List.drop_succ_cons, List.drop_zero]
              repeat (go_big_quiet_step (fail))
              refine wpQuiet_nil ?_
              go_wp2_with (go_at_call 113; refine (ew_str (qA (s.data.toList.take a)) (s.extract a i) hes.out.ew.drew hne (by have := hsz.out; omega) hBw).mono ?_; rintro r w2 ⟨rfl, h2⟩; rw [hflu.out] at h2; replace h2 := hide h2)
              go_meet
              case rel => exact h2.out
            · have hai3 : ¬ (a : Int) < i := by omega
              go_wp2
              go_meet
              case rel =>
                have := hes.out.ew
                rw [show a = i by omega] at this
                exact this
          case rest =>
            have c1 := hcut.en.cell
            have hcut' := hide hcut
            clear hcut
            go_wp2_with (go_at_call 113; refine (ew_str (qA (s.data.toList.take i)) ⟨#[92, 116]⟩ hcut'.out hne (by show _ + _ + 2 ≤ _; omega) hBw).mono ?_; rintro r w2 ⟨rfl, h2⟩; replace h2 := hide (hnext.out w2 ⟨#[92, 116]⟩ hq.out.symm h2))
            go_roundw
            case rel => exact ⟨i + 1, i + 1, by go_num, by go_num, h2.out⟩
            case measure => simp [RowKit.intOf]; omega
        · replace hq := hide hq
          have c5 := h128
          go_upto_if 41 with fail
          go_cut [] from 14 to 52 (fun wc => Ev B e b (bs ++ Lib.strCells (qA (s.data.toList.take i))) w wc)
          case first =>
            by_cases hai2 : a < i
            · have hai3 : (a : Int) < i := by omega
              go_upto_region 9 with fail
              refine region_tail 10 wr.drew rfl (by kernel_rfl) (by kernel_rfl) ?_
              simp only [List.take_succ_cons, List.take_zero, List.drop_succ_cons, List.drop_zero]
              repeat (go_big_quiet_step (fail))
              refine wpQuiet_nil ?_
              go_wp2_with (go_at_call 113; refine (ew_str (qA (s.data.toList.take a)) (s.extract a i) hes.out.ew.drew hne (by have := hsz.out; omega) hBw).mono ?_; rintro r w2 ⟨rfl, h2⟩; rw [hflu.out] at h2; replace h2 := hide h2)
              go_meet
              case rel => exact h2.out
            · have hai3 : ¬ (a : Int) < i := by omega
              go_wp2
              go_meet
              case rel =>
                have := hes.out.ew
                rw [show a = i by omega] at this
                exact this
          case rest =>
            have c1 := hcut.en.cell
            have hcut' := hide hcut
            clear hcut
            go_wp2_with (go_at_call 113; refine (ew_str (qA (s.data.toList.take i)) ⟨#[92, 114]⟩ hcut'.out hne (by show _ + _ + 2 ≤ _; omega) hBw).mono ?_; rintro r w2 ⟨rfl, h2⟩; replace h2 := hide (hnext.out w2 ⟨#[92, 114]⟩ hq.out.symm h2))
            go_roundw
            case rel => exact ⟨i + 1, i + 1, by go_num, by go_num, h2.out⟩
            case measure => simp [RowKit.intOf]; omega
        · replace hq := hide hq
          have c5 := h128
          go_upto_if 41 with fail
          go_cut [] from 14 to 52 (fun wc => Ev B e b (bs ++ Lib.strCells (qA (s.data.toList.take i))) w wc)
          case first =>
            by_cases hai2 : a < i
            · have hai3 : (a : Int) < i := by omega
              go_upto_region 9 with fail
              refine region_tail 10 wr.drew rfl (by kernel_rfl) (by kernel_rfl) ?_
              simp only [List.take_succ_cons, List.take_zero, List.drop_succ_cons, List.drop_zero]
              repeat (go_big_quiet_step (fail))
              refine wpQuiet_nil ?_
              go_wp2_with (go_at_call 113; refine (ew_str (qA (s.data.toList.take a)) (s.extract a i) hes.out.ew.drew hne (by have := hsz.out; omega) hBw).mono ?_; rintro r w2 ⟨rfl, h2⟩; rw [hflu.out] at h2; replace h2 := hide h2)
              go_meet
              case rel => exact h2.out
            · have hai3 : ¬ (a : Int) < i := by omega
              go_wp2
              go_meet
              case rel =>
                have := hes.out.ew
                rw [show a = i by omega] at this
                exact this
          case rest =>
            have c1 := hcut.en.cell
            have hcut' := hide hcut
            clear hcut
            go_wp2_with (go_at_call 113; refine (ew_str (qA (s.data.toList.take i)) ⟨#[92, 98]⟩ hcut'.out hne (by show _ + _ + 2 ≤ _; omega) hBw).mono ?_; rintro r w2 ⟨rfl, h2⟩; replace h2 := hide (hnext.out w2 ⟨#[92, 98]⟩ hq.out.symm h2))
            go_roundw
            case rel => exact ⟨i + 1, i + 1, by go_num, by go_num, h2.out⟩
            case measure => simp [RowKit.intOf]; omega
        · replace hq := hide hq
          have c5 := h128
          go_upto_if 41 with fail
          go_cut [] from 14 to 52 (fun wc => Ev B e b (bs ++ Lib.strCells (qA (s.data.toList.take i))) w wc)
          case first =>
            by_cases hai2 : a < i
            · have hai3 : (a : Int) < i := by omega
              go_upto_region 9 with fail
              refine region_tail 10 wr.drew rfl (by kernel_rfl) (by kernel_rfl) ?_
              simp only [List.take_succ_cons, List.take_zero, List.drop_succ_cons, List.drop_zero]
              repeat (go_big_quiet_step (fail))
              refine wpQuiet_nil ?_
              go_wp2_with (go_at_call 113; refine (ew_str (qA (s.data.toList.take a)) (s.extract a i) hes.out.ew.drew hne (by have := hsz.out; omega) hBw).mono ?_; rintro r w2 ⟨rfl, h2⟩; rw [hflu.out] at h2; replace h2 := hide h2)
              go_meet
              case rel => exact h2.out
            · have hai3 : ¬ (a : Int) < i := by omega
              go_wp2
              go_meet
              case rel =>
                have := hes.out.ew
                rw [show a = i by omega] at this
                exact this
          case rest =>
            have c1 := hcut.en.cell
            have hcut' := hide hcut
            clear hcut
            go_wp2_with (go_at_call 113; refine (ew_str (qA (s.data.toList.take i)) ⟨#[92, 102]⟩ hcut'.out hne (by show _ + _ + 2 ≤ _; omega) hBw).mono ?_; rintro r w2 ⟨rfl, h2⟩; replace h2 := hide (hnext.out w2 ⟨#[92, 102]⟩ hq.out.symm h2))
            go_roundw
            case rel => exact ⟨i + 1, i + 1, by go_num, by go_num, h2.out⟩
            case measure => simp [RowKit.intOf]; omega
        · obtain ⟨g32, g10, g9, g13, g8, g12⟩ := hc
          obtain ⟨c, hcc⟩ : ∃ c : Nat, s[i].toNat = c := ⟨_, rfl⟩
          rw [hcc] at hq g32 g10 g9 g13 g8 g12 h128
          have b34 : (((c : Nat) : Int) == 34) = false := by simp; omega
          have b92 : (((c : Nat) : Int) == 92) = false := by simp; omega
          have b10 : (((c : Nat) : Int) == 10) = false := by simp; omega
          have b9 : (((c : Nat) : Int) == 9) = false := by simp; omega
          have b13 : (((c : Nat) : Int) == 13) = false := by simp; omega
          have b8 : (((c : Nat) : Int) == 8) = false := by simp; omega
          have b12 : (((c : Nat) : Int) == 12) = false := by simp; omega
          have l32 : ¬ (32 : Int) ≤ ((c : Nat) : Int) := by omega
          obtain ⟨d1, hd1⟩ : ∃ d, c / 16 = d := ⟨_, rfl⟩
          obtain ⟨d2, hd2⟩ : ∃ d, c % 16 = d := ⟨_, rfl⟩
          have x1 := and15 c g32
          rw [hd2] at x1
          have x2 : (c : Int) / 16 = (d1 : Int) := by omega
          have y1 : d1 < 16 := by omega
          have y2 : d2 < 16 := by omega
          rw [hd1, hd2] at hq
          have ix1 := hex_idx d1 y1
          have ix2 := hex_idx d2 y2
          replace hd1 := hide hd1
          replace hd2 := hide hd2
          replace hq := hide hq
          replace g32 := hide (And.intro g32 (And.intro g10 (And.intro g9 (And.intro g13 (And.intro g8 g12)))))
          clear g10 g9 g13 g8 g12
          replace x1 := hide x1
          replace x2 := hide x2
          go_upto_if 41 with fail
          go_cut [] from 14 to 52 (fun wc => Ev B e b (bs ++ Lib.strCells (qA (s.data.toList.take i))) w wc)
          case first =>
            by_cases hai2 : a < i
            · have hai3 : (a : Int) < i := by omega
              go_upto_region 9 with fail
              refine region_tail 10 wr.drew rfl (by kernel_rfl) (by kernel_rfl) ?_
              simp only [List.take_succ_cons, List.take_zero, List.drop_succ_cons, List.drop_zero]
              repeat (go_big_quiet_step (fail))
              refine wpQuiet_nil ?_
              go_wp2_with (go_at_call 113; refine (ew_str (qA (s.data.toList.take a)) (s.extract a i) hes.out.ew.drew hne (by have := hsz.out; omega) hBw).mono ?_; rintro r w2 ⟨rfl, h2⟩; rw [hflu.out] at h2; replace h2 := hide h2)
              go_meet
              case rel => exact h2.out
            · have hai3 : ¬ (a : Int) < i := by omega
              go_wp2
              go_meet
              case rel =>
                have := hes.out.ew
                rw [show a = i by omega] at this
                exact this
          case rest =>
            have c1 := hcut.en.cell
            have hcut' := hide hcut
            clear hcut
            have x1' := x1.out
            have x2' := x2.out
            go_upto_region 12 with (go_at_call 113; refine (ew_str (qA (s.data.toList.take i)) ⟨#[92, 117, 48, 48]⟩ hcut'.out hne (by show _ + _ + 4 ≤ _; omega) hBw).mono ?_; rintro r w2 ⟨rfl, h2⟩; have c2 := h2.en.cell; replace h2 := hide h2)
            refine region_tail 9 w2.drew rfl (by kernel_rfl) (by kernel_rfl) ?_
            simp only [List.take_succ_cons, List.take_zero, List.drop_succ_cons, List.drop_zero]
            repeat (go_big_quiet_step (fail))
            refine wpQuiet_nil ?_
            go_upto_region 13 with (go_at_call 235; refine (ew_byte (qA (s.data.toList.take i) ++ ⟨#[92, 117, 48, 48]⟩) (hxC d1) _ rfl h2.out.drew hne (by rw [ByteArray.size_append]; show _ + (_ + 4) + 1 ≤ _; omega) hBw).mono ?_; rintro r w3 ⟨rfl, h3⟩; have c3 := h3.en.cell; replace h3 := hide h3)
            refine region_tail 9 w3.drew rfl (by kernel_rfl) (by kernel_rfl) ?_
            simp only [List.take_succ_cons, List.take_zero, List.drop_succ_cons, List.drop_zero]
            repeat (go_big_quiet_step (fail))
            refine wpQuiet_nil ?_
            go_wp2_with (go_at_call 235; refine (ew_byte (qA (s.data.toList.take i) ++ ⟨#[92, 117, 48, 48]⟩ ++ ⟨#[hxC d1]⟩) (hxC d2) _ rfl h3.out.drew hne (by rw [ByteArray.size_append, ByteArray.size_append]; show _ + (_ + 4 + 1) + 1 ≤ _; omega) hBw).mono ?_; rintro r w4 ⟨rfl, h4⟩; rw [app_assoc, app_assoc] at h4; replace h4 := hide (hnext.out w4 _ hq.out.symm h4))
            go_roundw
            case rel => exact ⟨i + 1, i + 1, by go_num, by go_num, h4.out⟩
            case measure => simp [RowKit.intOf]; omega
        · exact absurd hc hn127
        · obtain ⟨g32, g34, g92, g127⟩ := hc
          have hn2 := hide (hes.out.next hlt hq h128)
          obtain ⟨c, hcc⟩ : ∃ c : Nat, s[i].toNat = c := ⟨_, rfl⟩
          rw [hcc] at g32 g34 g92 g127 h128
          have b34 : (((c : Nat) : Int) == 34) = false := by simp; omega
          have b92 : (((c : Nat) : Int) == 92) = false := by simp; omega
          have d34 : (((c : Nat) : Int) != 34) = true := by simp; omega
          have d92 : (((c : Nat) : Int) != 92) = true := by simp; omega
          have l32 : (32 : Int) ≤ ((c : Nat) : Int) := by omega
          have l126 : ((c : Nat) : Int) ≤ 126 := by omega
          replace hq := hide hq
          replace g32 := hide (And.intro g32 (And.intro g34 (And.intro g92 g127)))
          clear g34 g92 g127
          go_wp2
          go_roundw
          case rel => exact ⟨a, i + 1, by go_num, by go_num, hn2.out⟩
          case measure => simp [RowKit.intOf]; omega
      · have hl128 : ¬ ((s[i].toNat : Int) < 128) := by omega
        have hne2 : s.data.toList.drop i ≠ [] := by
          intro h0
          have h1 := congrArg List.length h0
          rw [List.length_drop, hsl.out] at h1
          simp at h1
          omega
        have hg0 : (s.data.toList.drop i).getD 0 0 = s[i] := by
          rw [List.drop_eq_getElem_cons (by simpa using hlt)]
          rfl
        have hr := rune_valid hes.out.vd hne2 (by rw [hg0]; omega)
        rw [List.drop_drop] at hr
        have hdr := decode_rest hlt
        obtain ⟨R, hR⟩ : ∃ R, (decodeL (s.data.toList.drop i)).1 = R := ⟨_, rfl⟩
        obtain ⟨K, hK⟩ : ∃ K, (decodeL (s.data.toList.drop i)).2 = K := ⟨_, rfl⟩
        rw [hR, hK] at hr
        have hdr1 : (Lib.decodeGo (s.extract i s.size)).1 = R := by rw [hdr]; exact hR
        have hdr2 : (Lib.decodeGo (s.extract i s.size)).2 = K := by rw [hdr]; exact hK
        clear hdr hR hK hne2 hg0
        obtain ⟨hr1, hr2, hr3, hr4, hr5⟩ := hr
        rw [List.length_drop, hsl.out] at hr3
        have hwr := hes.out.ew.bel.size
        have hmany := hide (fun w2 k => hes.out.many (w2 := w2) (Nat.le_trans hBw hwr) k K (by omega) hr4 hr5)
        have hTr : Hid (Tabs wr B) := hide (hT.out.keep (fun p hp => hes.out.ew.bel.cell hp))
        replace hdr1 := hide hdr1
        replace hdr2 := hide hdr2
        replace hr4 := hide hr4
        replace hr5 := hide hr5
        replace hkinds := hide hkinds
        have hcase : ((((R : Nat) : Int) == 65533) = false) ∨ ((((R : Nat) : Int) == 65533) = true ∧ (((K : Nat) : Int) == 1) = false) := by
          by_cases h1 : R = 65533
          · exact Or.inr ⟨by simp [h1], by simp; exact fun h2 => hr1 ⟨h1, by omega⟩⟩
          · exact Or.inl (by simp; omega)
        replace hr1 := hide hr1
        rcases hcase with q1 | ⟨q1, q2⟩
        all_goals
          go_wp2_with (go_at_call 125; refine (Any.utf8_DecodeRuneInString Tryz.lays197 (s.extract i s.size) _ hTr.out.1).mono ?_; rintro e w2 ⟨rfl, hb2⟩; rw [hdr1.out, hdr2.out]; replace hb2 := hide hb2)
          go_roundw
        all_goals first
          | exact ⟨a, i + K, by go_num, by go_num, hmany.out w2 hb2.out⟩
          | (simp [RowKit.intOf]; omega)
    · have hfi := hes.fl.2.1
      obtain rfl : i = s.size := by omega
      have hall : s.data.toList.take s.size = s.data.toList := by rw [List.take_of_length_le (by rw [hsl.out]; exact Nat.le_refl _)]
      have hflu := hes.fl.2.2
      rw [hall] at hflu hqi
      rw [hsl.out] at hqi
      have hqe := qA_end s
      have hsz : (s.extract a s.size).size = s.size - a := by rw [ByteArray.size_extract]; omega
      replace hsz := hide hsz
      replace hqe := hide hqe
      replace hflu := hide hflu
      replace hes := hide hes
      by_cases hai2 : a < s.size
      · have hai3 : (a : Int) < (s.size : Int) := by omega
        replace hall := hide hall
        go_upto_region 39 with fail
        refine region_tail 9 wr.drew rfl (by kernel_rfl) (by kernel_rfl) ?_
        simp only [List.take_succ_cons, List.take_zero, List.drop_succ_cons, List.drop_zero]
        repeat (go_big_quiet_step (fail))
        refine wpQuiet_nil ?_
        go_upto_region 40 with (go_at_call 113; refine (ew_str (qA (s.data.toList.take a)) (s.extract a s.size) hes.out.ew.drew hne (by have := hsz.out; omega) hBw).mono ?_; rintro r w2 ⟨rfl, h2⟩; rw [hflu.out] at h2; have c2 := h2.en.cell; replace h2 := hide h2)
        go_wp2_with (go_at_call 235; refine (ew_byte (qA s.data.toList) 34 34 rfl h2.out hne (by omega) hBw).mono ?_; rintro r w3 ⟨rfl, h3⟩; rw [hqe.out] at h3; replace h3 := hide h3)
        go_end0
        exact ⟨rfl, h3.out⟩
      · have hai3 : ¬ (a : Int) < (s.size : Int) := by omega
        have h2 := hes.out.ew
        rw [show a = s.size by omega, hall] at h2
        replace hall := hide hall
        replace h2 := hide h2
        go_wp2_with (go_at_call 235; refine (ew_byte (qA s.data.toList) 34 34 rfl h2.out hne (by omega) hBw).mono ?_; rintro r w3 ⟨rfl, h3⟩; rw [hqe.out] at h3; replace h3 := hide h3)
        go_end0
        exact ⟨rfl, h3.out⟩
end Go.Proofs.YtbnbemacljjimaaGreatDoor
