/- Tokens of a JSON text: what stands at a place, and which token is the next. -/
import Derived.Test.YtbnbemacljjimaaGreatDoorJc04
import Derived.Test.YtbnbemacljjimaaGreatDoorJc00
import Derived.Test.YtbnbemacljjimaaGreatDoorJc01
namespace Go.Proofs.YtbnbemacljjimaaGreatDoor
open Go.RowKit Go.Lib
set_option linter.unusedVariables false

/-- At place a of text s stands l, up to the end. -/
def Pt (s : ByteArray) (a : Nat) (l : List UInt8) : Prop := s.data.toList.drop a = l ∧ a ≤ s.size

theorem Pt.room {s : ByteArray} {a : Nat} {l : List UInt8} (h : Pt s a l) : a + l.length = s.size := by
  have h1 := congrArg List.length h.1
  rw [List.length_drop, Array.length_toList] at h1
  have h2 : s.data.size = s.size := rfl
  have := h.2
  omega
theorem Pt.next {s : ByteArray} {a : Nat} {c : UInt8} {l : List UInt8} (h : Pt s a (c :: l)) : Pt s (a + 1) l := by
  have hr := h.room
  rw [List.length_cons] at hr
  refine ⟨?_, by omega⟩
  rw [← List.drop_drop, h.1]
  rfl
theorem Pt.skip {s : ByteArray} : ∀ {l1 : List UInt8} {a : Nat} {l2 : List UInt8}, Pt s a (l1 ++ l2) → Pt s (a + l1.length) l2
  | [], a, l2, h => h
  | c :: l1, a, l2, h => by
    have h1 := (Pt.next h).skip
    rw [List.length_cons, show a + (l1.length + 1) = a + 1 + l1.length by omega]
    exact h1
theorem Pt.at {s : ByteArray} {a : Nat} {c : UInt8} {l : List UInt8} (h : Pt s a (c :: l)) : ∃ hi : a < s.size, s[a] = c := by
  have hr := h.room
  rw [List.length_cons] at hr
  have hi : a < s.size := by omega
  refine ⟨hi, ?_⟩
  have h1 := List.drop_eq_getElem_cons (l := s.data.toList) (i := a) (by simpa using hi)
  rw [h.1] at h1
  injection h1 with h1
  rw [h1]
  rfl
theorem Pt.cut {s : ByteArray} {a : Nat} {l1 l2 : List UInt8} (h : Pt s a (l1 ++ l2)) : s.extract a (a + l1.length) = ⟨l1.toArray⟩ := by
  apply ByteArray.ext
  apply Array.toList_inj.1
  rw [ByteArray.data_extract, Array.toList_extract, List.extract_eq_take_drop, h.1]
  rw [Nat.add_sub_cancel_left, List.take_left']
  rfl
theorem Pt.end {s : ByteArray} {a : Nat} (h : Pt s a []) : a = s.size := h.room
theorem Pt.zero (s : ByteArray) : Pt s 0 s.data.toList := ⟨rfl, Nat.zero_le _⟩
theorem Pt.get {s : ByteArray} {a : Nat} {l : List UInt8} (h : Pt s a l) {i : Nat} (hi : a + i < s.size) : l[i]? = some s[a + i] := by
  rw [← h.1, List.getElem?_drop, List.getElem?_eq_getElem (by simpa using hi)]
  rfl

/-- A byte that can stand in a name. -/
def ltr (c : Nat) (first : Bool) : Bool := (97 ≤ c && c ≤ 122) || (65 ≤ c && c ≤ 90) || c == 95 || (!first && (48 ≤ c && c ≤ 57))
def digB (c : UInt8) : Prop := 48 ≤ c.toNat ∧ c.toNat ≤ 57

def kOp : ByteArray := ⟨#[111, 112]⟩
def kName : ByteArray := ⟨#[110, 97, 109, 101]⟩
def kNum : ByteArray := ⟨#[110, 117, 109]⟩
def kStr : ByteArray := ⟨#[115, 116, 114]⟩
def kEnd : ByteArray := ⟨#[101, 110, 100]⟩
def wNull : List UInt8 := [110, 117, 108, 108]
def wTrue : List UInt8 := [116, 114, 117, 101]
def wFalse : List UInt8 := [102, 97, 108, 115, 101]

/-- The text of a number: digits, and perhaps a half. -/
def NumT (d : List UInt8) : Prop := ∃ d1 d2, d = d1 ++ d2 ∧ d1 ≠ [] ∧ (∀ c ∈ d1, digB c) ∧ (d2 = [] ∨ d2 = [46, 53])
/-- What ends a JSON value: a sign, or the end. -/
def Fol (l : List UInt8) : Prop := l = [] ∨ ∃ c r, l = c :: r ∧ (c = 44 ∨ c = 58 ∨ c = 93 ∨ c = 125)

instance (c : UInt8) : Decidable (digB c) := by unfold digB; infer_instance
/-- How long the name is that begins l. -/
def wl : Bool → List UInt8 → Nat
  | _, [] => 0
  | f, c :: l => if ltr c.toNat f = true then wl false l + 1 else 0
/-- A digit, or a point ahead of a digit. -/
def numC : List UInt8 → Bool
  | [] => false
  | c :: l => decide (digB c) || (c == 46 && match l with | [] => false | d :: _ => decide (digB d))
/-- How long the number is that begins l. -/
def nl : List UInt8 → Nat
  | [] => 0
  | c :: l => if numC (c :: l) = true then nl l + 1 else 0

/-- Signs of one byte that JSON texts have. -/
def opc (c : UInt8) : Prop := c = 44 ∨ c = 58 ∨ c = 91 ∨ c = 93 ∨ c = 123 ∨ c = 125 ∨ c = 45
/-- A list that begins with a JSON text's token, or is at its end. -/
def OkTok (l : List UInt8) : Prop := l = [] ∨ ∃ c m, l = c :: m ∧ (c = 34 ∨ digB c ∨ ltr c.toNat true = true ∨ opc c ∧ (c = 45 → ∃ d r, m = d :: r ∧ digB d))
/-- A JSON text's next token: its kind, its text, and how long it is. -/
def nxK : List UInt8 → ByteArray
  | [] => kEnd
  | c :: m => if ltr c.toNat true = true then kName else if c = 34 then kStr else if digB c then kNum else kOp
def nxT : List UInt8 → ByteArray
  | [] => ⟨#[]⟩
  | c :: m => if ltr c.toNat true = true then ⟨((c :: m).take (wl true (c :: m))).toArray⟩ else if c = 34 then ⟨#[]⟩ else if digB c then ⟨((c :: m).take (nl (c :: m))).toArray⟩ else ⟨#[c]⟩
def nxN : List UInt8 → Nat
  | [] => 0
  | c :: m => if ltr c.toNat true = true then wl true (c :: m) else if c = 34 then 1 else if digB c then nl (c :: m) else 1

theorem wl_le : ∀ (f : Bool) (l : List UInt8), wl f l ≤ l.length
  | _, [] => Nat.le_refl _
  | f, c :: l => by
    rw [wl, List.length_cons]
    split
    · have := wl_le false l
      omega
    · omega
theorem nl_le : ∀ (l : List UInt8), nl l ≤ l.length
  | [] => Nat.le_refl _
  | c :: l => by
    rw [nl, List.length_cons]
    split
    · have := nl_le l
      omega
    · omega
theorem nxN_le (l : List UInt8) : nxN l ≤ l.length := by
  cases l with
  | nil => exact Nat.le_refl _
  | cons c m =>
    have h1 := wl_le true (c :: m)
    have h2 := nl_le (c :: m)
    show (if ltr c.toNat true = true then wl true (c :: m) else if c = 34 then 1 else if digB c then nl (c :: m) else 1) ≤ _
    have h3 : 1 ≤ (c :: m).length := by simp
    split
    · exact h1
    · split
      · exact h3
      · split
        · exact h2
        · exact h3

theorem u8ne {c : UInt8} {k : Nat} (h : c.toNat ≠ k) (d : UInt8) (hd : d.toNat = k) : c ≠ d := fun e => h (by rw [e, hd])
theorem ltr_op {c : UInt8} (h : opc c) (f : Bool) : ltr c.toNat f = false := by
  rcases h with rfl | rfl | rfl | rfl | rfl | rfl | rfl <;> cases f <;> rfl
theorem dig_op {c : UInt8} (h : opc c) : ¬ digB c := by
  rcases h with rfl | rfl | rfl | rfl | rfl | rfl | rfl <;> decide
theorem ltr_dig {c : UInt8} (h : digB c) : ltr c.toNat true = false := by
  have h1 := h.1
  have h2 := h.2
  unfold ltr
  simp
  omega
theorem nx_op {c : UInt8} {m : List UInt8} (h : opc c) : nxK (c :: m) = kOp ∧ nxT (c :: m) = ⟨#[c]⟩ ∧ nxN (c :: m) = 1 := by
  have h1 := ltr_op h true
  have h2 := dig_op h
  have h3 : c ≠ 34 := by rcases h with rfl | rfl | rfl | rfl | rfl | rfl | rfl <;> decide
  unfold nxK nxT nxN
  simp [h1, h2, h3]
theorem nx_str {m : List UInt8} : nxK (34 :: m) = kStr ∧ nxT (34 :: m) = ⟨#[]⟩ ∧ nxN (34 :: m) = 1 := ⟨rfl, rfl, rfl⟩

theorem nx_ltr {c : UInt8} {m : List UInt8} (h : ltr c.toNat true = true) : nxK (c :: m) = kName ∧ nxT (c :: m) = ⟨((c :: m).take (wl true (c :: m))).toArray⟩ ∧ nxN (c :: m) = wl true (c :: m) := ⟨if_pos h, if_pos h, if_pos h⟩
theorem nx_dig {c : UInt8} {m : List UInt8} (h : digB c) : nxK (c :: m) = kNum ∧ nxT (c :: m) = ⟨((c :: m).take (nl (c :: m))).toArray⟩ ∧ nxN (c :: m) = nl (c :: m) := by
  have h1 : ¬ ltr c.toNat true = true := by rw [ltr_dig h]; simp
  have h2 : c ≠ 34 := by rintro rfl; exact absurd h (by decide)
  exact ⟨(if_neg h1).trans ((if_neg h2).trans (if_pos h)), (if_neg h1).trans ((if_neg h2).trans (if_pos h)), (if_neg h1).trans ((if_neg h2).trans (if_pos h))⟩
theorem Fol.ltr {l : List UInt8} (h : Fol l) (f : Bool) : wl f l = 0 := by
  rcases h with rfl | ⟨c, r, rfl, h⟩
  · rfl
  · rcases h with rfl | rfl | rfl | rfl <;> cases f <;> rfl
theorem Fol.num {l : List UInt8} (h : Fol l) : nl l = 0 := by
  rcases h with rfl | ⟨c, r, rfl, h⟩
  · rfl
  · rcases h with rfl | rfl | rfl | rfl <;> rfl
theorem Fol.ok {l : List UInt8} (h : Fol l) : OkTok l := by
  rcases h with rfl | ⟨c, r, rfl, h⟩
  · exact Or.inl rfl
  · refine Or.inr ⟨c, r, rfl, Or.inr (Or.inr (Or.inr ⟨?_, ?_⟩))⟩
    · unfold opc
      rcases h with rfl | rfl | rfl | rfl <;> simp
    · rintro rfl
      simp at h

theorem nl_half {l : List UInt8} (h : Fol l) : nl ([46, 53] ++ l) = 2 := by
  have h1 : nl (53 :: l) = 1 := by
    rw [nl, if_pos (by unfold numC; simp [show digB 53 from by decide]), h.num]
  show nl (46 :: 53 :: l) = 2
  rw [nl, if_pos (by unfold numC; simp [show digB 53 from by decide]), h1]
theorem nl_digs : ∀ (d m : List UInt8), (∀ c ∈ d, digB c) → nl (d ++ m) = d.length + nl m
  | [], m, _ => by simp
  | c :: d, m, h => by
    rw [List.cons_append, nl, if_pos (by unfold numC; simp [h c List.mem_cons_self]), nl_digs d m (fun x hx => h x (List.mem_cons_of_mem _ hx)), List.length_cons]
    omega
theorem nl_num {d l : List UInt8} (h : NumT d) (hl : Fol l) : nl (d ++ l) = d.length := by
  obtain ⟨d1, d2, rfl, h1, h2, h3 | h3⟩ := h
  · subst h3
    rw [List.append_nil, nl_digs d1 l h2, hl.num]
    rfl
  · subst h3
    rw [List.append_assoc, nl_digs d1 _ h2, nl_half hl, List.length_append]
    rfl
theorem NumT.head {d : List UInt8} (h : NumT d) : ∃ c r, d = c :: r ∧ digB c := by
  obtain ⟨d1, d2, rfl, h1, h2, h3⟩ := h
  cases d1 with
  | nil => exact absurd rfl h1
  | cons c r => exact ⟨c, r ++ d2, rfl, h2 c List.mem_cons_self⟩
theorem nx_num {d l : List UInt8} (h : NumT d) (hl : Fol l) : nxK (d ++ l) = kNum ∧ nxT (d ++ l) = ⟨d.toArray⟩ ∧ nxN (d ++ l) = d.length := by
  have hn := nl_num h hl
  obtain ⟨c, r, rfl, hc⟩ := h.head
  have h1 := ltr_dig hc
  have h3 : c ≠ 34 := by rintro rfl; exact absurd hc (by decide)
  rw [List.cons_append] at hn ⊢
  unfold nxK nxT nxN
  simp only [h1, h3, hc, if_true, if_false, hn]
  refine ⟨by simp, ?_, by simp⟩
  rw [← List.cons_append, List.take_left' rfl]
  simp
theorem nx_name {d l : List UInt8} (h : d = wNull ∨ d = wTrue ∨ d = wFalse) (hl : Fol l) : nxK (d ++ l) = kName ∧ nxT (d ++ l) = ⟨d.toArray⟩ ∧ nxN (d ++ l) = d.length := by
  have h0 := hl.ltr false
  rcases h with rfl | rfl | rfl
  · have hw : wl true (wNull ++ l) = 4 := by
      show wl true (110 :: 117 :: 108 :: 108 :: l) = 4
      simp [wl, ltr, h0]
    have : nxN (wNull ++ l) = wl true (wNull ++ l) := rfl
    refine ⟨rfl, ?_, by rw [this, hw]; rfl⟩
    have : nxT (wNull ++ l) = ⟨((wNull ++ l).take (wl true (wNull ++ l))).toArray⟩ := rfl
    rw [this, hw]
    rfl
  · have hw : wl true (wTrue ++ l) = 4 := by
      show wl true (116 :: 114 :: 117 :: 101 :: l) = 4
      simp [wl, ltr, h0]
    have : nxN (wTrue ++ l) = wl true (wTrue ++ l) := rfl
    refine ⟨rfl, ?_, by rw [this, hw]; rfl⟩
    have : nxT (wTrue ++ l) = ⟨((wTrue ++ l).take (wl true (wTrue ++ l))).toArray⟩ := rfl
    rw [this, hw]
    rfl
  · have hw : wl true (wFalse ++ l) = 5 := by
      show wl true (102 :: 97 :: 108 :: 115 :: 101 :: l) = 5
      simp [wl, ltr, h0]
    have : nxN (wFalse ++ l) = wl true (wFalse ++ l) := rfl
    refine ⟨rfl, ?_, by rw [this, hw]; rfl⟩
    have : nxT (wFalse ++ l) = ⟨((wFalse ++ l).take (wl true (wFalse ++ l))).toArray⟩ := rfl
    rw [this, hw]
    rfl

/-- The reader's block: its text, the place behind the token, the token, and whether something is wrong. -/
def Rd (w : World) (r : Nat) (s : ByteArray) (a : Nat) (k x : ByteArray) (bad : Bool) : Prop :=
  Blk w r 61 #[.string s, .int .i64 a, .string k, .string x, .bool bad]
/-- The reader's token is k, x; l stands behind it. -/
def Tok (w : World) (r : Nat) (s k x : ByteArray) (l : List UInt8) : Prop := ∃ a, Rd w r s a k x false ∧ Pt s a l
/-- The reader's token is the first one of l. -/
def Ready (w : World) (r : Nat) (s : ByteArray) (l : List UInt8) : Prop := Tok w r s (nxK l) (nxT l) (l.drop (nxN l))

theorem Rd.only {w w' : World} {r : Nat} {s : ByteArray} {a : Nat} {k x : ByteArray} {bad : Bool} {P : Nat → Prop} (h : Rd w r s a k x bad) (ho : Only P w w') (hn : ¬ P r) : Rd w' r s a k x bad := ho.blk h hn
theorem Tok.only {w w' : World} {r : Nat} {s k x : ByteArray} {l : List UInt8} {P : Nat → Prop} (h : Tok w r s k x l) (ho : Only P w w') (hn : ¬ P r) : Tok w' r s k x l := by
  obtain ⟨a, h1, h2⟩ := h
  exact ⟨a, h1.only ho hn, h2⟩
end Go.Proofs.YtbnbemacljjimaaGreatDoor

namespace Go.Proofs.YtbnbemacljjimaaGreatDoor
open Go.RowKit Go.Lib
set_option linter.unusedVariables false

set_option maxHeartbeats 1000000 in
set_option maxRecDepth 100000 in
theorem letter_any (w : World) (c : Nat) (f : Bool) :
    Calls Tryz.prog 71 #[.int .u8 (c : Int), .bool f] w fun e w' => e = .returned (.bool (ltr c f)) ∧ w = w' := by
  have cases : c < 48 ∨ (48 ≤ c ∧ c ≤ 57) ∨ (58 ≤ c ∧ c < 65) ∨ (65 ≤ c ∧ c ≤ 90) ∨ (91 ≤ c ∧ c < 95) ∨ c = 95 ∨ c = 96 ∨ (97 ≤ c ∧ c ≤ 122) ∨ 123 ≤ c := by omega
  rcases cases with h | h | h | h | h | h | h | h | h
  · have l1 : ltr c f = false := by unfold ltr; simp; omega
    have b1 : ¬ (97 : Int) ≤ (c : Int) := by omega
    have b2 : ¬ (65 : Int) ≤ (c : Int) := by omega
    have b3 : ((c : Int) == 95) = false := by simp; omega
    have b4 : ¬ (48 : Int) ≤ (c : Int) := by omega
    rw [l1]
    clear l1
    replace h := hide h
    cases f
    all_goals
      go_enter Tryz.func71, Tryz.ntmps71
      go_wp2
      go_ret
      exact ⟨rfl, rfl⟩
  · have b1 : ¬ (97 : Int) ≤ (c : Int) := by omega
    have b2 : ¬ (65 : Int) ≤ (c : Int) := by omega
    have b3 : ((c : Int) == 95) = false := by simp; omega
    have b4 : (48 : Int) ≤ (c : Int) := by omega
    have b5 : (c : Int) ≤ 57 := by omega
    cases f
    · have l1 : ltr c false = true := by unfold ltr; simp; omega
      rw [l1]
      clear l1
      replace h := hide h
      go_enter Tryz.func71, Tryz.ntmps71
      go_wp2
      go_ret
      exact ⟨rfl, rfl⟩
    · have l1 : ltr c true = false := by unfold ltr; simp; omega
      rw [l1]
      clear l1
      replace h := hide h
      go_enter Tryz.func71, Tryz.ntmps71
      go_wp2
      go_ret
      exact ⟨rfl, rfl⟩
  · have l1 : ltr c f = false := by unfold ltr; simp; omega
    have b1 : ¬ (97 : Int) ≤ (c : Int) := by omega
    have b2 : ¬ (65 : Int) ≤ (c : Int) := by omega
    have b3 : ((c : Int) == 95) = false := by simp; omega
    have b4 : (48 : Int) ≤ (c : Int) := by omega
    have b5 : ¬ (c : Int) ≤ 57 := by omega
    rw [l1]
    clear l1
    replace h := hide h
    cases f
    all_goals
      go_enter Tryz.func71, Tryz.ntmps71
      go_wp2
      go_ret
      exact ⟨rfl, rfl⟩
  · have l1 : ltr c f = true := by unfold ltr; simp; omega
    have b1 : ¬ (97 : Int) ≤ (c : Int) := by omega
    have b2 : (65 : Int) ≤ (c : Int) := by omega
    have b3 : (c : Int) ≤ 90 := by omega
    rw [l1]
    clear l1
    replace h := hide h
    go_enter Tryz.func71, Tryz.ntmps71
    go_wp2
    go_ret
    exact ⟨rfl, rfl⟩
  · have l1 : ltr c f = false := by unfold ltr; simp; omega
    have b1 : ¬ (97 : Int) ≤ (c : Int) := by omega
    have b2 : (65 : Int) ≤ (c : Int) := by omega
    have b6 : ¬ (c : Int) ≤ 90 := by omega
    have b3 : ((c : Int) == 95) = false := by simp; omega
    have b4 : (48 : Int) ≤ (c : Int) := by omega
    have b5 : ¬ (c : Int) ≤ 57 := by omega
    rw [l1]
    clear l1
    replace h := hide h
    cases f
    all_goals
      go_enter Tryz.func71, Tryz.ntmps71
      go_wp2
      go_ret
      exact ⟨rfl, rfl⟩
  · subst h
    have l1 : ltr 95 f = true := by cases f <;> rfl
    rw [l1]
    go_enter Tryz.func71, Tryz.ntmps71
    go_wp2
    go_ret
    exact ⟨rfl, rfl⟩
  · subst h
    cases f
    all_goals
      go_enter Tryz.func71, Tryz.ntmps71
      go_wp2
      go_ret
      exact ⟨rfl, rfl⟩
  · have l1 : ltr c f = true := by unfold ltr; simp; omega
    have b1 : (97 : Int) ≤ (c : Int) := by omega
    have b2 : (c : Int) ≤ 122 := by omega
    rw [l1]
    clear l1
    replace h := hide h
    go_enter Tryz.func71, Tryz.ntmps71
    go_wp2
    go_ret
    exact ⟨rfl, rfl⟩
  · have l1 : ltr c f = false := by unfold ltr; simp; omega
    have b1 : (97 : Int) ≤ (c : Int) := by omega
    have b7 : ¬ (c : Int) ≤ 122 := by omega
    have b2 : (65 : Int) ≤ (c : Int) := by omega
    have b6 : ¬ (c : Int) ≤ 90 := by omega
    have b3 : ((c : Int) == 95) = false := by simp; omega
    have b4 : (48 : Int) ≤ (c : Int) := by omega
    have b5 : ¬ (c : Int) ≤ 57 := by omega
    rw [l1]
    clear l1
    replace h := hide h
    cases f
    all_goals
      go_enter Tryz.func71, Tryz.ntmps71
      go_wp2
      go_ret
      exact ⟨rfl, rfl⟩

set_option maxHeartbeats 1000000 in
set_option maxRecDepth 100000 in
theorem take_any (w : World) (r : Nat) (s k x k2 x2 : ByteArray) (a n : Nat) (bad : Bool) (h : Rd w r s a k x bad) (hs : a + n ≤ 9223372036854775807) :
    Calls Tryz.prog 48 #[.pointer (some ⟨r, 0, none⟩), .string k2, .string x2, .int .i64 (n : Int)] w fun e w' => e = .returned (.tuple #[]) ∧ Rd w' r s (a + n) k2 x2 bad ∧ Only (· = r) w w' := by
  have c0 := h.cell 0
  have c1 := h.cell 1
  have c2 := h.cell 2
  have c3 := h.cell 3
  simp at c0 c1 c2 c3
  have f0 := h.frozen 1
  have f1 := h.frozen 2
  have f2 := h.frozen 3
  go_enter Tryz.func48, Tryz.ntmps48
  replace h := hide h
  go_wp2
  go_end0
  refine ⟨rfl, ?_, ?_⟩
  · have h1 := ((h.out.set_ 2 (.string k2)).set_ 3 (.string x2)).set_ 1 (.int .i64 ((a : Int) + (n : Int)))
    simpa [Rd] using h1
  · exact (((Only.refl (· = r) w).setCell (p := ⟨r, 2, none⟩) (Or.inl rfl) _).setCell (p := ⟨r, 3, none⟩) (Or.inl rfl) _).setCell (p := ⟨r, 1, none⟩) (Or.inl rfl) _

theorem Pt.lt {s : ByteArray} {a : Nat} {c : UInt8} {l : List UInt8} (h : Pt s a (c :: l)) : a < s.size := h.at.1

theorem take_drop_len {α : Type} {l : List α} {n : Nat} (h : n ≤ l.length) : l.take n ++ l.drop n = l ∧ (l.take n).length = n := ⟨List.take_append_drop n l, by rw [List.length_take]; omega⟩
theorem Pt.cutN {s : ByteArray} {a n : Nat} {l : List UInt8} (h : Pt s a l) (hn : n ≤ l.length) : s.extract a (a + n) = ⟨(l.take n).toArray⟩ := by
  obtain ⟨h1, h2⟩ := take_drop_len hn
  rw [← h1] at h
  have := h.cut
  rw [h2] at this
  exact this
theorem Pt.skipN {s : ByteArray} {a n : Nat} {l : List UInt8} (h : Pt s a l) (hn : n ≤ l.length) : Pt s (a + n) (l.drop n) := by
  obtain ⟨h1, h2⟩ := take_drop_len hn
  rw [← h1] at h
  have := h.skip
  rw [h2] at this
  exact this

set_option maxHeartbeats 1000000 in
set_option maxRecDepth 100000 in
theorem word_any (w : World) (r : Nat) (s k x : ByteArray) (a p : Nat) (bad : Bool) (l : List UInt8) (h : Rd w r s a k x bad) (hp : Pt s p l) (hs : s.size ≤ 1000000) :
    Calls Tryz.prog 47 #[.pointer (some ⟨r, 0, none⟩), .int .i64 (p : Int)] w fun e w' => e = .returned (.string ⟨(l.take (wl true l)).toArray⟩) ∧ w = w' := by
  have c0 := h.cell 0
  simp at c0
  have hps := hp.2
  replace h := hide h
  replace hp := hide hp
  go_enter Tryz.func47, Tryz.ntmps47
  go_wp2
  go_loopw [5] (fun s5 wr => ∃ n : Nat, s5 = .int .i64 (n : Int) ∧ p ≤ n ∧ n ≤ s.size ∧ wr = w ∧ ∃ m, Pt s n m ∧ n + wl (n == p) m = p + wl true l) (fun n _ => s.size - (RowKit.intOf n).toNat)
  case atStart => exact ⟨p, rfl, Nat.le_refl _, hps, rfl, l, hp.out, by simp⟩
  case round =>
    obtain ⟨n, rfl, hpn, hn, rfl, m, hm, hw⟩ := hrel
    by_cases hlt : n < s.size
    · obtain ⟨c, m2, rfl⟩ : ∃ c m2, m = c :: m2 := by
        cases m with
        | nil => have := hm.end; omega
        | cons c m2 => exact ⟨c, m2, rfl⟩
      obtain ⟨hi, hc⟩ := hm.at
      have hnx := hm.next
      rw [wl] at hw
      have hcn : s[n].toNat = c.toNat := by rw [hc]
      obtain ⟨C, hC⟩ : ∃ C, c.toNat = C := ⟨_, rfl⟩
      rw [hC] at hcn hw
      replace hnx := hide hnx
      replace hm := hide hm
      replace hC := hide hC
      replace hc := hide hc
      by_cases hnp : n = p
      · have hb : ((n : Int) == (p : Int)) = true := by simp [hnp]
        have hb2 : (n == p) = true := by simp [hnp]
        rw [hb2] at hw
        replace hb2 := hide hb2
        replace hnp := hide hnp
        cases hL : ltr C true with
        | true =>
          rw [hL, if_pos rfl] at hw
          replace hw := hide hw
          go_wp2_with (go_at_call 71; refine (letter_any _ C true).mono ?_; rintro e w1 ⟨rfl, rfl⟩; rw [hL])
          go_roundw
          case rel =>
            refine ⟨n + 1, by go_num, by omega, by omega, trivial, m2, hnx.out, ?_⟩
            rw [show (n + 1 == p) = false by simp; omega]
            have := hw.out
            omega
          case measure => simp [RowKit.intOf]; omega
        | false =>
          rw [hL, if_neg (by simp)] at hw
          have hse := Pt.cutN hp.out (wl_le true l)
          rw [show p + wl true l = n by omega] at hse
          replace hw := hide hw
          replace hse := hide hse
          go_wp2_with (go_at_call 71; refine (letter_any _ C true).mono ?_; rintro e w1 ⟨rfl, rfl⟩; rw [hL])
          go_ret
          exact ⟨by rw [hse.out]; rfl, rfl⟩
      · have hb : ((n : Int) == (p : Int)) = false := by simp; omega
        have hb2 : (n == p) = false := by simp [hnp]
        rw [hb2] at hw
        replace hb2 := hide hb2
        replace hnp := hide hnp
        cases hL : ltr C false with
        | true =>
          rw [hL, if_pos rfl] at hw
          replace hw := hide hw
          go_wp2_with (go_at_call 71; refine (letter_any _ C false).mono ?_; rintro e w1 ⟨rfl, rfl⟩; rw [hL])
          go_roundw
          case rel =>
            refine ⟨n + 1, by go_num, by omega, by omega, trivial, m2, hnx.out, ?_⟩
            rw [show (n + 1 == p) = false by simp; omega]
            have := hw.out
            omega
          case measure => simp [RowKit.intOf]; omega
        | false =>
          rw [hL, if_neg (by simp)] at hw
          have hse := Pt.cutN hp.out (wl_le true l)
          rw [show p + wl true l = n by omega] at hse
          replace hw := hide hw
          replace hse := hide hse
          go_wp2_with (go_at_call 71; refine (letter_any _ C false).mono ?_; rintro e w1 ⟨rfl, rfl⟩; rw [hL])
          go_ret
          exact ⟨by rw [hse.out]; rfl, rfl⟩
    · obtain rfl : n = s.size := by omega
      have hm0 : m = [] := by
        have := hm.room
        exact List.eq_nil_of_length_eq_zero (by omega)
      subst hm0
      rw [show wl (s.size == p) [] = 0 from rfl] at hw
      have hse := Pt.cutN hp.out (wl_le true l)
      rw [show p + wl true l = s.size by omega] at hse
      replace hw := hide hw
      replace hse := hide hse
      replace hm := hide hm
      go_wp2
      go_ret
      exact ⟨by rw [hse.out]; rfl, rfl⟩

theorem numC_dig {c : UInt8} {m : List UInt8} (h : digB c) : numC (c :: m) = true := by
  unfold numC
  simp [h]
theorem numC_pt (d : UInt8) (m : List UInt8) : numC (46 :: d :: m) = decide (digB d) := by
  unfold numC
  simp [show ¬ digB 46 from by decide]

set_option maxHeartbeats 2000000 in
set_option maxRecDepth 100000 in
theorem number_any (w : World) (r : Nat) (s k x : ByteArray) (a : Nat) (bad : Bool) (l : List UInt8) (h : Rd w r s a k x bad) (hp : Pt s a l) (hs : s.size ≤ 1000000) :
    Calls Tryz.prog 49 #[.pointer (some ⟨r, 0, none⟩)] w fun e w' => e = .returned (.tuple #[]) ∧ Rd w' r s (a + nl l) kNum ⟨(l.take (nl l)).toArray⟩ bad ∧ Only (· = r) w w' := by
  have c0 := h.cell 0
  have c1 := h.cell 1
  simp at c0 c1
  have hps := hp.2
  replace h := hide h
  replace hp := hide hp
  go_enter Tryz.func49, Tryz.ntmps49
  go_wp2
  go_loopw [2] (fun s2 wr => ∃ n : Nat, s2 = .int .i64 (n : Int) ∧ a ≤ n ∧ n ≤ s.size ∧ wr = w ∧ ∃ m, Pt s n m ∧ n + nl m = a + nl l) (fun n _ => s.size - (RowKit.intOf n).toNat)
  case atStart => exact ⟨a, rfl, Nat.le_refl _, hps, rfl, l, hp.out, rfl⟩
  case round =>
    obtain ⟨n, rfl, hpn, hn, rfl, m, hm, hw⟩ := hrel
    by_cases hlt : n < s.size
    · obtain ⟨c, m2, rfl⟩ : ∃ c m2, m = c :: m2 := by
        cases m with
        | nil => have := hm.end; omega
        | cons c m2 => exact ⟨c, m2, rfl⟩
      obtain ⟨hi, hc⟩ := hm.at
      have hnx := hm.next
      rw [nl] at hw
      have hcn : s[n].toNat = c.toNat := by rw [hc]
      have hcC : 48 ≤ c.toNat ∧ c.toNat ≤ 57 ↔ digB c := Iff.rfl
      have hc46 : c = 46 ↔ c.toNat = 46 := (UInt8.toNat_inj (a := c) (b := 46)).symm
      obtain ⟨C, hC⟩ : ∃ C, c.toNat = C := ⟨_, rfl⟩
      rw [hC] at hcn hcC hc46
      replace hm := hide hm
      replace hC := hide hC
      replace hc := hide hc
      have kinds : (48 ≤ C ∧ C ≤ 57) ∨ C = 46 ∨ (C < 48 ∧ C ≠ 46) ∨ 57 < C := by omega
      rcases kinds with g | g | g | g
      · have hd : numC (c :: m2) = true := numC_dig (hcC.1 g)
        rw [hd, if_pos rfl] at hw
        have b1 : (48 : Int) ≤ (C : Int) := by omega
        have b2 : (C : Int) ≤ 57 := by omega
        replace hd := hide hd
        replace hnx := hide hnx
        replace hcC := hide hcC
        replace hc46 := hide hc46
        replace hw := hide hw
        go_wp2
        go_roundw
        case rel =>
          refine ⟨n + 1, by go_num, by omega, by omega, trivial, m2, hnx.out, ?_⟩
          have := hw.out
          omega
        case measure => simp [RowKit.intOf]; omega
      · have hnd : ¬ digB c := fun hh => by have := hcC.2 hh; omega
        have he := hc46.2 g
        subst g
        by_cases hl2 : n + 1 < s.size
        · obtain ⟨d, m3, rfl⟩ : ∃ d m3, m2 = d :: m3 := by
            cases m2 with
            | nil => have := hnx.end; omega
            | cons d m3 => exact ⟨d, m3, rfl⟩
          obtain ⟨hi2, hc2⟩ := hnx.at
          have hdn : s[n + 1].toNat = d.toNat := by rw [hc2]
          have hdD : 48 ≤ d.toNat ∧ d.toNat ≤ 57 ↔ digB d := Iff.rfl
          obtain ⟨D, hD⟩ : ∃ D, d.toNat = D := ⟨_, rfl⟩
          rw [hD] at hdn hdD
          have hnc : numC (c :: d :: m3) = decide (digB d) := by rw [he]; exact numC_pt d m3
          rw [hnc] at hw
          have hl3 : (n : Int) + 1 < (s.size : Int) := by omega
          replace hD := hide hD
          replace hc2 := hide hc2
          replace hnx := hide hnx
          replace he := hide he
          replace hnc := hide hnc
          have kinds : (48 ≤ D ∧ D ≤ 57) ∨ D < 48 ∨ 57 < D := by omega
          rcases kinds with g | g | g
          · rw [if_pos (by simp [hdD.1 g])] at hw
            have b1 : (48 : Int) ≤ (D : Int) := by omega
            have b2 : (D : Int) ≤ 57 := by omega
            replace hdD := hide hdD
            replace hcC := hide hcC
            replace hc46 := hide hc46
            replace hnd := hide hnd
            replace hw := hide hw
            go_wp2
            go_roundw
            case rel =>
              refine ⟨n + 1, by go_num, by omega, by omega, trivial, d :: m3, hnx.out, ?_⟩
              have := hw.out
              omega
            case measure => simp [RowKit.intOf]; omega
          · have hnd2 : ¬ digB d := fun hh => by have := hdD.2 hh; omega
            rw [if_neg (by simp [hnd2])] at hw
            have b1 : ¬ (48 : Int) ≤ (D : Int) := by omega
            replace hnd2 := hide hnd2
            replace hdD := hide hdD
            replace hcC := hide hcC
            replace hc46 := hide hc46
            replace hnd := hide hnd
            have hse := Pt.cutN hp.out (nl_le l)
            have hfn : n = a + nl l := by omega
            rw [← hfn] at hse
            replace hse := hide hse
            replace hfn := hide hfn
            replace hw := hide hw
            go_upto_region 3 with fail
            refine region_tail 17 wr.drew rfl (by kernel_rfl) (by kernel_rfl) ?_
            simp only [List.take_succ_cons, List.take_zero, List.drop_succ_cons, List.drop_zero]
            repeat (go_big_quiet_step (fail))
            refine wpQuiet_nil ?_
            rw [hse.out]
            have hnd : (n : Int) - (a : Int) = ((n - a : Nat) : Int) := by omega
            go_wp2_with (go_at_call 48; (try rw [hnd]); refine (take_any wr.drew r s k x kNum ⟨(l.take (nl l)).toArray⟩ a (n - a) bad h.out (by omega)).mono ?_; rintro e w2 ⟨rfl, h2, o2⟩; rw [show a + (n - a) = a + nl l by have := hfn.out; omega] at h2; replace h2 := hide h2; replace o2 := hide o2)
            go_end0
            exact ⟨rfl, h2.out, (Only.refl (· = r) wr).drew.trans o2.out⟩
          · have hnd2 : ¬ digB d := fun hh => by have := hdD.2 hh; omega
            rw [if_neg (by simp [hnd2])] at hw
            have b1 : (48 : Int) ≤ (D : Int) := by omega
            have b2 : ¬ (D : Int) ≤ 57 := by omega
            replace hnd2 := hide hnd2
            replace hdD := hide hdD
            replace hcC := hide hcC
            replace hc46 := hide hc46
            replace hnd := hide hnd
            have hse := Pt.cutN hp.out (nl_le l)
            have hfn : n = a + nl l := by omega
            rw [← hfn] at hse
            replace hse := hide hse
            replace hfn := hide hfn
            replace hw := hide hw
            go_upto_region 3 with fail
            refine region_tail 17 wr.drew rfl (by kernel_rfl) (by kernel_rfl) ?_
            simp only [List.take_succ_cons, List.take_zero, List.drop_succ_cons, List.drop_zero]
            repeat (go_big_quiet_step (fail))
            refine wpQuiet_nil ?_
            rw [hse.out]
            have hnd : (n : Int) - (a : Int) = ((n - a : Nat) : Int) := by omega
            go_wp2_with (go_at_call 48; (try rw [hnd]); refine (take_any wr.drew r s k x kNum ⟨(l.take (nl l)).toArray⟩ a (n - a) bad h.out (by omega)).mono ?_; rintro e w2 ⟨rfl, h2, o2⟩; rw [show a + (n - a) = a + nl l by have := hfn.out; omega] at h2; replace h2 := hide h2; replace o2 := hide o2)
            go_end0
            exact ⟨rfl, h2.out, (Only.refl (· = r) wr).drew.trans o2.out⟩
        · have hm2 : m2 = [] := by
            have := hnx.room
            exact List.eq_nil_of_length_eq_zero (by omega)
          subst hm2
          have hnc : numC [c] = false := by unfold numC; simp [hnd]
          rw [hnc, if_neg (by simp)] at hw
          have hl3 : ¬ (n : Int) + 1 < (s.size : Int) := by omega
          replace hnc := hide hnc
          replace hnx := hide hnx
          replace he := hide he
          replace hcC := hide hcC
          replace hc46 := hide hc46
          replace hnd := hide hnd
          have hse := Pt.cutN hp.out (nl_le l)
          have hfn : n = a + nl l := by omega
          rw [← hfn] at hse
          replace hse := hide hse
          replace hfn := hide hfn
          replace hw := hide hw
          go_upto_region 3 with fail
          refine region_tail 17 wr.drew rfl (by kernel_rfl) (by kernel_rfl) ?_
          simp only [List.take_succ_cons, List.take_zero, List.drop_succ_cons, List.drop_zero]
          repeat (go_big_quiet_step (fail))
          refine wpQuiet_nil ?_
          rw [hse.out]
          have hnd : (n : Int) - (a : Int) = ((n - a : Nat) : Int) := by omega
          go_wp2_with (go_at_call 48; (try rw [hnd]); refine (take_any wr.drew r s k x kNum ⟨(l.take (nl l)).toArray⟩ a (n - a) bad h.out (by omega)).mono ?_; rintro e w2 ⟨rfl, h2, o2⟩; rw [show a + (n - a) = a + nl l by have := hfn.out; omega] at h2; replace h2 := hide h2; replace o2 := hide o2)
          go_end0
          exact ⟨rfl, h2.out, (Only.refl (· = r) wr).drew.trans o2.out⟩
      · have hnd : ¬ digB c := fun hh => by have := hcC.2 hh; omega
        have he : c ≠ 46 := fun hh => g.2 (hc46.1 hh)
        have hnc : numC (c :: m2) = false := by unfold numC; simp [hnd, he]
        rw [hnc, if_neg (by simp)] at hw
        have b1 : ¬ (48 : Int) ≤ (C : Int) := by omega
        have b2 : ((C : Int) == 46) = false := by simp; omega
        replace hnc := hide hnc
        replace hnx := hide hnx
        replace he := hide he
        replace hcC := hide hcC
        replace hc46 := hide hc46
        replace hnd := hide hnd
        replace g := hide g
        have hse := Pt.cutN hp.out (nl_le l)
        have hfn : n = a + nl l := by omega
        rw [← hfn] at hse
        replace hse := hide hse
        replace hfn := hide hfn
        replace hw := hide hw
        go_upto_region 3 with fail
        refine region_tail 17 wr.drew rfl (by kernel_rfl) (by kernel_rfl) ?_
        simp only [List.take_succ_cons, List.take_zero, List.drop_succ_cons, List.drop_zero]
        repeat (go_big_quiet_step (fail))
        refine wpQuiet_nil ?_
        rw [hse.out]
        have hnd : (n : Int) - (a : Int) = ((n - a : Nat) : Int) := by omega
        go_wp2_with (go_at_call 48; (try rw [hnd]); refine (take_any wr.drew r s k x kNum ⟨(l.take (nl l)).toArray⟩ a (n - a) bad h.out (by omega)).mono ?_; rintro e w2 ⟨rfl, h2, o2⟩; rw [show a + (n - a) = a + nl l by have := hfn.out; omega] at h2; replace h2 := hide h2; replace o2 := hide o2)
        go_end0
        exact ⟨rfl, h2.out, (Only.refl (· = r) wr).drew.trans o2.out⟩
      · have hnd : ¬ digB c := fun hh => by have := hcC.2 hh; omega
        have he : c ≠ 46 := fun hh => by have := hc46.1 hh; omega
        have hnc : numC (c :: m2) = false := by unfold numC; simp [hnd, he]
        rw [hnc, if_neg (by simp)] at hw
        have b1 : (48 : Int) ≤ (C : Int) := by omega
        have b3 : ¬ (C : Int) ≤ 57 := by omega
        have b2 : ((C : Int) == 46) = false := by simp; omega
        replace hnc := hide hnc
        replace hnx := hide hnx
        replace he := hide he
        replace hcC := hide hcC
        replace hc46 := hide hc46
        replace hnd := hide hnd
        replace g := hide g
        have hse := Pt.cutN hp.out (nl_le l)
        have hfn : n = a + nl l := by omega
        rw [← hfn] at hse
        replace hse := hide hse
        replace hfn := hide hfn
        replace hw := hide hw
        go_upto_region 3 with fail
        refine region_tail 17 wr.drew rfl (by kernel_rfl) (by kernel_rfl) ?_
        simp only [List.take_succ_cons, List.take_zero, List.drop_succ_cons, List.drop_zero]
        repeat (go_big_quiet_step (fail))
        refine wpQuiet_nil ?_
        rw [hse.out]
        have hnd : (n : Int) - (a : Int) = ((n - a : Nat) : Int) := by omega
        go_wp2_with (go_at_call 48; (try rw [hnd]); refine (take_any wr.drew r s k x kNum ⟨(l.take (nl l)).toArray⟩ a (n - a) bad h.out (by omega)).mono ?_; rintro e w2 ⟨rfl, h2, o2⟩; rw [show a + (n - a) = a + nl l by have := hfn.out; omega] at h2; replace h2 := hide h2; replace o2 := hide o2)
        go_end0
        exact ⟨rfl, h2.out, (Only.refl (· = r) wr).drew.trans o2.out⟩
    · obtain rfl : n = s.size := by omega
      have hm0 : m = [] := by
        have := hm.room
        exact List.eq_nil_of_length_eq_zero (by omega)
      subst hm0
      rw [show nl [] = 0 from rfl] at hw
      replace hm := hide hm
      have hse := Pt.cutN hp.out (nl_le l)
      have hfn : s.size = a + nl l := by omega
      rw [← hfn] at hse
      replace hse := hide hse
      replace hfn := hide hfn
      replace hw := hide hw
      go_upto_region 3 with fail
      refine region_tail 17 wr.drew rfl (by kernel_rfl) (by kernel_rfl) ?_
      simp only [List.take_succ_cons, List.take_zero, List.drop_succ_cons, List.drop_zero]
      repeat (go_big_quiet_step (fail))
      refine wpQuiet_nil ?_
      rw [hse.out]
      have hnd : (s.size : Int) - (a : Int) = ((s.size - a : Nat) : Int) := by omega
      go_wp2_with (go_at_call 48; (try rw [hnd]); refine (take_any wr.drew r s k x kNum ⟨(l.take (nl l)).toArray⟩ a (s.size - a) bad h.out (by omega)).mono ?_; rintro e w2 ⟨rfl, h2, o2⟩; rw [show a + (s.size - a) = a + nl l by have := hfn.out; omega] at h2; replace h2 := hide h2; replace o2 := hide o2)
      go_end0
      exact ⟨rfl, h2.out, (Only.refl (· = r) wr).drew.trans o2.out⟩
end Go.Proofs.YtbnbemacljjimaaGreatDoor

namespace Go.Proofs.YtbnbemacljjimaaGreatDoor
open Go.RowKit Go.Lib
set_option linter.unusedVariables false

theorem ba_ne {x y : ByteArray} (h : x ≠ y) : (x.toList == y.toList) = false := by
  cases e : x.toList == y.toList with
  | false => rfl
  | true =>
    have h1 := eq_of_beq e
    rw [Lib.toList_data, Lib.toList_data] at h1
    exact absurd (ByteArray.ext (Array.toList_inj.1 h1)) h
theorem ba_eq {x y : ByteArray} (h : x = y) : (x.toList == y.toList) = true := by
  subst h
  exact beq_self_eq_true _

/-- The signs of more than one byte. -/
def sgL : List (List UInt8) := [[63, 47, 47], [47, 47, 61], [124, 61], [43, 61], [45, 61], [42, 61], [47, 61], [37, 61], [61, 61], [33, 61], [60, 61], [62, 61], [47, 47], [46, 46]]
def sgs : List ByteArray := [⟨#[63, 47, 47]⟩, ⟨#[47, 47, 61]⟩, ⟨#[124, 61]⟩, ⟨#[43, 61]⟩, ⟨#[45, 61]⟩, ⟨#[42, 61]⟩, ⟨#[47, 61]⟩, ⟨#[37, 61]⟩, ⟨#[61, 61]⟩, ⟨#[33, 61]⟩, ⟨#[60, 61]⟩, ⟨#[62, 61]⟩, ⟨#[47, 47]⟩, ⟨#[46, 46]⟩]
def sgC : Array Value := #[.string ⟨#[63, 47, 47]⟩, .string ⟨#[47, 47, 61]⟩, .string ⟨#[124, 61]⟩, .string ⟨#[43, 61]⟩, .string ⟨#[45, 61]⟩, .string ⟨#[42, 61]⟩, .string ⟨#[47, 61]⟩, .string ⟨#[37, 61]⟩, .string ⟨#[61, 61]⟩, .string ⟨#[33, 61]⟩, .string ⟨#[60, 61]⟩, .string ⟨#[62, 61]⟩, .string ⟨#[47, 47]⟩, .string ⟨#[46, 46]⟩]

set_option maxHeartbeats 1000000 in
set_option maxRecDepth 100000 in
theorem signs_any (w : World) :
    Calls Tryz.prog 72 #[] w fun e w' => e = .returned (.slice (some ⟨w.heap.size, 0, none⟩) 14 14) ∧ w' = w.alloc (.cells sgC 9) := by
  go_enter Tryz.func72, Tryz.ntmps72
  go_wp2
  go_ret
  exact ⟨rfl, rfl⟩

theorem sg_cases {i : Nat} {sg : ByteArray} (h : sgs[i]? = some sg) : i < 14 ∧ sgC[i]? = some (.string sg) ∧ 2 ≤ sg.size ∧ sg.size ≤ 3 := by
  have hi : i < 14 := (List.getElem?_eq_some_iff.1 h).1
  refine ⟨hi, ?_⟩
  rcases (by omega : i = 0 ∨ i = 1 ∨ i = 2 ∨ i = 3 ∨ i = 4 ∨ i = 5 ∨ i = 6 ∨ i = 7 ∨ i = 8 ∨ i = 9 ∨ i = 10 ∨ i = 11 ∨ i = 12 ∨ i = 13) with rfl | rfl | rfl | rfl | rfl | rfl | rfl | rfl | rfl | rfl | rfl | rfl | rfl | rfl <;> (injection h with h; subst h; exact ⟨rfl, by decide, by decide⟩)

/-- No sign of more than one byte begins a JSON text's sign. -/
theorem sg_no {c : UInt8} {m : List UInt8} (hc : opc c) (hm : c = 45 → ∃ d r, m = d :: r ∧ digB d) {i : Nat} {sg : ByteArray} (h : sgs[i]? = some sg) : (c :: m).take sg.size ≠ sg.data.toList := by
  have hi : i < 14 := (List.getElem?_eq_some_iff.1 h).1
  have hh : ∀ d1 d2 : UInt8, ∀ t, (c :: m).take (t + 2) = d1 :: d2 :: [] ∨ (∃ d3, (c :: m).take (t + 2) = d1 :: d2 :: [d3]) → c = d1 ∧ ∃ r, m = d2 :: r := by
    intro d1 d2 t h
    cases m with
    | nil => rcases h with h | ⟨d3, h⟩ <;> simp at h
    | cons e m =>
      have e2 : (c :: e :: m).take (t + 2) = c :: e :: m.take t := rfl
      rw [e2] at h
      rcases h with h | ⟨d3, h⟩
      · injection h with h1 h2
        injection h2 with h2
        exact ⟨h1, m, by rw [h2]⟩
      · injection h with h1 h2
        injection h2 with h2
        exact ⟨h1, m, by rw [h2]⟩
  intro he
  have hbad : ∀ d1 d2 : UInt8, c = d1 ∧ (∃ r, m = d2 :: r) → (opc d1 → d1 = 45 ∧ ¬ digB d2) → False := by
    rintro d1 d2 ⟨rfl, r, rfl⟩ h
    obtain ⟨h1, h2⟩ := h hc
    obtain ⟨d, r2, e, hd⟩ := hm h1
    injection e with e
    exact h2 (e ▸ hd)
  unfold opc at hbad
  rcases (by omega : i = 0 ∨ i = 1 ∨ i = 2 ∨ i = 3 ∨ i = 4 ∨ i = 5 ∨ i = 6 ∨ i = 7 ∨ i = 8 ∨ i = 9 ∨ i = 10 ∨ i = 11 ∨ i = 12 ∨ i = 13) with rfl | rfl | rfl | rfl | rfl | rfl | rfl | rfl | rfl | rfl | rfl | rfl | rfl | rfl <;> injection h with h <;> subst h
  · exact hbad 63 47 (hh 63 47 1 (Or.inr ⟨47, he⟩)) (by decide)
  · exact hbad 47 47 (hh 47 47 1 (Or.inr ⟨61, he⟩)) (by decide)
  · exact hbad 124 61 (hh 124 61 0 (Or.inl he)) (by decide)
  · exact hbad 43 61 (hh 43 61 0 (Or.inl he)) (by decide)
  · exact hbad 45 61 (hh 45 61 0 (Or.inl he)) (by decide)
  · exact hbad 42 61 (hh 42 61 0 (Or.inl he)) (by decide)
  · exact hbad 47 61 (hh 47 61 0 (Or.inl he)) (by decide)
  · exact hbad 37 61 (hh 37 61 0 (Or.inl he)) (by decide)
  · exact hbad 61 61 (hh 61 61 0 (Or.inl he)) (by decide)
  · exact hbad 33 61 (hh 33 61 0 (Or.inl he)) (by decide)
  · exact hbad 60 61 (hh 60 61 0 (Or.inl he)) (by decide)
  · exact hbad 62 61 (hh 62 61 0 (Or.inl he)) (by decide)
  · exact hbad 47 47 (hh 47 47 0 (Or.inl he)) (by decide)
  · exact hbad 46 46 (hh 46 46 0 (Or.inl he)) (by decide)

def oneL : List Nat := [46, 91, 93, 40, 41, 123, 125, 124, 44, 58, 59, 61, 43, 45, 42, 47, 37, 60, 62, 63]
theorem one_idx (d : Nat) (hd : d < 20) (w : World) : (Instr.index 9 (.string ⟨#[46, 91, 93, 40, 41, 123, 125, 124, 44, 58, 59, 61, 43, 45, 42, 47, 37, 60, 62, 63]⟩) (.int .i64 (d : Int))).run Tryz.prog w = .ok (.int .u8 ((oneL.getD d 0 : Nat) : Int)) w := by
  rw [run_index_string w 9 _ .i64 _ Tryz.underlying9]
  rcases (by omega : d = 0 ∨ d = 1 ∨ d = 2 ∨ d = 3 ∨ d = 4 ∨ d = 5 ∨ d = 6 ∨ d = 7 ∨ d = 8 ∨ d = 9 ∨ d = 10 ∨ d = 11 ∨ d = 12 ∨ d = 13 ∨ d = 14 ∨ d = 15 ∨ d = 16 ∨ d = 17 ∨ d = 18 ∨ d = 19) with rfl | rfl | rfl | rfl | rfl | rfl | rfl | rfl | rfl | rfl | rfl | rfl | rfl | rfl | rfl | rfl | rfl | rfl | rfl | rfl <;> rfl
def kBad : ByteArray := ⟨#[98, 97, 100]⟩
/-- What kind of sign it is, as far as looked. -/
def kindAt (C i : Nat) : ByteArray := if C ∈ oneL.take i then kOp else kBad
theorem kind_next {C i : Nat} (hi : i < 20) : kindAt C (i + 1) = if oneL.getD i 0 = C then kOp else kindAt C i := by
  unfold kindAt
  have e : oneL.take (i + 1) = oneL.take i ++ [oneL.getD i 0] := by
    rcases (by omega : i = 0 ∨ i = 1 ∨ i = 2 ∨ i = 3 ∨ i = 4 ∨ i = 5 ∨ i = 6 ∨ i = 7 ∨ i = 8 ∨ i = 9 ∨ i = 10 ∨ i = 11 ∨ i = 12 ∨ i = 13 ∨ i = 14 ∨ i = 15 ∨ i = 16 ∨ i = 17 ∨ i = 18 ∨ i = 19) with rfl | rfl | rfl | rfl | rfl | rfl | rfl | rfl | rfl | rfl | rfl | rfl | rfl | rfl | rfl | rfl | rfl | rfl | rfl | rfl <;> rfl
  rw [e]
  by_cases h : oneL.getD i 0 = C
  · rw [if_pos h, if_pos]
    rw [List.mem_append, List.mem_singleton]
    exact Or.inr h.symm
  · rw [if_neg h]
    by_cases h2 : C ∈ oneL.take i
    · rw [if_pos h2, if_pos (List.mem_append.2 (Or.inl h2))]
    · rw [if_neg h2, if_neg]
      rw [List.mem_append, List.mem_singleton]
      rintro (h3 | h3)
      · exact h2 h3
      · exact h h3.symm
theorem kind_all {c : UInt8} (h : opc c) : kindAt c.toNat 20 = kOp := by
  unfold kindAt
  rw [if_pos]
  rcases h with rfl | rfl | rfl | rfl | rfl | rfl | rfl <;> decide

set_option maxHeartbeats 2000000 in
set_option maxRecDepth 100000 in
theorem sign_any (w : World) (r : Nat) (s k x : ByteArray) (a : Nat) (bad : Bool) (c : UInt8) (m : List UInt8) (h : Rd w r s a k x bad) (hp : Pt s a (c :: m)) (hs : s.size ≤ 1000000) (hc : opc c) (hm : c = 45 → ∃ d r, m = d :: r ∧ digB d) :
    Calls Tryz.prog 50 #[.pointer (some ⟨r, 0, none⟩)] w fun e w' => e = .returned (.tuple #[]) ∧ Rd w' r s (a + 1) kOp ⟨#[c]⟩ bad ∧ Only (· = r) w w' := by
  have hno : ∀ (i : Nat) sg, sgs[i]? = some sg → a + sg.size ≤ s.size → ((s.extract a (a + sg.size)).toList == sg.toList) = false := by
    intro i sg hi hl
    have h1 := sg_no hc hm hi
    have h2 := hp.room
    rw [hp.cutN (by omega)]
    exact ba_ne (fun e => h1 (by have := congrArg (fun z => z.data.toList) e; simpa using this))
  obtain ⟨hi, hat⟩ := hp.at
  have hcut := hp.cutN (n := 1) (by simp)
  rw [show (c :: m).take 1 = [c] from rfl] at hcut
  obtain ⟨C, hC⟩ : ∃ C, c.toNat = C := ⟨_, rfl⟩
  have hcC : s[a].toNat = C := by rw [hat]; exact hC
  have hka := kind_all hc
  rw [hC] at hka
  have hrl := h.lt
  have hwr : IntKind.i64.wrap ((s.size : Int) - (a : Int)) = (s.size : Int) - (a : Int) := by rw [IntKind.wrap_i64]; omega
  replace hno := hide hno
  replace hp := hide hp
  replace hcut := hide hcut
  replace hka := hide hka
  replace hat := hide hat
  replace hC := hide hC
  replace hc := hide hc
  replace hm := hide hm
  replace h := hide h
  go_enter Tryz.func50, Tryz.ntmps50
  go_wp2_with (go_at_call 72; refine (signs_any _).mono ?_; rintro e w1 ⟨rfl, hw1⟩; replace hw1 := hide hw1)
  have hg : Blk w1 w.heap.size 9 sgC := by rw [hw1.out]; exact Blk.new w _ _
  have h1 : Rd w1 r s a k x bad := by rw [hw1.out]; exact Blk.alloc h.out _
  have o1 : Only (· = r) w w1 := by rw [hw1.out]; exact (Only.refl _ w).alloc _
  clear hw1
  obtain ⟨g, hgg⟩ : ∃ g, w.heap.size = g := ⟨_, rfl⟩
  rw [hgg] at hg ⊢
  replace hgg := hide hgg
  go_loopw [3] (fun s3 wr => ∃ i : Nat, s3 = .int .i64 (i : Int) ∧ i ≤ 14 ∧ Rd wr r s a k x bad ∧ Blk wr g 9 sgC ∧ Only (· = r) w wr) (fun i _ => 14 - (RowKit.intOf i).toNat)
  case atStart => exact ⟨0, rfl, by decide, h1, hg, o1⟩
  case round =>
    clear hg h1 o1
    obtain ⟨i, rfl, hi14, hR, hg, ho⟩ := hrel
    have c0 := hR.cell 0
    have c1 := hR.cell 1
    simp at c0 c1
    by_cases hlt : i < 14
    · obtain ⟨sg, hsg⟩ : ∃ sg, sgs[i]? = some sg := ⟨_, List.getElem?_eq_getElem (show i < sgs.length from hlt)⟩
      obtain ⟨-, k1, k2, k3⟩ := sg_cases hsg
      have cg := hg.cell i
      rw [k1] at cg
      have hsg' := hide hsg
      clear hsg
      replace k1 := hide k1
      replace hR := hide hR
      replace hg := hide hg
      replace ho := hide ho
      by_cases hge : a + sg.size ≤ s.size
      · have hge1 : (sg.size : Int) ≤ (s.size : Int) - (a : Int) := by omega
        have hb := hno.out i sg hsg'.out hge
        go_wp2
        go_quiet (fail)
        go_wp2
        go_roundw
        case rel => exact ⟨i + 1, by go_num, by omega, hR.out, hg.out, ho.out.drewN nq⟩
        case measure => simp [RowKit.intOf]; omega
      · have hge1 : ¬ (sg.size : Int) ≤ (s.size : Int) - (a : Int) := by omega
        have hge2 : decide ((sg.size : Int) ≤ (s.size : Int) - (a : Int)) = false := decide_eq_false (by omega)
        go_wp2
        go_quiet (fail)
        go_wp2
        go_roundw
        case rel => exact ⟨i + 1, by go_num, by omega, hR.out, hg.out, ho.out.drewN nq⟩
        case measure => simp [RowKit.intOf]; omega
    · obtain rfl : i = 14 := by omega
      replace hR := hide hR
      replace hg := hide hg
      replace ho := hide ho
      go_wp2
      go_loopw [4, 5] (fun s4 s5 wq => ∃ i : Nat, s5 = .int .i64 (i : Int) ∧ s4 = .string (kindAt C i) ∧ i ≤ 20 ∧ Rd wq r s a k x bad ∧ Only (· = r) w wq) (fun _ i _ => 20 - (RowKit.intOf i).toNat)
      case atStart => exact ⟨0, rfl, rfl, by decide, hR.out, ho.out⟩
      case round =>
        clear hR ho hg c0 c1
        obtain ⟨i, rfl, rfl, hi20, hR, ho⟩ := hrel
        have c0 := hR.cell 0
        have c1 := hR.cell 1
        simp at c0 c1
        replace hR := hide hR
        replace ho := hide ho
        by_cases hlt : i < 20
        · have hix := one_idx i hlt
          have hkn := kind_next (C := C) hlt
          obtain ⟨O, hO⟩ : ∃ O, oneL.getD i 0 = O := ⟨_, rfl⟩
          rw [hO] at hix hkn
          replace hO := hide hO
          obtain ⟨X, hX⟩ : ∃ X, kindAt C i = X := ⟨_, rfl⟩
          rw [hX] at hkn ⊢
          replace hX := hide hX
          by_cases hOC : O = C
          · rw [if_pos hOC] at hkn
            have hb : ((O : Int) == (C : Int)) = true := by simp [hOC]
            replace hOC := hide hOC
            replace hkn := hide hkn
            go_wp2
            go_quiet (fail)
            go_wp2
            go_roundw
            case rel => exact ⟨i + 1, by go_num, by rw [hkn.out]; rfl, by omega, hR.out, ho.out.drewN nq⟩
            case measure => simp [RowKit.intOf]; omega
          · rw [if_neg hOC] at hkn
            have hb : ((O : Int) == (C : Int)) = false := by simp; omega
            replace hOC := hide hOC
            replace hkn := hide hkn
            go_wp2
            go_quiet (fail)
            go_wp2
            go_roundw
            case rel => exact ⟨i + 1, by go_num, by rw [hkn.out], by omega, hR.out, ho.out.drewN nq⟩
            case measure => simp [RowKit.intOf]; omega
        · obtain rfl : i = 20 := by omega
          rw [hka.out]
          go_upto_region 12 with fail
          refine region_tail 16 wr.drew rfl (by kernel_rfl) (by kernel_rfl) ?_
          simp only [List.take_succ_cons, List.take_zero, List.drop_succ_cons, List.drop_zero]
          repeat (go_big_quiet_step (fail))
          refine wpQuiet_nil ?_
          rw [hcut.out]
          go_wp2_with (go_at_call 48; refine (take_any wr.drew r s k x kOp ⟨#[c]⟩ a 1 bad hR.out (by omega)).mono ?_; rintro e w2 ⟨rfl, h2, o2⟩; replace h2 := hide h2; replace o2 := hide o2)
          go_end0
          exact ⟨rfl, h2.out, ho.out.drew.trans o2.out⟩
end Go.Proofs.YtbnbemacljjimaaGreatDoor
