/- What is read of a value's JSON text. -/
import Derived.Test.YtbnbemacljjimaaGreatDoorJc21
import Derived.Test.YtbnbemacljjimaaGreatDoorJc22
import Derived.Test.YtbnbemacljjimaaGreatDoorJc23
namespace Go.Proofs.YtbnbemacljjimaaGreatDoor
open Go.RowKit Go.Lib
set_option linter.unusedVariables false

/-- A value's text, as bytes. -/
def tx (n : Nat) (v : JV) : List UInt8 := (jT n v).data.toList

theorem join_tail (l : List UInt8) (ls : List (List UInt8)) (rest : List UInt8) : Lib.join (l :: ls) [44] ++ rest = l ++ tailJ ls rest := by
  rw [Lib.join_cons, List.append_assoc]
  congr 1
  induction ls with
  | nil => rfl
  | cons t ts ih =>
    show (([44] ++ t) :: _).flatten ++ rest = 44 :: (t ++ tailJ ts rest)
    rw [List.flatten_cons, List.append_assoc]
    have ih' : (ts.map ([44] ++ ·)).flatten ++ rest = tailJ ts rest := ih
    rw [ih']
    simp
theorem tailM_J (rest : List UInt8) : ∀ es : List Mem, tailM es rest = tailJ (es.map mtx) (125 :: rest)
  | [] => rfl
  | e :: es => by
    show 44 :: (mtx e ++ tailM es rest) = 44 :: (mtx e ++ tailJ (es.map mtx) (125 :: rest))
    rw [tailM_J rest es]

section
variable {r : Nat} {s : ByteArray} {l rest : List UInt8} {q : QV}
theorem alt_of (hs : s.size ≤ 1000000) (hf : Fol rest) (hu : FnSays 109 r s l rest q) : FnSays 75 r s l rest q :=
  alt_step hs hf (level_step 0 (by decide) hs hf (level_step 1 (by decide) hs hf (level_step 2 (by decide) hs hf (level_step 3 (by decide) hs hf (level_step 4 (by decide) hs hf (level_step 5 (by decide) hs hf (level_top hu)))))))
theorem ups (hs : s.size ≤ 1000000) (hf : Fol rest) (hn : (nxK l = kEnd ∨ nxK l = kStr ∨ nxK l = kNum) ∨ nxT l ≠ ⟨#[45]⟩) (h : FnSays 152 r s l rest q) :
    FnSays 75 r s l rest q ∧ FnSays 215 r s l rest q := by
  have ht := term_step hs hf h
  exact ⟨alt_of hs hf (unary_step hs hf hn ht), member_term hs hf hn ht⟩
theorem ups_neg (hs : s.size ≤ 1000000) (hf : Fol rest) (hn : (nxK l = kEnd ∨ nxK l = kStr ∨ nxK l = kNum) ∨ nxT l ≠ ⟨#[45]⟩) (hok : OkTok l) (h : FnSays 152 r s l rest q) :
    FnSays 75 r s (45 :: l) rest (ofQ opNeg [q]) ∧ FnSays 215 r s (45 :: l) rest (ofQ opNeg [q]) := by
  have ht := term_step hs hf h
  exact ⟨alt_of hs hf (unary_neg hs hok (unary_step hs hf hn ht)), member_neg hs hok (member_term hs hf hn ht)⟩
end

/-- What a JSON value's first token is not. -/
structure TokOk (l : List UInt8) : Prop where
  ok : OkTok l
  nodef : NoDef l
  noend : (nxK l = kEnd ∨ nxK l = kStr ∨ nxK l = kNum) ∨ nxT l ≠ ⟨#[93]⟩

theorem toList_lit (a : Array UInt8) : (⟨a⟩ : ByteArray).toList = a.toList := Lib.toList_data _
theorem nodef_kind {l : List UInt8} (h : nxK l ≠ kName) : NoDef l := by
  unfold NoDef
  rw [show ([110, 97, 109, 101] : List UInt8) = kName.toList by rw [Lib.toList_data]; rfl, ba_ne h]
  rfl
theorem tok_name {d rest : List UInt8} (h : d = wNull ∨ d = wTrue ∨ d = wFalse) (hf : Fol rest) : TokOk (d ++ rest) ∧ nxT (d ++ rest) ≠ ⟨#[45]⟩ := by
  obtain ⟨h1, h2, h3⟩ := nx_name h hf
  refine ⟨⟨?_, ?_, Or.inr ?_⟩, ?_⟩
  · rcases h with rfl | rfl | rfl <;> exact Or.inr ⟨_, _, rfl, Or.inr (Or.inr (Or.inl rfl))⟩
  · unfold NoDef
    rw [h2]
    rcases h with rfl | rfl | rfl <;> (rw [Bool.and_eq_false_iff]; right; rw [Lib.toList_data]; rfl)
  · rw [h2]
    rcases h with rfl | rfl | rfl <;> decide
  · rw [h2]
    rcases h with rfl | rfl | rfl <;> decide
theorem tok_num {d rest : List UInt8} (h : NumT d) (hf : Fol rest) : TokOk (d ++ rest) ∧ nxK (d ++ rest) = kNum := by
  obtain ⟨h1, h2, h3⟩ := nx_num h hf
  obtain ⟨c, m, hc, hd⟩ := h.head
  refine ⟨⟨?_, nodef_kind (by rw [h1]; decide), Or.inl (Or.inr (Or.inr h1))⟩, h1⟩
  rw [hc]
  exact Or.inr ⟨c, _, rfl, Or.inr (Or.inl hd)⟩
theorem tok_op {c : UInt8} {m : List UInt8} (h : opc c) (hc : c ≠ 93) (hm : c = 45 → ∃ d r, m = d :: r ∧ digB d) : TokOk (c :: m) := by
  obtain ⟨h1, h2, h3⟩ := nx_op (m := m) h
  refine ⟨Or.inr ⟨c, m, rfl, Or.inr (Or.inr (Or.inr ⟨h, hm⟩))⟩, nodef_kind (by rw [h1]; decide), Or.inr ?_⟩
  rw [h2]
  intro e
  apply hc
  have := congrArg (fun z => z.data.toList) e
  simpa using this
theorem tok_str (m : List UInt8) : TokOk (34 :: m) := ⟨Or.inr ⟨34, m, rfl, Or.inl rfl⟩, nodef_kind (by rw [show nxK (34 :: m) = kStr from rfl]; decide), Or.inl (Or.inr (Or.inl rfl))⟩

/-- What is read at a value. -/
def RdOk (r : Nat) (s : ByteArray) (t : List UInt8) (q : QV) : Prop := 0 < t.length ∧ ∀ rest, Fol rest → TokOk (t ++ rest) ∧ FnSays 75 r s (t ++ rest) rest q ∧ FnSays 215 r s (t ++ rest) rest q

theorem RdOk.elem {r : Nat} {s : ByteArray} {t : List UInt8} {q : QV} (h : RdOk r s t q) : ElemSays r s t q := ⟨h.1, fun rest hf => ⟨(h.2 rest hf).1.ok, (h.2 rest hf).2.1⟩⟩
theorem RdOk.mem {r : Nat} {s : ByteArray} {t : List UInt8} {q : QV} (h : RdOk r s t q) : MemSays r s t q := fun rest hf => ⟨(h.2 rest hf).1.ok, (h.2 rest hf).2.2⟩

/-- The tail of a number's text. -/
def numTl (h : Int) : ByteArray := if h.tmod 2 = 0 then ⟨#[]⟩ else ⟨#[46, 53]⟩
theorem ntxt_form (h : Int) : ntxt h = (if h < 0 then ⟨#[45]⟩ else ⟨#[]⟩) ++ (txt (dg (h.natAbs / 2)) ++ numTl h) := by
  unfold ntxt numTl
  by_cases ho : h.tmod 2 = 0
  · rw [if_pos ho, if_pos ho, app_empty]
    unfold itxt
    have hna : (h.tdiv 2).natAbs = h.natAbs / 2 := Int.natAbs_tdiv h 2
    have hde := Int.mul_tdiv_add_tmod h 2
    rw [hna]
    by_cases hn : h < 0
    · have h2 : h.tdiv 2 < 0 := by omega
      rw [if_pos h2, if_pos hn]
    · have h2 : ¬ h.tdiv 2 < 0 := by omega
      rw [if_neg h2, if_neg hn, empty_app]
  · rw [if_neg ho, if_neg ho]
    rfl
theorem num_T (h : Int) : NumT (txt (dg (h.natAbs / 2)) ++ numTl h).data.toList := by
  refine ⟨(txt (dg (h.natAbs / 2))).data.toList, (numTl h).data.toList, by rw [ByteArray.data_append, Array.toList_append], ?_, ?_, ?_⟩
  · intro e
    have h1 := congrArg List.length e
    have h2 : (txt (dg (h.natAbs / 2))).data.toList.length = (dg (h.natAbs / 2)).length := by simp [txt]
    rw [h2] at h1
    exact dg_ne _ (List.eq_nil_of_length_eq_zero h1)
  · intro c hc
    simp only [txt, List.mem_map] at hc
    obtain ⟨d, hd, rfl⟩ := hc
    have := dg_dig _ d hd
    unfold digB
    rw [UInt8.toNat_ofNat']
    omega
  · unfold numTl
    split
    · exact Or.inl rfl
    · exact Or.inr rfl

theorem mkB_toList (b : ByteArray) : mkB b.data.toList = b := by
  apply ByteArray.ext
  simp

theorem rd_posnum {r : Nat} {s : ByteArray} {h : Int} (hs : s.size ≤ 1000000) (hb : h.natAbs ≤ 18014398509481984) {rest : List UInt8} (hf : Fol rest) :
    FnSays 152 r s ((txt (dg (h.natAbs / 2)) ++ numTl h).data.toList ++ rest) rest (valQ (numJ (h.natAbs : Nat))) := by
  obtain ⟨h1, h2, h3⟩ := nx_num (num_T h) hf
  refine first_num (X := txt (dg (h.natAbs / 2)) ++ numTl h) hs h1 ?_ ?_ hf.ok (fun W => ?_)
  · rw [h2]
  · rw [h3, List.drop_left' rfl]
  · refine rhalf_any W r (dg (h.natAbs / 2)) (numTl h) _ (dg_dig _) (by rw [val_dg]; omega) ?_ ?_
    · have := dg_le 19 (h.natAbs / 2) (by have : (10 : Nat) ^ 20 = 100000000000000000000 := by decide
                                          omega)
      omega
    · rw [val_dg]
      unfold numTl
      have ho : h.tmod 2 = 0 ↔ h.natAbs % 2 = 0 := by
        rw [← Int.natAbs_eq_zero, Int.natAbs_tmod]
        rfl
      by_cases he : h.tmod 2 = 0
      · have := ho.1 he
        rw [if_pos he]
        exact Or.inl ⟨rfl, by omega⟩
      · have : ¬ h.natAbs % 2 = 0 := fun x => he (ho.2 x)
        rw [if_neg he]
        exact Or.inr ⟨rfl, by omega⟩

theorem numD_len (h : Int) : 0 < (txt (dg (h.natAbs / 2)) ++ numTl h).data.toList.length := by
  obtain ⟨c, m, e, -⟩ := (num_T h).head
  rw [e]
  simp

theorem rd_word {r : Nat} {s : ByteArray} (hs : s.size ≤ 1000000) {x : List UInt8} (hx : x = wNull ∨ x = wTrue ∨ x = wFalse) : RdOk r s x (valQ (wordJ x)) := by
  refine ⟨by rcases hx with rfl | rfl | rfl <;> decide, fun rest hf => ?_⟩
  obtain ⟨h1, h2, h3⟩ := nx_name hx hf
  have hk := tok_name hx hf
  refine ⟨hk.1, ups hs hf (Or.inr hk.2) (first_name hs h1 h2 ?_ hf.ok (fun W => named_any W r x hx))⟩
  rw [h3, List.drop_left' rfl]

theorem rd_num {r : Nat} {s : ByteArray} (hs : s.size ≤ 1000000) {h : Int} (hb : h.natAbs ≤ 18014398509481984) :
    RdOk r s (ntxt h).data.toList (if h < 0 then ofQ opNeg [valQ (numJ (h.natAbs : Nat))] else valQ (numJ (h.natAbs : Nat))) := by
  have hlen := numD_len h
  rw [ntxt_form]
  by_cases hn : h < 0
  · rw [if_pos hn, if_pos hn]
    have e : ((⟨#[45]⟩ : ByteArray) ++ (txt (dg (h.natAbs / 2)) ++ numTl h)).data.toList = 45 :: (txt (dg (h.natAbs / 2)) ++ numTl h).data.toList := by
      rw [ByteArray.data_append, Array.toList_append]
      rfl
    rw [e]
    refine ⟨by simp, fun rest hf => ?_⟩
    have hk := tok_num (num_T h) hf
    obtain ⟨c, m, hc, hd⟩ := (num_T h).head
    refine ⟨tok_op (by unfold opc; simp) (by decide) (fun _ => ⟨c, m ++ rest, by rw [hc]; rfl, hd⟩), ?_⟩
    exact ups_neg hs hf (Or.inl (Or.inr (Or.inr hk.2))) hk.1.ok (rd_posnum hs hb hf)
  · rw [if_neg hn, if_neg hn, empty_app]
    refine ⟨hlen, fun rest hf => ?_⟩
    have hk := tok_num (num_T h) hf
    exact ⟨hk.1, ups hs hf (Or.inl (Or.inr (Or.inr hk.2))) (rd_posnum hs hb hf)⟩

theorem rd_str {r : Nat} {s : ByteArray} (hs : s.size ≤ 1000000) (t : ByteArray) : RdOk r s (qT t).data.toList (valQ (txtJ t)) := by
  have e : ∀ rest, (qT t).data.toList ++ rest = 34 :: (qL t.data.toList ++ 34 :: rest) := fun rest => by
    unfold qT
    simp
  refine ⟨by unfold qT; simp, fun rest hf => ?_⟩
  rw [e]
  have h := first_str (r := r) (L := t.data.toList) hs hf
  rw [mkB_toList] at h
  exact ⟨tok_str _, ups hs hf (Or.inl (Or.inr (Or.inl rfl))) h⟩

theorem rd_list {r : Nat} {s : ByteArray} (hs : s.size ≤ 1000000) (es : List (List UInt8 × QV)) (hE : ∀ e ∈ es, RdOk r s e.1 e.2) :
    RdOk r s (91 :: (Lib.join (es.map (·.1)) [44] ++ [93])) (listQ rqC (es.map (·.2))) := by
  refine ⟨by simp, fun rest hf => ?_⟩
  have hf93 : Fol (93 :: rest) := Or.inr ⟨93, rest, rfl, by simp⟩
  have hnot : nxT (91 :: (Lib.join (es.map (·.1)) [44] ++ [93]) ++ rest) ≠ ⟨#[45]⟩ := by
    rw [List.cons_append, (nx_op (c := 91) (by unfold opc; simp)).2.1]
    decide
  refine ⟨tok_op (by unfold opc; simp) (by decide) (fun h => absurd h (by decide)), ups hs hf (Or.inr hnot) ?_⟩
  cases es with
  | nil => exact first_empty hs hf
  | cons e es =>
    have h0 := hE e List.mem_cons_self
    have e1 : 91 :: (Lib.join ((e :: es).map (·.1)) [44] ++ [93]) ++ rest = 91 :: ((e.1 ++ tailJ (es.map (·.1)) []) ++ 93 :: rest) := by
      have h1 := join_tail e.1 (es.map (·.1)) []
      rw [List.append_nil] at h1
      rw [List.map_cons, h1]
      simp
    have e2 : (e.1 ++ tailJ (es.map (·.1)) []) ++ 93 :: rest = e.1 ++ tailJ (es.map (·.1)) (93 :: rest) := by
      have h1 := join_tail e.1 (es.map (·.1)) []
      have h2 := join_tail e.1 (es.map (·.1)) (93 :: rest)
      rw [← h1, ← h2, List.append_nil]
    rw [e1]
    have hc := comma_all (r := r) (rest := 93 :: rest) hs hf93 (fun m hm => by injection hm with hm; exact absurd hm (by decide)) h0.elem (fun x hx => (hE x (List.mem_cons_of_mem _ hx)).elem)
    have htk := (h0.2 _ (tailJ_fol hf93 (es.map (·.1)))).1
    have hp := pipe_step hs hf93 htk.nodef hc
    rw [← e2] at hp htk
    exact first_list hs hf htk.ok htk.noend hp

theorem rd_obj {r : Nat} {s : ByteArray} (hs : s.size ≤ 1000000) (es : List Mem) (hl : es.length ≤ 100000) (hE : ∀ e ∈ es, RdOk r s e.2.1 e.2.2) :
    RdOk r s (123 :: (Lib.join (es.map mtx) [44] ++ [125])) (ofQ opObj (kvM es)) := by
  refine ⟨by simp, fun rest hf => ?_⟩
  have hnot : nxT (123 :: (Lib.join (es.map mtx) [44] ++ [125]) ++ rest) ≠ ⟨#[45]⟩ := by
    rw [List.cons_append, (nx_op (c := 123) (by unfold opc; simp)).2.1]
    decide
  refine ⟨tok_op (by unfold opc; simp) (by decide) (fun h => absurd h (by decide)), ups hs hf (Or.inr hnot) ?_⟩
  cases es with
  | nil => exact first_obj hs (Fol.ok (Or.inr ⟨125, rest, rfl, by simp⟩)) (object_empty hs hf)
  | cons e es =>
    have e1 : 123 :: (Lib.join ((e :: es).map mtx) [44] ++ [125]) ++ rest = 123 :: (mtx e ++ tailM es rest) := by
      have h1 := join_tail (mtx e) (es.map mtx) (125 :: rest)
      rw [tailM_J, ← h1, List.map_cons]
      simp
    rw [e1]
    exact first_obj hs (mtx_ok _ _) (object_all hs hf (fun x hx => (hE x hx).mem) (by rw [List.length_cons] at hl; omega))

theorem join_map (l : List ByteArray) : (joinT l).data.toList = Lib.join (l.map (·.data.toList)) [44] := by
  unfold joinT
  simp

theorem kvM_zip (C : QV → List QV → QV) (n : Nat) (f : JV → List UInt8) : ∀ (ks : List ByteArray) (vs : List JV), kvM (List.zipWith (fun k x => ((k.data.toList, f x, jq C n x) : Mem)) ks vs) = kvQ ks (vs.map (jq C n))
  | [], vs => by cases vs <;> rfl
  | k :: ks, [] => rfl
  | k :: ks, x :: vs => by
    show valQ (txtJ (mkB k.data.toList)) :: jq C n x :: kvM (List.zipWith _ ks vs) = valQ (txtJ k) :: jq C n x :: kvQ ks (vs.map (jq C n))
    rw [kvM_zip C n f ks vs, mkB_toList]

/-- What is read of a value's JSON text, wherever it stands. -/
theorem read_val : ∀ (n : Nat) (v : JV), Good n v → ∀ (r : Nat) (s : ByteArray), s.size ≤ 1000000 → RdOk r s (tx n v) (rq n v)
  | 0, v, hg => absurd hg (fun h => h)
  | n + 1, v, hg => by
    intro r s hs
    obtain ⟨⟨g1, g2⟩, g3, g4, g5, g6, g7, g8, -, -, g9, g10, g11, -, -, g12⟩ := hg
    have hna : v.half.natAbs ≤ 18014398509481984 := by omega
    have htl : v.text.toList = [] → v.text = ⟨#[]⟩ := fun h => by
      rw [Lib.toList_data] at h
      apply ByteArray.ext
      exact Array.toList_inj.1 h
    by_cases k5 : v.kind = 5
    · have e1 : tx (n + 1) v = 91 :: (Lib.join ((v.list.map fun x => (tx n x, rq n x)).map (·.1)) [44] ++ [93]) := by
        unfold tx
        rw [jT, if_neg (by omega), if_pos k5]
        rw [ByteArray.data_append, ByteArray.data_append, Array.toList_append, Array.toList_append, join_map]
        unfold jItems
        rw [if_neg (by omega), List.map_map, List.map_map]
        rfl
      have e2 : rq (n + 1) v = listQ rqC ((v.list.map fun x => (tx n x, rq n x)).map (·.2)) := by
        show jq rqC (n + 1) v = _
        rw [jq, if_neg (by omega), if_pos k5, List.map_map]
        rfl
      rw [e1, e2]
      refine rd_list hs _ (fun e he => ?_)
      obtain ⟨x, hx, rfl⟩ := List.mem_map.1 he
      exact read_val n x (g11 x hx) r s hs
    · by_cases k6 : v.kind = 6
      · have e1 : tx (n + 1) v = 123 :: (Lib.join ((List.zipWith (fun k x => ((k.data.toList, tx n x, rq n x) : Mem)) v.keys v.vals).map mtx) [44] ++ [125]) := by
          unfold tx
          rw [jT, if_neg (by omega), if_neg (by omega), if_pos k6]
          rw [ByteArray.data_append, ByteArray.data_append, Array.toList_append, Array.toList_append, join_map]
          unfold jItems
          rw [if_pos k6, List.map_zipWith, List.map_zipWith]
          have : (fun (k : ByteArray) (x : JV) => (itemT k (jT n x)).data.toList) = fun k x => mtx (k.data.toList, (jT n x).data.toList, rq n x) := by
            funext k x
            unfold itemT mtx qT
            rw [ByteArray.data_append, ByteArray.data_append, Array.toList_append, Array.toList_append]
            simp
          rw [this]
          rfl
        have e2 : rq (n + 1) v = ofQ opObj (kvM (List.zipWith (fun k x => ((k.data.toList, tx n x, rq n x) : Mem)) v.keys v.vals)) := by
          show jq rqC (n + 1) v = _
          rw [jq, if_neg (by omega), if_neg (by omega), if_pos k6, kvM_zip rqC n (tx n)]
        rw [e1, e2]
        refine rd_obj hs _ (by rw [List.length_zipWith]; omega) (fun e he => ?_)
        obtain ⟨i, hi⟩ := List.getElem?_of_mem he
        rw [List.getElem?_zipWith] at hi
        cases hk : v.keys[i]? with
        | none => rw [hk] at hi; simp at hi
        | some k =>
          cases hx : v.vals[i]? with
          | none => rw [hk, hx] at hi; simp at hi
          | some x =>
            rw [hk, hx] at hi
            simp at hi
            subst hi
            exact read_val n x (g12 x (List.mem_of_getElem? hx)) r s hs
      · have hli : v.list = [] := by rcases g5 with h | h; exact absurd h k5; exact h
        have hke : v.keys = [] := by rcases g6 with h | h; exact absurd h k6; exact h
        have hva : v.vals = [] := by
          apply List.eq_nil_of_length_eq_zero
          rw [← g7, hke]
          rfl
        by_cases k4 : v.kind = 4
        · have hha : v.half = 0 := by rcases g3 with h | h; omega; exact h
          have hv : v = txtJ v.text := JV.ext' k4 hha rfl hli hke hva
          have e1 : tx (n + 1) v = (qT v.text).data.toList := by
            unfold tx
            rw [jT, if_pos k4]
          have e2 : rq (n + 1) v = valQ (txtJ v.text) := by
            show jq rqC (n + 1) v = _
            rw [jq, if_neg (by omega), if_neg k5, if_neg k6, ← hv]
          rw [e1, e2]
          exact rd_str hs v.text
        · have hte : v.text = ⟨#[]⟩ := by rcases g4 with h | h; exact absurd h k4; exact htl h
          have e1 : tx (n + 1) v = (stxt v).data.toList := by
            unfold tx
            rw [jT, if_neg k4, if_neg k5, if_neg k6]
          rw [e1]
          unfold stxt
          by_cases k3 : v.kind = 3
          · rw [if_neg (by omega), if_neg (by omega), if_neg (by omega)]
            have e2 : rq (n + 1) v = if v.half < 0 then ofQ opNeg [valQ (numJ (v.half.natAbs : Nat))] else valQ (numJ (v.half.natAbs : Nat)) := by
              show jq rqC (n + 1) v = _
              by_cases hn : v.half < 0
              · rw [jq, if_pos ⟨k3, hn⟩, if_pos hn]
                have : -v.half = ((v.half.natAbs : Nat) : Int) := by omega
                rw [this]
                rfl
              · rw [jq, if_neg (fun h => hn h.2), if_neg k5, if_neg k6, if_neg hn]
                have hh : v.half = ((v.half.natAbs : Nat) : Int) := by omega
                have hv : v = numJ ((v.half.natAbs : Nat) : Int) := JV.ext' k3 hh hte hli hke hva
                exact congrArg valQ hv
            rw [e2]
            exact rd_num hs hna
          · have hha : v.half = 0 := by rcases g3 with h | h; exact absurd h k3; exact h
            have e2 : rq (n + 1) v = valQ v := by
              show jq rqC (n + 1) v = _
              rw [jq, if_neg (by omega), if_neg k5, if_neg k6]
            rw [e2]
            rcases (by omega : v.kind = 0 ∨ v.kind = 1 ∨ v.kind = 2) with k | k | k
            · rw [if_pos k, show v = wordJ wNull from JV.ext' k hha hte hli hke hva]
              exact rd_word hs (Or.inl rfl)
            · rw [if_neg (by omega), if_pos k, show v = wordJ wFalse from JV.ext' k hha hte hli hke hva]
              exact rd_word hs (Or.inr (Or.inr rfl))
            · rw [if_neg (by omega), if_neg (by omega), if_pos k, show v = wordJ wTrue from JV.ext' k hha hte hli hke hva]
              exact rd_word hs (Or.inr (Or.inl rfl))
end Go.Proofs.YtbnbemacljjimaaGreatDoor

namespace Go.Proofs.YtbnbemacljjimaaGreatDoor
open Go.RowKit Go.Lib
set_option linter.unusedVariables false

theorem results_cell_tmp {P : Program} {fn : Func} {p q : Tmp} {ty : TypeId} (h : fn.results = #[.cell p ty, .tmp q]) (tmps : Array Value) (w : World) (g : Nat) (t : TypeId) (cs : Array Value) (fr : Nat × Nat) (d : TypeDesc) {v : Value}
    (hp : tmps.getD p undef = .pointer (some ⟨g, 0, none⟩)) (hg : w.heap[g]? = some (.cells cs t fr))
    (hu : P.underlying ty = some d) (hd : (match d with | .struct _ | .array _ _ => true | _ => false) = true) (hi : (P.info? ty).map (·.size) = some cs.size) (hq : tmps.getD q undef = v) :
    (results fn tmps).run P w = .ok (.tuple #[.agg cs, v]) w := by
  have hp' : tmps[p]?.getD undef = .pointer (some ⟨g, 0, none⟩) := by simpa using hp
  have hq' : tmps[q]?.getD undef = v := by simpa using hq
  simp [results, h, hp', hq', asAddr, run_loadVar_row w g t ty cs fr d hg hu hd hi]

set_option maxHeartbeats 4000000 in
set_option maxRecDepth 100000 in
theorem read_any (n : Nat) (v : JV) (hg : Good n v) (w : World) (hs : (jT n v).size ≤ 1000000) :
    Calls Tryz.prog 11 #[.string (jT n v)] w fun e w' => ∃ y, e = .returned (.tuple #[.agg y.toArray, .bool true]) ∧ QAt w' (w.heap.size ≤ ·) y (rq n v) ∧ Below w.heap.size w w' := by
  have hv := read_val n v hg (w.heap.size + 1) (jT n v) hs
  obtain ⟨hlen, hv⟩ := hv
  have hf : Fol ([] : List UInt8) := Or.inl rfl
  obtain ⟨htk, hal, -⟩ := hv [] hf
  have hco := comma_all (r := w.heap.size + 1) (s := jT n v) (es := []) (rest := []) hs hf (fun m hm => by cases hm) (q0 := rq n v) (t0 := tx n v) ⟨hlen, fun rest hr => ⟨(hv rest hr).1.ok, (hv rest hr).2.1⟩⟩ (fun e he => by cases he)
  have hpi := pipe_step hs hf (show NoDef (tx n v ++ tailJ [] []) from htk.nodef) hco
  have hpt : Pt (jT n v) 0 (tx n v ++ []) := by rw [List.append_nil]; exact Pt.zero _
  have hok := htk.ok
  have hpi2 : FnSays 26 (w.heap.size + 1) (jT n v) (tx n v ++ []) [] (rq n v) := hpi
  obtain ⟨S, hS⟩ : ∃ S, jT n v = S := ⟨_, rfl⟩
  rw [hS] at hpi2 hpt hs ⊢
  clear hco hpi hal htk hv hlen
  obtain ⟨W0, hW0⟩ : ∃ W0, W0 = (w.alloc (.cells zC 41)).alloc (.cells #[.string S, .int .i64 0, .string ⟨#[]⟩, .string ⟨#[]⟩, .bool false] 61) := ⟨_, rfl⟩
  have o0 : Below w.heap.size w W0 := by rw [hW0]; exact ((Below.refl _ w).alloc (Nat.le_refl _) _).alloc (by simp) _
  have k0 : Blk W0 w.heap.size 41 zC := by rw [hW0]; exact (Blk.new w _ _).alloc _
  have hR0 : Rd W0 (w.heap.size + 1) S 0 ⟨#[]⟩ ⟨#[]⟩ false := by rw [hW0]; exact Blk.new2 w _ _ _
  have l0 := Blk.lt hR0
  have hmv := hide (move_any W0 (w.heap.size + 1) S ⟨#[]⟩ ⟨#[]⟩ 0 false (tx n v ++ []) hR0 hpt hs hok)
  replace hS := hide hS
  replace o0 := hide o0
  replace k0 := hide k0
  replace hR0 := hide hR0
  replace hpi2 := hide hpi2
  replace hpt := hide hpt
  replace hok := hide hok
  replace hf := hide hf
  replace hg := hide hg
  unfold zC at hW0
  go_enter Tryz.func11, Tryz.ntmps11
  go_upto_region 2 with fail
  rw [← hW0]
  clear hW0
  go_wp2_with fail
  refine hmv.out.mono ?_
  rintro e W1 ⟨rfl, hR1, o1⟩
  have hRd1 : Ready W1 (w.heap.size + 1) S (tx n v ++ []) := ⟨_, hR1, hpt.out.skipN (nxN_le _)⟩
  have k1 := hide (o1.blk k0.out (by omega))
  have l1 := o1.size
  replace hR1 := hide hR1
  replace o1 := hide o1
  go_wp2_with fail
  refine (hpi2.out W1 hRd1).mono ?_
  rintro e W2 ⟨y, rfl, hy, hR2, o2⟩
  have k2 := hide (o2.blk k1.out (by omega))
  have l2 := o2.size
  obtain ⟨la, lc, ka, kc, va, vc, A, c, hye, -⟩ := hy.parts
  have hys := hide hy.sz
  have hya := hide hy.all
  replace hy := hide hy
  replace hR2 := hide hR2
  replace o2 := hide o2
  replace hRd1 := hide hRd1
  replace hye := hide hye
  go_upto_region 4 with (refine wpList_store_blk rfl _ _ _ rfl W2.heap.size y.toArray rfl rfl 41 _ (Blk.new W2 _ _) (by rw [hys.out]; exact q_size) (by rw [hys.out]; rfl) hya.out ?_; intro W3 k3 o3 s3; replace k3 := hide k3; replace o3 := hide (only_new o3); clear s3)
  have hR3 := hR2.out.only o3.out (fun h => h)
  obtain ⟨-, -, c2, c3, c4⟩ := hR3.cells
  have hk3 : nxK ([] : List UInt8) = kEnd := rfl
  rw [hk3] at c2
  unfold kEnd at c2
  have k13 := hide (o3.out.blk k2.out (fun h => h))
  replace hR3 := hide hR3
  replace hk3 := hide hk3
  have hlr : w.heap.size + 1 < W3.heap.size := by have := o3.out.size; omega
  have hW2 : w.heap.size + 1 < W2.heap.size := by omega
  refine wp_region_inv (by kernel_rfl) (fun listed a w' => ∃ (cs : Array Value) (s3 s13 s14 s15 s16 s17 s18 s19 s20 s21 s22 s23 s24 s25 s26 : Value), a = ⟨#[.string S, undef, .pointer (some ⟨w.heap.size, 0, none⟩), s3, .pointer (some ⟨w.heap.size + 1, 0, none⟩), .pointer (some ⟨W2.heap.size, 0, none⟩), .string S, .agg #[.string S, .int .i64 0, .string ⟨#[]⟩, .string ⟨#[]⟩, .bool false], .pointer (some ⟨w.heap.size + 1, 0, none⟩), .pointer (some ⟨w.heap.size + 1, 0, none⟩), .tuple #[], .pointer (some ⟨w.heap.size + 1, 0, none⟩), .agg y.toArray, s13, s14, s15, s16, s17, s18, s19, s20, s21, s22, s23, s24, s25, s26], []⟩ ∧ listed.size = 16 ∧ Only (· = w.heap.size) W3 w' ∧ Blk w' w.heap.size 41 cs ∧ cs.size = 12 ∧ Lv listed [s13, s14, s15, s16, s17, s18, s19, s20, s21, s22, s23, s24, s25, s26, .bool true, s3] [.agg y.toArray, .pointer (some ⟨w.heap.size + 1, 0, none⟩), .pointer (some ⟨w.heap.size + 1, 0, none⟩), .pointer (some ⟨w.heap.size + 1, 4, none⟩), .bool false, .bool true, .bool true, .pointer (some ⟨w.heap.size + 1, 0, none⟩), .pointer (some ⟨w.heap.size + 1, 0, none⟩), .pointer (some ⟨w.heap.size + 1, 2, none⟩), .pointer (some ⟨w.heap.size + 1, 2, none⟩), .string ⟨#[101, 110, 100]⟩, .bool true, .bool true, .bool true, .bool true] ∧ (Up listed 14 → cs = y.toArray)) ?start ?step ?stop
  case start => exact ⟨zC, _, _, _, _, _, _, _, _, _, _, _, _, _, _, _, rfl, rfl, (Only.refl _ W3).drew, k13.out.drew, rfl, Lv.start, fun h => (Up.start h).elim⟩
  case step =>
    rintro listed a w' i ⟨cs, s3, s13, s14, s15, s16, s17, s18, s19, s20, s21, s22, s23, s24, s25, s26, rfl, hsz, onl, kc, hcs, HL, h14⟩ hi
    have hun := Up.un hi
    have hlt16 : i < 16 := by
      obtain ⟨-, o, ho, -⟩ := mem_ready.1 hi
      rcases Nat.lt_or_ge i 16 with h | h
      · exact h
      · rw [Array.getElem?_eq_none (by exact h)] at ho
        cases ho
    have d2 := (only_cell onl ⟨w.heap.size + 1, 2, none⟩ (fun h => by have h' : w.heap.size + 1 = w.heap.size := h; omega) hlr).trans c2
    have d4 := (only_cell onl ⟨w.heap.size + 1, 4, none⟩ (fun h => by have h' : w.heap.size + 1 = w.heap.size := h; omega) hlr).trans c4
    have kq := hide (onl.blk k3.out (fun h => by have h' : W2.heap.size = w.heap.size := h; omega))
    have hsz2 : ∀ i, (listed.setIfInBounds i true).size = 16 := fun i => by rw [Array.size_setIfInBounds]; exact hsz
    replace hsz2 := hide hsz2
    clear c2 c3 c4
    have hi16 : i = 0 ∨ i = 1 ∨ i = 2 ∨ i = 3 ∨ i = 4 ∨ i = 5 ∨ i = 6 ∨ i = 7 ∨ i = 8 ∨ i = 9 ∨ i = 10 ∨ i = 11 ∨ i = 12 ∨ i = 13 ∨ i = 14 ∨ i = 15 := by omega
    rcases hi16 with rfl | rfl | rfl | rfl | rfl | rfl | rfl | rfl | rfl | rfl | rfl | rfl | rfl | rfl | rfl | rfl
    · replace HL := hide HL
      replace h14 := hide h14
      replace hi := hide hi
      replace hun := hide hun
      replace hsz := hide hsz
      replace onl := hide onl
      replace kc := hide kc
      replace hcs := hide hcs
      refine wpOp_of_list rfl ?_
      go_wp2_with (refine wpList_load_row rfl _ _ rfl W2.heap.size rfl 41 y.toArray (0, 0) _ kq.out Tryz.underlying41 rfl (by rw [hys.out]; exact q_size) ?_)
      exact Then.normal ⟨_, _, _, _, _, _, _, _, _, _, _, _, _, _, _, _, rfl, hsz2.out _, onl.out, kc.out, hcs.out, HL.out.put 0 rfl, fun h => h14.out (Up.set_ne (by decide) h)⟩
    · replace HL := hide HL
      replace h14 := hide h14
      replace hi := hide hi
      replace hun := hide hun
      replace hsz := hide hsz
      replace onl := hide onl
      replace kc := hide kc
      replace hcs := hide hcs
      refine wpOp_of_list rfl ?_
      go_wp2_with fail
      exact Then.normal ⟨_, _, _, _, _, _, _, _, _, _, _, _, _, _, _, _, rfl, hsz2.out _, onl.out, kc.out, hcs.out, HL.out.put 1 rfl, fun h => h14.out (Up.set_ne (by decide) h)⟩
    · obtain rfl := HL.get 1 rfl rfl (Up.waits hi 1 (by kernel_rfl))
      replace HL := hide HL
      replace h14 := hide h14
      replace hi := hide hi
      replace hun := hide hun
      replace hsz := hide hsz
      replace onl := hide onl
      replace kc := hide kc
      replace hcs := hide hcs
      refine wpOp_of_list rfl ?_
      go_wp2_with fail
      exact Then.normal ⟨_, _, _, _, _, _, _, _, _, _, _, _, _, _, _, _, rfl, hsz2.out _, onl.out, kc.out, hcs.out, HL.out.put 2 rfl, fun h => h14.out (Up.set_ne (by decide) h)⟩
    · obtain rfl := HL.get 2 rfl rfl (Up.waits hi 2 (by kernel_rfl))
      replace HL := hide HL
      replace h14 := hide h14
      replace hi := hide hi
      replace hun := hide hun
      replace hsz := hide hsz
      replace onl := hide onl
      replace kc := hide kc
      replace hcs := hide hcs
      refine wpOp_of_list rfl ?_
      go_wp2_with fail
      exact Then.normal ⟨_, _, _, _, _, _, _, _, _, _, _, _, _, _, _, _, rfl, hsz2.out _, onl.out, kc.out, hcs.out, HL.out.put 3 rfl, fun h => h14.out (Up.set_ne (by decide) h)⟩
    · obtain rfl := HL.get 3 rfl rfl (Up.waits hi 3 (by kernel_rfl))
      replace HL := hide HL
      replace h14 := hide h14
      replace hi := hide hi
      replace hun := hide hun
      replace hsz := hide hsz
      replace onl := hide onl
      replace kc := hide kc
      replace hcs := hide hcs
      refine wpOp_of_list rfl ?_
      go_wp2_with fail
      exact Then.normal ⟨_, _, _, _, _, _, _, _, _, _, _, _, _, _, _, _, rfl, hsz2.out _, onl.out, kc.out, hcs.out, HL.out.put 4 rfl, fun h => h14.out (Up.set_ne (by decide) h)⟩
    · obtain rfl := HL.get 4 rfl rfl (Up.waits hi 4 (by kernel_rfl))
      replace HL := hide HL
      replace h14 := hide h14
      replace hi := hide hi
      replace hun := hide hun
      replace hsz := hide hsz
      replace onl := hide onl
      replace kc := hide kc
      replace hcs := hide hcs
      refine wpOp_of_list rfl ?_
      go_wp2_with fail
      exact Then.normal ⟨_, _, _, _, _, _, _, _, _, _, _, _, _, _, _, _, rfl, hsz2.out _, onl.out, kc.out, hcs.out, HL.out.put 5 rfl, fun h => h14.out (Up.set_ne (by decide) h)⟩
    · obtain rfl := HL.get 5 rfl rfl (Up.waits hi 5 (by kernel_rfl))
      replace HL := hide HL
      replace h14 := hide h14
      replace hi := hide hi
      replace hun := hide hun
      replace hsz := hide hsz
      replace onl := hide onl
      replace kc := hide kc
      replace hcs := hide hcs
      refine wpOp_of_list rfl ?_
      go_wp2_with fail
      exact Then.normal ⟨_, _, _, _, _, _, _, _, _, _, _, _, _, _, _, _, rfl, hsz2.out _, onl.out, kc.out, hcs.out, HL.out.put 6 rfl, fun h => h14.out (Up.set_ne (by decide) h)⟩
    · obtain rfl := HL.get 6 rfl rfl (Up.waits hi 6 (by kernel_rfl))
      replace HL := hide HL
      replace h14 := hide h14
      replace hi := hide hi
      replace hun := hide hun
      replace hsz := hide hsz
      replace onl := hide onl
      replace kc := hide kc
      replace hcs := hide hcs
      refine wpOp_of_list rfl ?_
      go_wp2_with fail
      exact Then.normal ⟨_, _, _, _, _, _, _, _, _, _, _, _, _, _, _, _, rfl, hsz2.out _, onl.out, kc.out, hcs.out, HL.out.put 7 rfl, fun h => h14.out (Up.set_ne (by decide) h)⟩
    · obtain rfl := HL.get 6 rfl rfl (Up.waits hi 6 (by kernel_rfl))
      obtain rfl := HL.get 7 rfl rfl (Up.waits hi 7 (by kernel_rfl))
      replace HL := hide HL
      replace h14 := hide h14
      replace hi := hide hi
      replace hun := hide hun
      replace hsz := hide hsz
      replace onl := hide onl
      replace kc := hide kc
      replace hcs := hide hcs
      refine wpOp_of_list rfl ?_
      go_wp2_with fail
      exact Then.normal ⟨_, _, _, _, _, _, _, _, _, _, _, _, _, _, _, _, rfl, hsz2.out _, onl.out, kc.out, hcs.out, HL.out.put 8 rfl, fun h => h14.out (Up.set_ne (by decide) h)⟩
    · obtain rfl := HL.get 6 rfl rfl (Up.waits hi 6 (by kernel_rfl))
      obtain rfl := HL.get 8 rfl rfl (Up.waits hi 8 (by kernel_rfl))
      replace HL := hide HL
      replace h14 := hide h14
      replace hi := hide hi
      replace hun := hide hun
      replace hsz := hide hsz
      replace onl := hide onl
      replace kc := hide kc
      replace hcs := hide hcs
      refine wpOp_of_list rfl ?_
      go_wp2_with fail
      exact Then.normal ⟨_, _, _, _, _, _, _, _, _, _, _, _, _, _, _, _, rfl, hsz2.out _, onl.out, kc.out, hcs.out, HL.out.put 9 rfl, fun h => h14.out (Up.set_ne (by decide) h)⟩
    · obtain rfl := HL.get 6 rfl rfl (Up.waits hi 6 (by kernel_rfl))
      obtain rfl := HL.get 9 rfl rfl (Up.waits hi 9 (by kernel_rfl))
      replace HL := hide HL
      replace h14 := hide h14
      replace hi := hide hi
      replace hun := hide hun
      replace hsz := hide hsz
      replace onl := hide onl
      replace kc := hide kc
      replace hcs := hide hcs
      refine wpOp_of_list rfl ?_
      go_wp2_with fail
      exact Then.normal ⟨_, _, _, _, _, _, _, _, _, _, _, _, _, _, _, _, rfl, hsz2.out _, onl.out, kc.out, hcs.out, HL.out.put 10 rfl, fun h => h14.out (Up.set_ne (by decide) h)⟩
    · obtain rfl := HL.get 6 rfl rfl (Up.waits hi 6 (by kernel_rfl))
      obtain rfl := HL.get 10 rfl rfl (Up.waits hi 10 (by kernel_rfl))
      replace HL := hide HL
      replace h14 := hide h14
      replace hi := hide hi
      replace hun := hide hun
      replace hsz := hide hsz
      replace onl := hide onl
      replace kc := hide kc
      replace hcs := hide hcs
      refine wpOp_of_list rfl ?_
      go_wp2_with fail
      exact Then.normal ⟨_, _, _, _, _, _, _, _, _, _, _, _, _, _, _, _, rfl, hsz2.out _, onl.out, kc.out, hcs.out, HL.out.put 11 rfl, fun h => h14.out (Up.set_ne (by decide) h)⟩
    · obtain rfl := HL.get 6 rfl rfl (Up.waits hi 6 (by kernel_rfl))
      obtain rfl := HL.get 11 rfl rfl (Up.waits hi 11 (by kernel_rfl))
      replace HL := hide HL
      replace h14 := hide h14
      replace hi := hide hi
      replace hun := hide hun
      replace hsz := hide hsz
      replace onl := hide onl
      replace kc := hide kc
      replace hcs := hide hcs
      refine wpOp_of_list rfl ?_
      go_wp2_with fail
      exact Then.normal ⟨_, _, _, _, _, _, _, _, _, _, _, _, _, _, _, _, rfl, hsz2.out _, onl.out, kc.out, hcs.out, HL.out.put 12 rfl, fun h => h14.out (Up.set_ne (by decide) h)⟩
    · obtain rfl := HL.get 6 rfl rfl (Up.waits hi 6 (by kernel_rfl))
      obtain rfl := HL.get 12 rfl rfl (Up.waits hi 12 (by kernel_rfl))
      replace HL := hide HL
      replace h14 := hide h14
      replace hi := hide hi
      replace hun := hide hun
      replace hsz := hide hsz
      replace onl := hide onl
      replace kc := hide kc
      replace hcs := hide hcs
      refine wpOp_of_list rfl ?_
      go_wp2_with fail
      exact Then.normal ⟨_, _, _, _, _, _, _, _, _, _, _, _, _, _, _, _, rfl, hsz2.out _, onl.out, kc.out, hcs.out, HL.out.put 13 rfl, fun h => h14.out (Up.set_ne (by decide) h)⟩
    · obtain rfl := HL.get 0 rfl rfl (Up.waits hi 0 (by kernel_rfl))
      replace HL := hide HL
      replace h14 := hide h14
      replace hi := hide hi
      replace hun := hide hun
      replace hsz := hide hsz
      replace onl := hide onl
      replace kc := hide kc
      replace hcs := hide hcs
      refine wpOp_of_list rfl ?_
      go_wp2_with (refine wpList_store_blk rfl _ _ _ rfl w.heap.size y.toArray rfl rfl 41 _ kc.out (by rw [hys.out]; exact q_size) (by rw [hys.out, hcs.out]) hya.out ?_; intro W5 k5 o5 s5)
      exact Then.normal ⟨y.toArray, _, _, _, _, _, _, _, _, _, _, _, _, _, _, _, rfl, hsz2.out _, onl.out.trans o5, k5, hys.out, HL.out.put 14 rfl, fun _ => rfl⟩
    · obtain rfl := HL.get 13 rfl rfl (Up.waits hi 13 (by kernel_rfl))
      replace HL := hide HL
      replace h14 := hide h14
      replace hi := hide hi
      replace hun := hide hun
      replace hsz := hide hsz
      replace onl := hide onl
      replace kc := hide kc
      replace hcs := hide hcs
      refine wpOp_of_list rfl ?_
      go_wp2_with fail
      exact Then.normal ⟨_, _, _, _, _, _, _, _, _, _, _, _, _, _, _, _, rfl, hsz2.out _, onl.out, kc.out, hcs.out, HL.out.put 15 rfl, fun h => h14.out (Up.set_ne (by decide) h)⟩
  case stop =>
    rintro listed a w' ⟨cs, s3, s13, s14, s15, s16, s17, s18, s19, s20, s21, s22, s23, s24, s25, s26, rfl, hsz, onl, kc, hcs, HL, h14⟩ hi
    have hall := Up.all hsz (by kernel_rfl) hi
    obtain rfl := HL.get 15 rfl rfl (hall 15 (by decide))
    obtain rfl := h14 (hall 14 (by decide))
    clear HL h14 hall hi
    have hon : Only (· = w.heap.size) W2 w' := Only.trans o3.out.no onl
    have hy5 := hy.out.only hon (P' := (w.heap.size ≤ ·)) (fun b h1 h2 h3 => by have h1' : W1.heap.size ≤ b := h1; have h3' : b = w.heap.size := h3; omega) (fun b h1 h2 => by have h2' : W1.heap.size ≤ b := h2; show w.heap.size ≤ b; omega)
    have hb1 := o1.out.below (B := w.heap.size) (by intro k hk; omega) (by omega)
    have hb2 := o2.out.below (B := w.heap.size) (by intro k hk; omega) (by omega)
    have hb3 := hon.below (B := w.heap.size) (by intro k hk; omega) (by omega)
    have hb := ((o0.out.trans hb1).trans hb2).trans hb3
    replace hon := hide hon
    replace onl := hide onl
    replace hb := hide hb
    replace hy5 := hide hy5
    clear hb1 hb2 hb3
    go_wp2_with fail
    exact bodyPost_ret (results_cell_tmp Tryz.results11 _ _ w.heap.size 41 y.toArray (0, 0) _ rfl kc Tryz.underlying41 rfl (by rw [hys.out]; exact q_size) rfl) rfl ⟨y, rfl, hy5.out, hb.out⟩
end Go.Proofs.YtbnbemacljjimaaGreatDoor
