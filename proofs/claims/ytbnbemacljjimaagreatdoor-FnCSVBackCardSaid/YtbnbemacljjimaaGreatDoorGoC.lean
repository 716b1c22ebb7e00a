/- A map as the program takes it. -/
import Derived.Test.YtbnbemacljjimaaGreatDoorKeyOrd
import Derived.StringKeys
namespace Go.Proofs.YtbnbemacljjimaaGreatDoor
open Go.RowKit
set_option linter.unusedVariables false

structure Mp (n : Nat) (v : JV) (W wr : World) (S j : Nat) (ents : List Ent) : Prop where
  only : Only (· = S) W wr
  map : MapIs wr S ents
  len : ents.length = j
  keys : ents.map (·.1) = v.keys.take j
  vals : ∀ (i : Nat) y, i < j → v.vals[i]? = some y → ∃ e : Ent, ents[i]? = some e ∧ GAt wr (S + 1) n e.2 y

theorem rise_all {ks : List ByteArray} (h : Rise ks) : ∀ (d i : Nat) (a b : ByteArray), ks[i]? = some a → ks[i + d + 1]? = some b → bytesBefore a.data.toList b.data.toList = true
  | 0, i, a, b, ha, hb => by
    have := h i a b ha hb
    rwa [less_before, toList_data, toList_data] at this
  | d + 1, i, a, b, ha, hb => by
    have hlt := (List.getElem?_eq_some_iff.1 hb).1
    obtain ⟨c, hc⟩ : ∃ c, ks[i + d + 1]? = some c := ⟨_, List.getElem?_eq_getElem (by omega)⟩
    have h1 := rise_all h d i a c ha hc
    have h2 := h (i + d + 1) c b hc hb
    rw [less_before, toList_data, toList_data] at h2
    exact WideShapes.bytes_trans _ _ _ h1 h2

theorem rise_before {v : JV} {ks : List ByteArray} (h : Rise ks) {j : Nat} {ents : List Ent} (hk : ents.map (·.1) = ks.take j) {k : ByteArray} (hkj : ks[j]? = some k) : ∀ e ∈ ents, bytesBefore e.1.data.toList k.data.toList = true := by
  intro e he
  have h1 : e.1 ∈ ks.take j := by rw [← hk]; exact List.mem_map_of_mem he
  obtain ⟨i, hi, hie⟩ := List.getElem_of_mem h1
  rw [List.length_take] at hi
  have hie' : ks[i]? = some e.1 := by
    rw [List.getElem_take] at hie
    rw [← hie]
    exact List.getElem?_eq_getElem (by omega)
  have : j = i + (j - i - 1) + 1 := by omega
  rw [this] at hkj
  exact rise_all h (j - i - 1) i _ _ hie' hkj

theorem Mp.next {n : Nat} {v : JV} {W wr W2 w1 : World} {S j : Nat} {ents : List Ent} (hm : Mp n v W wr S j ents) (hr : Rise v.keys) (hb : Below wr.heap.size wr W2) {sj : ByteArray} {x : JV} (hsj : v.keys[j]? = some sj) (hxj : v.vals[j]? = some x)
    {y : Value} {lo : Nat} (hlo : S + 1 ≤ lo) (hS : S < wr.heap.size) (hy : GAt W2 lo n y x)
    (hown : w1.ownsMap Tryz.prog 9 Rv S (ents.length + 1) ((DataW.map (ents.map entL)).put (.string sj.data.toList) (.held y))) (hg : W2.grownBy w1 (some S)) : Mp n v W w1 S (j + 1) (ents ++ [(sj, y)]) := by
  have o2 : Only (· = S) W2 w1 := (Only.refl (· = S) W2).grown hg (fun k hk => Or.inl (by cases hk; rfl))
  have o1 : Only (· = S) wr w1 := (Only.of_below (P := (· = S)) hb (fun k hk _ => hk)).trans o2
  refine ⟨hm.only.trans o1, ?_, by simp [hm.len], ?_, fun i z hi hz => ?_⟩
  · rw [put_end ents sj y (rise_before (v := v) hr hm.keys hsj)] at hown
    show w1.ownsMap Tryz.prog 9 Rv S (ents ++ [(sj, y)]).length (.map ((ents ++ [(sj, y)]).map entL))
    rw [show (ents ++ [(sj, y)]).length = ents.length + 1 by simp]
    exact hown
  · rw [List.map_append, hm.keys, List.take_add_one, hsj]
    rfl
  · rcases Nat.lt_or_ge i j with hlt | hge
    · obtain ⟨e, he, hge⟩ := hm.vals i z hlt hz
      exact ⟨e, by rw [List.getElem?_append_left (by rw [hm.len]; exact hlt)]; exact he, GAt.only o1 (by intro k hk; omega) n _ _ hge⟩
    · obtain rfl : i = j := by omega
      rw [hxj] at hz
      cases hz
      refine ⟨(sj, y), by rw [List.getElem?_append_right (by rw [hm.len]; exact Nat.le_refl _), hm.len]; simp, ?_⟩
      exact GAt.low hlo n _ _ (GAt.only o2 (by intro k hk; omega) n _ _ hy)

set_option maxHeartbeats 2000000 in
set_option maxRecDepth 100000 in
theorem map_step (n : Nat) (hT : TG n) : MG n := by
  intro w B x v hx hg hB
  obtain ⟨la, lc, ka, kc, va, vc, rfl, hl1, hl2, hl3, hl4, hl5, hl6, hl7, hl8, hl9, hla, hka, hva⟩ := hx
  obtain ⟨-, -, -, -, -, hkv, -, -, -, -, hv400, -, -, hrise, hvals⟩ := hg
  obtain ⟨W0, hW0⟩ : ∃ W0, W0 = w.alloc (.cells #[.int .i64 v.kind, .int .i64 v.half, .string v.text, .slice la v.list.length lc, .slice ka v.keys.length kc, .slice va v.vals.length vc] 26) := ⟨_, rfl⟩
  obtain ⟨W, hW⟩ : ∃ W, W = W0.alloc (.map #[] 0) := ⟨_, rfl⟩
  have s0 : W0.heap.size = w.heap.size + 1 := by rw [hW0]; simp
  have bk0 : Blk W0 w.heap.size 26 #[.int .i64 v.kind, .int .i64 v.half, .string v.text, .slice la v.list.length lc, .slice ka v.keys.length kc, .slice va v.vals.length vc] := by rw [hW0]; exact Blk.new w _ _
  have bk : Blk W w.heap.size 26 #[.int .i64 v.kind, .int .i64 v.half, .string v.text, .slice la v.list.length lc, .slice ka v.keys.length kc, .slice va v.vals.length vc] := by rw [hW]; exact bk0.alloc _
  have bW : Below w.heap.size w W := by rw [hW, hW0]; exact Below.alloc (Below.alloc (Below.refl _ _) (Nat.le_refl _) _) (by simp) _
  have sW : W.heap.size = w.heap.size + 2 := by rw [hW]; simp [s0]
  have hm0 : MapIs W (w.heap.size + 1) [] := by rw [hW, ← s0]; exact World.ownsMap_made W0 _ _ _
  have h0 : Mp n v W W (w.heap.size + 1) 0 [] := ⟨Only.refl _ _, hm0, rfl, by simp, fun i y hi => absurd hi (by omega)⟩
  have hmk := fun W => run_makeMap_hint (P := Tryz.prog) 86 9 20 .i64 (v.keys.length : Int) Tryz.underlying86 W
  have hne : (((v.keys.length : Nat) : Int) != ((v.vals.length : Nat) : Int)) = false := by simp [hkv]
  replace hkv := hide hkv
  replace h0 := hide h0
  replace bk := hide bk
  replace bW := hide bW
  replace hka := hide hka
  replace hva := hide hva
  replace hvals := hide hvals
  replace hrise := hide hrise
  clear hla hm0 bk0
  replace hW0 := hide hW0
  replace hW := hide hW
  go_enter Tryz.func44, Tryz.ntmps44
  go_wp2_with fail
  rw [← hW0.out, ← hW.out]
  go_loopw [23] (fun s23 wr => ∃ (j : Nat) (ents : List Ent), s23 = .int .i64 j ∧ j ≤ v.keys.length ∧ Mp n v W wr (w.heap.size + 1) j ents) (fun i _ => v.keys.length - (intOf i).toNat)
  case atStart => exact ⟨0, [], rfl, Nat.zero_le _, h0.out⟩
  case round =>
    obtain ⟨j, ents, rfl, hj, hm⟩ := hrel
    have hsr := hm.only.size
    have hkr := hm.only.blk bk.out (by omega)
    have kc4 := hkr.cell 4
    have kc5 := hkr.cell 5
    simp at kc4 kc5
    replace hkr := hide hkr
    have hfr : ∀ p : Addr, p.block < B → wr.cell? p = w.cell? p := fun p hp => (hm.only.cells (B := w.heap.size) (by intro k hk; omega) (by omega) p (by omega)).trans (bW.out.cell (by omega))
    have hkv' := hkv.out
    by_cases hjl : j < v.keys.length
    · obtain ⟨bs, os, rfl, hbs, hsc⟩ := hka.out.2 (by omega)
      obtain ⟨bv, ov, rfl, hbv, hvc⟩ := hva.out (by omega)
      obtain ⟨sj, hsj⟩ : ∃ s, v.keys[j]? = some s := ⟨_, List.getElem?_eq_getElem hjl⟩
      obtain ⟨x, hxj⟩ : ∃ x, v.vals[j]? = some x := ⟨_, List.getElem?_eq_getElem (by omega)⟩
      have es := (hfr _ hbs).trans (hsc j sj hsj)
      have hss := hka.out.1 _ (List.mem_of_getElem? hsj)
      obtain ⟨c0, c1, c2, c3, c4, c5, e0, e1, e2, e3, e4, e5, hxx⟩ := hvc j x hxj
      replace e0 := (hfr _ hbv).trans e0
      replace e1 := (hfr _ hbv).trans e1
      replace e2 := (hfr _ hbv).trans e2
      replace e3 := (hfr _ hbv).trans e3
      replace e4 := (hfr _ hbv).trans e4
      replace e5 := (hfr _ hbv).trans e5
      have hxr := hide (JAt.keep hfr (Nat.le_refl _) n _ _ hxx)
      have hgx := hide (hvals.out x (List.mem_of_getElem? hxj))
      have hjv : j < v.vals.length := by omega
      replace hm := hide hm
      replace hvc := hide hvc
      replace hfr := hide hfr
      clear hxx hkv'
      have hlo : w.heap.size + 1 + 1 ≤ wr.heap.size := by omega
      have hBw : B ≤ wr.heap.size := by omega
      have hkey : keyOf Tryz.prog 9 (.string sj) = some (.string sj.data.toList) := WideMaps.keyOf_string_mk Tryz.underlying9 (by unfold maxLen; omega)
      have hroom : ents.length < maxLen := by rw [hm.out.len]; unfold maxLen; omega
      replace hkey := hide hkey
      have hj0 : j = 0 ∨ 0 < j := by omega
      rcases hj0 with hj0 | hj0
      all_goals first
      | (have hj0' : ¬ (0 : Int) < (j : Int) := by omega
         replace hj0 := hide hj0)
      | (have hj0' : (0 : Int) < (j : Int) := by omega
         have hj1 : IntKind.i64.wrap ((j : Int) - 1) = ((j - 1 : Nat) : Int) := by rw [IntKind.wrap_i64]; omega
         obtain ⟨sp, hsp⟩ : ∃ s, v.keys[j - 1]? = some s := ⟨_, List.getElem?_eq_getElem (by omega)⟩
         have ep := (hfr.out _ hbs).trans (hsc (j - 1) sp hsp)
         have hlt : Op.bytesLess sp.toList sj.toList = true := hrise.out (j - 1) sp sj hsp (by rw [show j - 1 + 1 = j by omega]; exact hsj))
      all_goals
        replace hsc := hide hsc
        go_wp2_with fail
        refine (hT wr B _ x hxr.out hgx.out hBw).mono ?_
        rintro e W2 ⟨y, rfl, b2, hy⟩
        have hown : W2.ownsMap Tryz.prog 9 Rv (w.heap.size + 1) ents.length (.map (ents.map entL)) := MapIs.only (P := fun _ => False) hm.out.map (Only.of_below b2 (fun k hk _ => hk)) (fun h => h)
        have hbk2 := hide (hkr.out.below b2 (by omega))
        have hform := hy.form
        replace hown := hide hown
        replace b2 := hide b2
        replace hy := hide hy
        rcases hform with rfl | ⟨ty, u, rfl⟩
        all_goals
          go_wp2_with (at_mapUpdate; refine wpList_mapUpdate_own _ rfl _ _ _ 86 rfl 9 20 (Maps.string_keyed Tryz.underlying9) Tryz.underlying86 Rv (w.heap.size + 1) ents.length _ rfl hown.out hroom _ _ (.string sj.data.toList) rfl rfl hkey.out (.held _) [] rfl ?_; intro w1 hown1 hgrow1; have hnext := hide (hm.out.next hrise.out b2.out hsj hxj hlo (by omega) hy.out hown1 hgrow1); clear hown1 hgrow1)
          go_roundw
          case rel => exact ⟨j + 1, _, by go_num, by omega, hnext.out⟩
          case measure => simp [intOf]; omega
    · obtain rfl : j = v.keys.length := by omega
      replace hm := hide hm
      go_wp2
      go_ret2
      refine ⟨w.heap.size + 1, ents, by simp, ?_, by omega, by omega, hm.out.map, by rw [hm.out.keys]; simp, fun i y hy => ?_⟩
      · exact bW.out.trans (hm.out.only.below (B := w.heap.size) (by intro k hk; omega) (by omega))
      · have hi := (List.getElem?_eq_some_iff.1 hy).1
        obtain ⟨e, he, hg⟩ := hm.out.vals i y (by omega) hy
        exact ⟨e, he, GAt.low (by omega) n _ _ hg⟩

theorem all_go : ∀ n : Nat, LG n ∧ MG n ∧ TG n
  | 0 => by
    have hT : TG 0 := fun w B x v _ hg _ => absurd hg (fun h => h)
    exact ⟨list_step 0 hT, map_step 0 hT, hT⟩
  | n + 1 => by
    obtain ⟨h1, h2, h3⟩ := all_go n
    have hT : TG (n + 1) := toGo_step n h1 h2
    exact ⟨list_step (n + 1) hT, map_step (n + 1) hT, hT⟩
theorem toGo_any (n : Nat) : TG n := (all_go n).2.2
theorem mapToGo_any (n : Nat) : MG n := (all_go n).2.1
theorem listToGo_any (n : Nat) : LG n := (all_go n).1
end Go.Proofs.YtbnbemacljjimaaGreatDoor
