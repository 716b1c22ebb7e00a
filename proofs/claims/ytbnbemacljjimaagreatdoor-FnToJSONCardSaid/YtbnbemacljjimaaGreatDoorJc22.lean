/- A level of the reader, where no operator stands. -/
import Derived.Test.YtbnbemacljjimaaGreatDoorJc18
import Derived.Shelf.Lays
import Derived.Test.YtbnbemacljjimaaGreatDoorProg
import Derived.Test.YtbnbemacljjimaaGreatDoorJc19
import Derived.Shelf.Unicode.DecodeAny
import Derived.Lib.ValidLaws
import Derived.Lib.TrimUEq
import Derived.Test.YtbnbemacljjimaaGreatDoorJc12
namespace Go.Proofs.YtbnbemacljjimaaGreatDoor
open Go.RowKit Go.Lib
set_option linter.unusedVariables false

/-- The slots of the operations that have come up hold their values. -/
def Lv (listed : Array Bool) (ss vs : List Value) : Prop := ∀ (j : Nat) (a b : Value), ss[j]? = some a → vs[j]? = some b → Up listed j → a = b
theorem Lv.start {n : Nat} {ss vs : List Value} : Lv (Array.replicate n false) ss vs := fun j a b _ _ h => (Up.start h).elim
theorem Lv.get {listed : Array Bool} {ss vs : List Value} (h : Lv listed ss vs) (j : Nat) {a b : Value} (ha : ss[j]? = some a) (hb : vs[j]? = some b) (hu : Up listed j) : a = b := h j a b ha hb hu
theorem Lv.set_ {listed : Array Bool} {ss vs vs' : List Value} (h : Lv listed ss vs) (i : Nat) {t : Value} (hv : ∀ j, j ≠ i → vs'[j]? = vs[j]?) (ht : vs'[i]? = some t) : Lv (listed.setIfInBounds i true) (ss.set i t) vs' := by
  intro j a b ha hb hu
  by_cases hj : j = i
  · subst hj
    rw [ht] at hb
    cases hb
    rw [List.getElem?_set] at ha
    simp at ha
    exact ha.2.symm
  · rw [List.getElem?_set_ne (Ne.symm hj)] at ha
    rw [hv j hj] at hb
    exact h j a b ha hb (Up.set_ne hj hu)
theorem Lv.put {listed : Array Bool} {ss vs : List Value} (h : Lv listed ss vs) (i : Nat) {t : Value} (ht : vs[i]? = some t) : Lv (listed.setIfInBounds i true) (ss.set i t) vs := h.set_ i (fun _ _ => rfl) ht

/-- The values of a level's region. -/
def lvV (r n : Nat) (X : ByteArray) (g m : Nat) : List Value := [.pointer (some ⟨r, 0, none⟩), .pointer (some ⟨r, 0, none⟩), .pointer (some ⟨r, 4, none⟩), .bool false, .bool true, .bool true, .pointer (some ⟨r, 0, none⟩), .pointer (some ⟨r, 0, none⟩), .pointer (some ⟨r, 2, none⟩), .pointer (some ⟨r, 2, none⟩), .string ⟨#[111, 112]⟩, .bool true, .bool true, undef, undef, undef, undef, undef, undef, .bool true, .bool true, .bool true, .int .i64 (n : Int), .slice (some ⟨g, 0, none⟩) m m, .pointer (some ⟨r, 0, none⟩), .pointer (some ⟨r, 0, none⟩), .pointer (some ⟨r, 2, none⟩), .pointer (some ⟨r, 3, none⟩), .string X, .bool false, .bool false]
theorem lvV_same (r n : Nat) (X : ByteArray) (g m g' m' : Nat) : ∀ j, j ≠ 23 → (lvV r n X g m)[j]? = (lvV r n X g' m')[j]? := by
  intro j hj
  unfold lvV
  rcases Nat.lt_or_ge j 23 with h | h
  · rcases (by omega : j = 0 ∨ j = 1 ∨ j = 2 ∨ j = 3 ∨ j = 4 ∨ j = 5 ∨ j = 6 ∨ j = 7 ∨ j = 8 ∨ j = 9 ∨ j = 10 ∨ j = 11 ∨ j = 12 ∨ j = 13 ∨ j = 14 ∨ j = 15 ∨ j = 16 ∨ j = 17 ∨ j = 18 ∨ j = 19 ∨ j = 20 ∨ j = 21 ∨ j = 22) with rfl | rfl | rfl | rfl | rfl | rfl | rfl | rfl | rfl | rfl | rfl | rfl | rfl | rfl | rfl | rfl | rfl | rfl | rfl | rfl | rfl | rfl | rfl <;> rfl
  · rcases Nat.lt_or_ge j 31 with h2 | h2
    · rcases (by omega : j = 24 ∨ j = 25 ∨ j = 26 ∨ j = 27 ∨ j = 28 ∨ j = 29 ∨ j = 30) with rfl | rfl | rfl | rfl | rfl | rfl | rfl <;> rfl
    · rw [List.getElem?_eq_none (by simpa using h2), List.getElem?_eq_none (by simpa using h2)]

set_option maxHeartbeats 16000000 in
set_option maxRecDepth 100000 in
theorem level_step {r : Nat} {s : ByteArray} {l rest : List UInt8} {q : QV} (n : Nat) (hn : n ≤ 5) (hs : s.size ≤ 1000000) (hf : Fol rest) (h : LvSays (n + 1) r s l rest q) : LvSays n r s l rest q := by
  intro w hR
  have hrw := hR.lt
  replace h := hide h
  obtain ⟨W0, hW0⟩ : ∃ W0, W0 = w.alloc (.cells zC 41) := ⟨_, rfl⟩
  have o0 : Only (· = r) w W0 := by rw [hW0]; exact (Only.refl _ w).alloc _
  have k0 : Blk W0 w.heap.size 41 zC := by rw [hW0]; exact Blk.new w _ _
  have s0 : W0.heap.size = w.heap.size + 1 := by rw [hW0]; simp
  have hR0 : Ready W0 r s l := by rw [hW0]; exact hR.only ((Only.refl (fun _ => False) w).alloc _) (fun h => h)
  replace o0 := hide o0
  replace s0 := hide s0
  replace hR0 := hide hR0
  replace k0 := hide k0
  clear hR
  unfold zC at hW0
  have hn1 : ¬ (5 : Int) < (n : Int) := by omega
  have hn2 : (n : Int) + 1 = ((n + 1 : Nat) : Int) := by omega
  replace hn2 := hide hn2
  go_enter Tryz.func94, Tryz.ntmps94
  go_wp2_with fail
  rw [← hW0]
  clear hW0
  rw [hn2.out]
  refine (h.out W0 hR0.out).mono ?_
  rintro e W1 ⟨y, rfl, hy, hR1, o1⟩
  have k1 := hide (o1.blk k0.out (by omega))
  have hlt1 := o1.size
  have hys := hy.sz
  have hya := hy.all
  replace hys := hide hys
  replace hya := hide hya
  replace hy := hide hy
  replace hR1 := hide hR1
  replace o1 := hide o1
  go_upto_region 4 with (refine wpList_store_blk rfl _ _ _ rfl W1.heap.size y.toArray rfl rfl 41 _ (Blk.new W1 _ _) (by rw [hys.out]; exact q_size) (by rw [hys.out]; rfl) hya.out ?_; intro W3 k3 o3 s3; replace k3 := hide k3; replace o3 := hide (only_new o3); clear s3)
  go_frame
  go_loopw [] (fun wr => wr = W3) (fun _ => 0)
  case atStart => rfl
  case round =>
    subst hrel
    have hR3 := hR1.out.only o3.out (fun h => h)
    have hlr := hR3.lt
    obtain ⟨-, -, c2, c3, c4⟩ := hR3.cells
    have k13 := o3.out.blk k1.out (fun h => h)
    have hft := fol_tok hf
    obtain ⟨K, hK⟩ : ∃ K, nxK rest = K := ⟨_, rfl⟩
    obtain ⟨X, hX⟩ : ∃ X, nxT rest = X := ⟨_, rfl⟩
    rw [hK] at c2 hft
    rw [hX] at c3 hft
    replace hK := hide hK
    replace hX := hide hX
    replace hR3 := hide hR3
    replace k13 := hide k13
    replace hf := hide hf
    go_upto_region 4 with fail
    go_cut [45] from 15 to 66 (fun s45 wc => s45 = .bool false ∧ Only (fun _ => False) wr wc)
    case first =>
      clear k3 o3 hR3
      rcases hft with ⟨hk, -⟩ | ⟨hk, hfx⟩
      · have b1 : (K.toList == [111, 112]) = false := by rw [hk, Lib.toList_data]; decide
        have b2 : (K.toList == [110, 97, 109, 101]) = false := by rw [hk, Lib.toList_data]; decide
        replace hk := hide hk
        go_quiet (fail)
        go_wp2_with fail
        go_meet
        case rel => exact ⟨rfl, (Only.refl _ wr).drewN _⟩
      · rw [hk] at c2
        unfold kOp at c2
        replace hk := hide hk
        replace hfx := hide hfx
        refine wp_region_inv (by kernel_rfl) (fun listed a w' => ∃ (g m : Nat) (cs : Array Value) (s15 s16 s17 s18 s19 s20 s21 s22 s23 s24 s25 s26 s27 s28 s29 s30 s31 s32 s33 s34 s35 s36 s37 s38 s39 s40 s41 s42 s43 s44 s45 : Value), a = ⟨#[.pointer (some ⟨r, 0, none⟩), .int .i64 (n : Int), undef, undef, .pointer (some ⟨w.heap.size, 0, none⟩), .pointer (some ⟨W1.heap.size, 0, none⟩), u6, .int .i64 (n : Int), .bool false, undef, undef, .pointer (some ⟨r, 0, none⟩), .int .i64 (n : Int), .int .i64 ((n : Int) + 1), .agg y.toArray, s15, s16, s17, s18, s19, s20, s21, s22, s23, s24, s25, s26, s27, s28, s29, s30, s31, s32, s33, s34, s35, s36, s37, s38, s39, s40, s41, s42, s43, s44, s45, u46, u47, u48, u49, u50, u51, u52, u53, u54, u55, u56, u57, u58, u59, u60, u61, u62, u63, u64, u65, u66, u67, undef], []⟩ ∧ listed.size = 31 ∧ Only (fun _ => False) wr w' ∧ Lv listed [s15, s16, s17, s18, s19, s20, s21, s22, s23, s24, s25, s26, s27, s28, s29, s30, s31, s32, s33, s34, s35, s36, s37, s38, s39, s40, s41, s42, s43, s44, s45] (lvV r n X g m) ∧ (Up listed 23 → m ≤ 100 ∧ Blk w' g 9 cs ∧ ∀ i, i < m → ∃ sg : ByteArray, cs[i]? = some (.string sg) ∧ ¬ folC sg)) ?start ?step ?stop
        case start => exact ⟨0, 0, #[], _, _, _, _, _, _, _, _, _, _, _, _, _, _, _, _, _, _, _, _, _, _, _, _, _, _, _, _, _, _, _, rfl, rfl, (Only.refl _ wr).drew, Lv.start, fun h => (Up.start h).elim⟩
        case step =>
          rintro listed a w' i ⟨g, m, cs, s15, s16, s17, s18, s19, s20, s21, s22, s23, s24, s25, s26, s27, s28, s29, s30, s31, s32, s33, s34, s35, s36, s37, s38, s39, s40, s41, s42, s43, s44, s45, rfl, hsz, onl, HL, h23⟩ hi
          have hun := Up.un hi
          have hlt31 : i < 31 := by
            obtain ⟨-, o, ho, -⟩ := mem_ready.1 hi
            rcases Nat.lt_or_ge i 31 with h | h
            · exact h
            · rw [Array.getElem?_eq_none (by exact h)] at ho
              cases ho
          have d2 := (only_cell onl ⟨r, 2, none⟩ (fun h => h) hlr).trans c2
          have d3 := (only_cell onl ⟨r, 3, none⟩ (fun h => h) hlr).trans c3
          have d4 := (only_cell onl ⟨r, 4, none⟩ (fun h => h) hlr).trans c4
          have hsz2 : ∀ i, (listed.setIfInBounds i true).size = 31 := fun i => by rw [Array.size_setIfInBounds]; exact hsz
          replace hsz2 := hide hsz2
          clear c2 c3 c4
          have hi31 : i = 0 ∨ i = 1 ∨ i = 2 ∨ i = 3 ∨ i = 4 ∨ i = 5 ∨ i = 6 ∨ i = 7 ∨ i = 8 ∨ i = 9 ∨ i = 10 ∨ i = 11 ∨ i = 12 ∨ i = 13 ∨ i = 14 ∨ i = 15 ∨ i = 16 ∨ i = 17 ∨ i = 18 ∨ i = 19 ∨ i = 20 ∨ i = 21 ∨ i = 22 ∨ i = 23 ∨ i = 24 ∨ i = 25 ∨ i = 26 ∨ i = 27 ∨ i = 28 ∨ i = 29 ∨ i = 30 := by omega
          rcases hi31 with rfl | rfl | rfl | rfl | rfl | rfl | rfl | rfl | rfl | rfl | rfl | rfl | rfl | rfl | rfl | rfl | rfl | rfl | rfl | rfl | rfl | rfl | rfl | rfl | rfl | rfl | rfl | rfl | rfl | rfl | rfl
          · replace HL := hide HL
            replace h23 := hide h23
            replace hi := hide hi
            replace hun := hide hun
            replace hsz := hide hsz
            replace onl := hide onl
            refine wpOp_of_list rfl ?_
            go_wp2_with fail
            exact Then.normal ⟨g, m, cs, _, _, _, _, _, _, _, _, _, _, _, _, _, _, _, _, _, _, _, _, _, _, _, _, _, _, _, _, _, _, _, rfl, hsz.out, onl.out, HL.out.put 0 rfl, fun h => h23.out (Up.set_ne (by decide) h)⟩
          · have w0 := Up.waits hi 0 (by kernel_rfl)
            obtain rfl := HL.get 0 rfl rfl w0
            clear w0
            replace HL := hide HL
            replace h23 := hide h23
            replace hi := hide hi
            replace hun := hide hun
            replace hsz := hide hsz
            replace onl := hide onl
            refine wpOp_of_list rfl ?_
            go_wp2_with fail
            exact Then.normal ⟨g, m, cs, _, _, _, _, _, _, _, _, _, _, _, _, _, _, _, _, _, _, _, _, _, _, _, _, _, _, _, _, _, _, _, rfl, hsz.out, onl.out, HL.out.put 1 rfl, fun h => h23.out (Up.set_ne (by decide) h)⟩
          · have w1 := Up.waits hi 1 (by kernel_rfl)
            obtain rfl := HL.get 1 rfl rfl w1
            clear w1
            replace HL := hide HL
            replace h23 := hide h23
            replace hi := hide hi
            replace hun := hide hun
            replace hsz := hide hsz
            replace onl := hide onl
            refine wpOp_of_list rfl ?_
            go_wp2_with fail
            exact Then.normal ⟨g, m, cs, _, _, _, _, _, _, _, _, _, _, _, _, _, _, _, _, _, _, _, _, _, _, _, _, _, _, _, _, _, _, _, rfl, hsz.out, onl.out, HL.out.put 2 rfl, fun h => h23.out (Up.set_ne (by decide) h)⟩
          · have w2 := Up.waits hi 2 (by kernel_rfl)
            obtain rfl := HL.get 2 rfl rfl w2
            clear w2
            replace HL := hide HL
            replace h23 := hide h23
            replace hi := hide hi
            replace hun := hide hun
            replace hsz := hide hsz
            replace onl := hide onl
            refine wpOp_of_list rfl ?_
            go_wp2_with fail
            exact Then.normal ⟨g, m, cs, _, _, _, _, _, _, _, _, _, _, _, _, _, _, _, _, _, _, _, _, _, _, _, _, _, _, _, _, _, _, _, rfl, hsz.out, onl.out, HL.out.put 3 rfl, fun h => h23.out (Up.set_ne (by decide) h)⟩
          · have w3 := Up.waits hi 3 (by kernel_rfl)
            obtain rfl := HL.get 3 rfl rfl w3
            clear w3
            replace HL := hide HL
            replace h23 := hide h23
            replace hi := hide hi
            replace hun := hide hun
            replace hsz := hide hsz
            replace onl := hide onl
            refine wpOp_of_list rfl ?_
            go_wp2_with fail
            exact Then.normal ⟨g, m, cs, _, _, _, _, _, _, _, _, _, _, _, _, _, _, _, _, _, _, _, _, _, _, _, _, _, _, _, _, _, _, _, rfl, hsz.out, onl.out, HL.out.put 4 rfl, fun h => h23.out (Up.set_ne (by decide) h)⟩
          · have w4 := Up.waits hi 4 (by kernel_rfl)
            obtain rfl := HL.get 4 rfl rfl w4
            clear w4
            replace HL := hide HL
            replace h23 := hide h23
            replace hi := hide hi
            replace hun := hide hun
            replace hsz := hide hsz
            replace onl := hide onl
            refine wpOp_of_list rfl ?_
            go_wp2_with fail
            exact Then.normal ⟨g, m, cs, _, _, _, _, _, _, _, _, _, _, _, _, _, _, _, _, _, _, _, _, _, _, _, _, _, _, _, _, _, _, _, rfl, hsz.out, onl.out, HL.out.put 5 rfl, fun h => h23.out (Up.set_ne (by decide) h)⟩
          · have w5 := Up.waits hi 5 (by kernel_rfl)
            obtain rfl := HL.get 5 rfl rfl w5
            clear w5
            replace HL := hide HL
            replace h23 := hide h23
            replace hi := hide hi
            replace hun := hide hun
            replace hsz := hide hsz
            replace onl := hide onl
            refine wpOp_of_list rfl ?_
            go_wp2_with fail
            exact Then.normal ⟨g, m, cs, _, _, _, _, _, _, _, _, _, _, _, _, _, _, _, _, _, _, _, _, _, _, _, _, _, _, _, _, _, _, _, rfl, hsz.out, onl.out, HL.out.put 6 rfl, fun h => h23.out (Up.set_ne (by decide) h)⟩
          · have w6 := Up.waits hi 6 (by kernel_rfl)
            have w5 := Up.waits hi 5 (by kernel_rfl)
            obtain rfl := HL.get 6 rfl rfl w6
            obtain rfl := HL.get 5 rfl rfl w5
            clear w6
            clear w5
            replace HL := hide HL
            replace h23 := hide h23
            replace hi := hide hi
            replace hun := hide hun
            replace hsz := hide hsz
            replace onl := hide onl
            refine wpOp_of_list rfl ?_
            go_wp2_with fail
            exact Then.normal ⟨g, m, cs, _, _, _, _, _, _, _, _, _, _, _, _, _, _, _, _, _, _, _, _, _, _, _, _, _, _, _, _, _, _, _, rfl, hsz.out, onl.out, HL.out.put 7 rfl, fun h => h23.out (Up.set_ne (by decide) h)⟩
          · have w7 := Up.waits hi 7 (by kernel_rfl)
            have w5 := Up.waits hi 5 (by kernel_rfl)
            obtain rfl := HL.get 7 rfl rfl w7
            obtain rfl := HL.get 5 rfl rfl w5
            clear w7
            clear w5
            replace HL := hide HL
            replace h23 := hide h23
            replace hi := hide hi
            replace hun := hide hun
            replace hsz := hide hsz
            replace onl := hide onl
            refine wpOp_of_list rfl ?_
            go_wp2_with fail
            exact Then.normal ⟨g, m, cs, _, _, _, _, _, _, _, _, _, _, _, _, _, _, _, _, _, _, _, _, _, _, _, _, _, _, _, _, _, _, _, rfl, hsz.out, onl.out, HL.out.put 8 rfl, fun h => h23.out (Up.set_ne (by decide) h)⟩
          · have w8 := Up.waits hi 8 (by kernel_rfl)
            have w5 := Up.waits hi 5 (by kernel_rfl)
            obtain rfl := HL.get 8 rfl rfl w8
            obtain rfl := HL.get 5 rfl rfl w5
            clear w8
            clear w5
            replace HL := hide HL
            replace h23 := hide h23
            replace hi := hide hi
            replace hun := hide hun
            replace hsz := hide hsz
            replace onl := hide onl
            refine wpOp_of_list rfl ?_
            go_wp2_with fail
            exact Then.normal ⟨g, m, cs, _, _, _, _, _, _, _, _, _, _, _, _, _, _, _, _, _, _, _, _, _, _, _, _, _, _, _, _, _, _, _, rfl, hsz.out, onl.out, HL.out.put 9 rfl, fun h => h23.out (Up.set_ne (by decide) h)⟩
          · have w9 := Up.waits hi 9 (by kernel_rfl)
            have w5 := Up.waits hi 5 (by kernel_rfl)
            obtain rfl := HL.get 9 rfl rfl w9
            obtain rfl := HL.get 5 rfl rfl w5
            clear w9
            clear w5
            replace HL := hide HL
            replace h23 := hide h23
            replace hi := hide hi
            replace hun := hide hun
            replace hsz := hide hsz
            replace onl := hide onl
            refine wpOp_of_list rfl ?_
            go_wp2_with fail
            exact Then.normal ⟨g, m, cs, _, _, _, _, _, _, _, _, _, _, _, _, _, _, _, _, _, _, _, _, _, _, _, _, _, _, _, _, _, _, _, rfl, hsz.out, onl.out, HL.out.put 10 rfl, fun h => h23.out (Up.set_ne (by decide) h)⟩
          · have w10 := Up.waits hi 10 (by kernel_rfl)
            have w5 := Up.waits hi 5 (by kernel_rfl)
            obtain rfl := HL.get 10 rfl rfl w10
            obtain rfl := HL.get 5 rfl rfl w5
            clear w10
            clear w5
            replace HL := hide HL
            replace h23 := hide h23
            replace hi := hide hi
            replace hun := hide hun
            replace hsz := hide hsz
            replace onl := hide onl
            refine wpOp_of_list rfl ?_
            go_wp2_with fail
            exact Then.normal ⟨g, m, cs, _, _, _, _, _, _, _, _, _, _, _, _, _, _, _, _, _, _, _, _, _, _, _, _, _, _, _, _, _, _, _, rfl, hsz.out, onl.out, HL.out.put 11 rfl, fun h => h23.out (Up.set_ne (by decide) h)⟩
          · have w11 := Up.waits hi 11 (by kernel_rfl)
            have w5 := Up.waits hi 5 (by kernel_rfl)
            obtain rfl := HL.get 11 rfl rfl w11
            obtain rfl := HL.get 5 rfl rfl w5
            clear w11 w5
            replace HL := hide HL
            replace h23 := hide h23
            replace hi := hide hi
            replace hun := hide hun
            replace hsz := hide hsz
            replace onl := hide onl
            refine wpOp_of_list rfl ?_
            go_wp2_with fail
            exact Then.normal ⟨g, m, cs, _, _, _, _, _, _, _, _, _, _, _, _, _, _, _, _, _, _, _, _, _, _, _, _, _, _, _, _, _, _, _, rfl, hsz.out, onl.out, HL.out.put 12 rfl, fun h => h23.out (Up.set_ne (by decide) h)⟩
          · have w12 := Up.waits hi 12 (by kernel_rfl)
            obtain rfl := HL.get 12 rfl rfl w12
            clear w12
            replace HL := hide HL
            replace h23 := hide h23
            replace hi := hide hi
            replace hun := hide hun
            replace hsz := hide hsz
            replace onl := hide onl
            refine wpOp_of_list rfl ?_
            go_wp2_with fail
            exact Then.normal ⟨g, m, cs, _, _, _, _, _, _, _, _, _, _, _, _, _, _, _, _, _, _, _, _, _, _, _, _, _, _, _, _, _, _, _, rfl, hsz.out, onl.out, HL.out.put 13 rfl, fun h => h23.out (Up.set_ne (by decide) h)⟩
          · have w13 := Up.waits hi 13 (by kernel_rfl)
            have w12 := Up.waits hi 12 (by kernel_rfl)
            obtain rfl := HL.get 13 rfl rfl w13
            obtain rfl := HL.get 12 rfl rfl w12
            clear w13
            clear w12
            replace HL := hide HL
            replace h23 := hide h23
            replace hi := hide hi
            replace hun := hide hun
            replace hsz := hide hsz
            replace onl := hide onl
            refine wpOp_of_list rfl ?_
            go_wp2_with fail
            exact Then.normal ⟨g, m, cs, _, _, _, _, _, _, _, _, _, _, _, _, _, _, _, _, _, _, _, _, _, _, _, _, _, _, _, _, _, _, _, rfl, hsz.out, onl.out, HL.out.put 14 rfl, fun h => h23.out (Up.set_ne (by decide) h)⟩
          · have w14 := Up.waits hi 14 (by kernel_rfl)
            have w12 := Up.waits hi 12 (by kernel_rfl)
            obtain rfl := HL.get 14 rfl rfl w14
            obtain rfl := HL.get 12 rfl rfl w12
            clear w14
            clear w12
            replace HL := hide HL
            replace h23 := hide h23
            replace hi := hide hi
            replace hun := hide hun
            replace hsz := hide hsz
            replace onl := hide onl
            refine wpOp_of_list rfl ?_
            go_wp2_with fail
            exact Then.normal ⟨g, m, cs, _, _, _, _, _, _, _, _, _, _, _, _, _, _, _, _, _, _, _, _, _, _, _, _, _, _, _, _, _, _, _, rfl, hsz.out, onl.out, HL.out.put 15 rfl, fun h => h23.out (Up.set_ne (by decide) h)⟩
          · have w15 := Up.waits hi 15 (by kernel_rfl)
            have w12 := Up.waits hi 12 (by kernel_rfl)
            obtain rfl := HL.get 15 rfl rfl w15
            obtain rfl := HL.get 12 rfl rfl w12
            clear w15
            clear w12
            replace HL := hide HL
            replace h23 := hide h23
            replace hi := hide hi
            replace hun := hide hun
            replace hsz := hide hsz
            replace onl := hide onl
            refine wpOp_of_list rfl ?_
            go_wp2_with fail
            exact Then.normal ⟨g, m, cs, _, _, _, _, _, _, _, _, _, _, _, _, _, _, _, _, _, _, _, _, _, _, _, _, _, _, _, _, _, _, _, rfl, hsz.out, onl.out, HL.out.put 16 rfl, fun h => h23.out (Up.set_ne (by decide) h)⟩
          · have w16 := Up.waits hi 16 (by kernel_rfl)
            have w12 := Up.waits hi 12 (by kernel_rfl)
            obtain rfl := HL.get 16 rfl rfl w16
            obtain rfl := HL.get 12 rfl rfl w12
            clear w16
            clear w12
            replace HL := hide HL
            replace h23 := hide h23
            replace hi := hide hi
            replace hun := hide hun
            replace hsz := hide hsz
            replace onl := hide onl
            refine wpOp_of_list rfl ?_
            go_wp2_with fail
            exact Then.normal ⟨g, m, cs, _, _, _, _, _, _, _, _, _, _, _, _, _, _, _, _, _, _, _, _, _, _, _, _, _, _, _, _, _, _, _, rfl, hsz.out, onl.out, HL.out.put 17 rfl, fun h => h23.out (Up.set_ne (by decide) h)⟩
          · have w17 := Up.waits hi 17 (by kernel_rfl)
            have w12 := Up.waits hi 12 (by kernel_rfl)
            obtain rfl := HL.get 17 rfl rfl w17
            obtain rfl := HL.get 12 rfl rfl w12
            clear w17
            clear w12
            replace HL := hide HL
            replace h23 := hide h23
            replace hi := hide hi
            replace hun := hide hun
            replace hsz := hide hsz
            replace onl := hide onl
            refine wpOp_of_list rfl ?_
            go_wp2_with fail
            exact Then.normal ⟨g, m, cs, _, _, _, _, _, _, _, _, _, _, _, _, _, _, _, _, _, _, _, _, _, _, _, _, _, _, _, _, _, _, _, rfl, hsz.out, onl.out, HL.out.put 18 rfl, fun h => h23.out (Up.set_ne (by decide) h)⟩
          · have w12 := Up.waits hi 12 (by kernel_rfl)
            have w18 := Up.waits hi 18 (by kernel_rfl)
            have w5 := Up.waits hi 5 (by kernel_rfl)
            obtain rfl := HL.get 12 rfl rfl w12
            obtain rfl := HL.get 5 rfl rfl w5
            obtain rfl := HL.get 18 rfl rfl w18
            clear w12 w5
            clear w18
            replace HL := hide HL
            replace h23 := hide h23
            replace hi := hide hi
            replace hun := hide hun
            replace hsz := hide hsz
            replace onl := hide onl
            refine wpOp_of_list rfl ?_
            go_wp2_with fail
            exact Then.normal ⟨g, m, cs, _, _, _, _, _, _, _, _, _, _, _, _, _, _, _, _, _, _, _, _, _, _, _, _, _, _, _, _, _, _, _, rfl, hsz.out, onl.out, HL.out.put 19 rfl, fun h => h23.out (Up.set_ne (by decide) h)⟩
          · have w5 := Up.waits hi 5 (by kernel_rfl)
            have w19 := Up.waits hi 19 (by kernel_rfl)
            obtain rfl := HL.get 5 rfl rfl w5
            obtain rfl := HL.get 19 rfl rfl w19
            clear w5
            clear w19
            replace HL := hide HL
            replace h23 := hide h23
            replace hi := hide hi
            replace hun := hide hun
            replace hsz := hide hsz
            replace onl := hide onl
            refine wpOp_of_list rfl ?_
            go_wp2_with fail
            exact Then.normal ⟨g, m, cs, _, _, _, _, _, _, _, _, _, _, _, _, _, _, _, _, _, _, _, _, _, _, _, _, _, _, _, _, _, _, _, rfl, hsz.out, onl.out, HL.out.put 20 rfl, fun h => h23.out (Up.set_ne (by decide) h)⟩
          · have w20 := Up.waits hi 20 (by kernel_rfl)
            obtain rfl := HL.get 20 rfl rfl w20
            clear w20
            replace HL := hide HL
            replace h23 := hide h23
            replace hi := hide hi
            replace hun := hide hun
            replace hsz := hide hsz
            replace onl := hide onl
            refine wpOp_of_list rfl ?_
            go_wp2_with fail
            exact Then.normal ⟨g, m, cs, _, _, _, _, _, _, _, _, _, _, _, _, _, _, _, _, _, _, _, _, _, _, _, _, _, _, _, _, _, _, _, rfl, hsz.out, onl.out, HL.out.put 21 rfl, fun h => h23.out (Up.set_ne (by decide) h)⟩
          · have w21 := Up.waits hi 21 (by kernel_rfl)
            obtain rfl := HL.get 21 rfl rfl w21
            clear w21
            replace HL := hide HL
            replace h23 := hide h23
            replace hi := hide hi
            replace hun := hide hun
            replace hsz := hide hsz
            replace onl := hide onl
            refine wpOp_of_list rfl ?_
            go_wp2_with fail
            exact Then.normal ⟨g, m, cs, _, _, _, _, _, _, _, _, _, _, _, _, _, _, _, _, _, _, _, _, _, _, _, _, _, _, _, _, _, _, _, rfl, hsz.out, onl.out, HL.out.put 22 rfl, fun h => h23.out (Up.set_ne (by decide) h)⟩
          · have w22 := Up.waits hi 22 (by kernel_rfl)
            have w21 := Up.waits hi 21 (by kernel_rfl)
            obtain rfl := HL.get 22 rfl rfl w22
            obtain rfl := HL.get 21 rfl rfl w21
            clear w22
            clear w21
            replace HL := hide HL
            replace h23 := hide h23
            replace hi := hide hi
            replace hun := hide hun
            replace hsz := hide hsz
            replace onl := hide onl
            refine wpOp_of_list rfl ?_
            go_wp2_with (go_at_call 111; refine (loose_any w' n hn).mono ?_; rintro e W4 ⟨m', cs', rfl, hm, hcs, b4, hno⟩)
            exact Then.normal ⟨w'.heap.size, m', cs', _, _, _, _, _, _, _, _, _, _, _, _, _, _, _, _, _, _, _, _, _, _, _, _, _, _, _, _, _, _, _, rfl, hsz2.out 23, onl.out.trans (Only.of_below b4 (fun k hk _ => hk)), HL.out.set_ 23 (lvV_same r n X _ _ _ _) rfl, fun _ => ⟨hm, hcs, hno⟩⟩
          · have w21 := Up.waits hi 21 (by kernel_rfl)
            obtain rfl := HL.get 21 rfl rfl w21
            clear w21
            replace HL := hide HL
            replace h23 := hide h23
            replace hi := hide hi
            replace hun := hide hun
            replace hsz := hide hsz
            replace onl := hide onl
            refine wpOp_of_list rfl ?_
            go_wp2_with fail
            exact Then.normal ⟨g, m, cs, _, _, _, _, _, _, _, _, _, _, _, _, _, _, _, _, _, _, _, _, _, _, _, _, _, _, _, _, _, _, _, rfl, hsz.out, onl.out, HL.out.put 24 rfl, fun h => h23.out (Up.set_ne (by decide) h)⟩
          · have w24 := Up.waits hi 24 (by kernel_rfl)
            have w21 := Up.waits hi 21 (by kernel_rfl)
            obtain rfl := HL.get 24 rfl rfl w24
            obtain rfl := HL.get 21 rfl rfl w21
            clear w24
            clear w21
            replace HL := hide HL
            replace h23 := hide h23
            replace hi := hide hi
            replace hun := hide hun
            replace hsz := hide hsz
            replace onl := hide onl
            refine wpOp_of_list rfl ?_
            go_wp2_with fail
            exact Then.normal ⟨g, m, cs, _, _, _, _, _, _, _, _, _, _, _, _, _, _, _, _, _, _, _, _, _, _, _, _, _, _, _, _, _, _, _, rfl, hsz.out, onl.out, HL.out.put 25 rfl, fun h => h23.out (Up.set_ne (by decide) h)⟩
          · have w25 := Up.waits hi 25 (by kernel_rfl)
            have w21 := Up.waits hi 21 (by kernel_rfl)
            obtain rfl := HL.get 25 rfl rfl w25
            obtain rfl := HL.get 21 rfl rfl w21
            clear w25
            clear w21
            replace HL := hide HL
            replace h23 := hide h23
            replace hi := hide hi
            replace hun := hide hun
            replace hsz := hide hsz
            replace onl := hide onl
            refine wpOp_of_list rfl ?_
            go_wp2_with fail
            exact Then.normal ⟨g, m, cs, _, _, _, _, _, _, _, _, _, _, _, _, _, _, _, _, _, _, _, _, _, _, _, _, _, _, _, _, _, _, _, rfl, hsz.out, onl.out, HL.out.put 26 rfl, fun h => h23.out (Up.set_ne (by decide) h)⟩
          · have w26 := Up.waits hi 26 (by kernel_rfl)
            have w21 := Up.waits hi 21 (by kernel_rfl)
            obtain rfl := HL.get 26 rfl rfl w26
            obtain rfl := HL.get 21 rfl rfl w21
            clear w26
            clear w21
            replace HL := hide HL
            replace h23 := hide h23
            replace hi := hide hi
            replace hun := hide hun
            replace hsz := hide hsz
            replace onl := hide onl
            refine wpOp_of_list rfl ?_
            go_wp2_with fail
            exact Then.normal ⟨g, m, cs, _, _, _, _, _, _, _, _, _, _, _, _, _, _, _, _, _, _, _, _, _, _, _, _, _, _, _, _, _, _, _, rfl, hsz.out, onl.out, HL.out.put 27 rfl, fun h => h23.out (Up.set_ne (by decide) h)⟩
          · have w27 := Up.waits hi 27 (by kernel_rfl)
            have w21 := Up.waits hi 21 (by kernel_rfl)
            obtain rfl := HL.get 27 rfl rfl w27
            obtain rfl := HL.get 21 rfl rfl w21
            clear w27
            clear w21
            replace HL := hide HL
            replace h23 := hide h23
            replace hi := hide hi
            replace hun := hide hun
            replace hsz := hide hsz
            replace onl := hide onl
            refine wpOp_of_list rfl ?_
            go_wp2_with fail
            exact Then.normal ⟨g, m, cs, _, _, _, _, _, _, _, _, _, _, _, _, _, _, _, _, _, _, _, _, _, _, _, _, _, _, _, _, _, _, _, rfl, hsz.out, onl.out, HL.out.put 28 rfl, fun h => h23.out (Up.set_ne (by decide) h)⟩
          · have w23 := Up.waits hi 23 (by kernel_rfl)
            have w28 := Up.waits hi 28 (by kernel_rfl)
            have w21 := Up.waits hi 21 (by kernel_rfl)
            obtain rfl := HL.get 28 rfl rfl w28
            obtain rfl := HL.get 21 rfl rfl w21
            obtain rfl := HL.get 23 rfl rfl w23
            obtain ⟨hm, hcs, hno⟩ := h23 w23
            replace hcs := hide hcs
            replace hno := hide hno
            clear w23
            clear w28
            clear w21
            replace HL := hide HL
            replace h23 := hide h23
            replace hi := hide hi
            replace hun := hide hun
            replace hsz := hide hsz
            replace onl := hide onl
            refine wpOp_of_list rfl ?_
            go_wp2_with (go_at_call 110; refine (among_no w' X g m cs hcs.out hm (fun i hi => (hno.out i hi).imp (fun sg hh => ⟨hh.1, nfol hh.2 hfx.out⟩))).mono ?_; rintro e w5 ⟨rfl, rfl⟩)
            exact Then.normal ⟨g, m, cs, _, _, _, _, _, _, _, _, _, _, _, _, _, _, _, _, _, _, _, _, _, _, _, _, _, _, _, _, _, _, _, rfl, hsz2.out 29, onl.out, HL.out.put 29 rfl, fun h => h23.out (Up.set_ne (by decide) h)⟩
          · have w21 := Up.waits hi 21 (by kernel_rfl)
            have w29 := Up.waits hi 29 (by kernel_rfl)
            obtain rfl := HL.get 21 rfl rfl w21
            obtain rfl := HL.get 29 rfl rfl w29
            clear w21
            clear w29
            replace HL := hide HL
            replace h23 := hide h23
            replace hi := hide hi
            replace hun := hide hun
            replace hsz := hide hsz
            replace onl := hide onl
            refine wpOp_of_list rfl ?_
            go_wp2_with fail
            exact Then.normal ⟨g, m, cs, _, _, _, _, _, _, _, _, _, _, _, _, _, _, _, _, _, _, _, _, _, _, _, _, _, _, _, _, _, _, _, rfl, hsz.out, onl.out, HL.out.put 30 rfl, fun h => h23.out (Up.set_ne (by decide) h)⟩
        case stop =>
          rintro listed a w' ⟨g, m, cs, s15, s16, s17, s18, s19, s20, s21, s22, s23, s24, s25, s26, s27, s28, s29, s30, s31, s32, s33, s34, s35, s36, s37, s38, s39, s40, s41, s42, s43, s44, s45, rfl, hsz, onl, HL, h23⟩ hi
          have hall := Up.all hsz (by kernel_rfl) hi
          obtain rfl := HL.get 30 rfl rfl (hall 30 (by decide))
          clear HL h23 hall hi
          replace onl := hide onl
          go_wp2_with fail
          go_meet
          case rel => exact ⟨rfl, onl.out⟩
    case rest =>
      obtain ⟨rfl, o4⟩ := hcut
      have kG := hide (o4.blk k3.out (fun h => h))
      have kR := hide (o4.blk k13.out (fun h => h))
      replace o4 := hide o4
      clear hft
      go_wp2_with (first
        | (refine wpList_load_row rfl _ _ rfl W1.heap.size rfl 41 y.toArray (0, 0) _ kG.out Tryz.underlying41 rfl (by rw [hys.out]; exact q_size) ?_)
        | (refine wpList_store_blk rfl _ _ _ rfl w.heap.size y.toArray rfl rfl 41 _ kR.out (by rw [hys.out]; exact q_size) (by rw [hys.out]; rfl) hya.out ?_; intro W5 k5 o5 s5; replace k5 := hide k5; replace o5 := hide o5; clear s5))
      (try simp only [Exit.inBlock, Exit.then])
      refine ret_q Tryz.results94 w.heap.size y.toArray rfl rfl k5.out hys.out ⟨y, rfl, ?_, ?_, ?_⟩
      · have l3 := o3.out.size
        have l4 := o4.out.size
        have l5 := o5.out.size
        have e0 := s0.out
        exact ((hy.out.only o3.out (fun _ _ _ h => h) (fun b _ h => h)).only o4.out (fun _ _ _ h => h) (fun b _ h => h)).only o5.out (fun b h1 h2 => by omega) (fun b _ h => by omega)
      · exact (hR3.out.only o4.out (fun h => h)).only o5.out (by omega)
      · exact (((o0.out.trans o1.out).trans o3.out.no).trans o4.out.no).back o5.out (fun b h => Or.inr (by omega))
end Go.Proofs.YtbnbemacljjimaaGreatDoor

namespace Go.Proofs
open Go.Shelf
def Tryz.lays197_ren : Go.Shelf.Ren := ⟨fun | 197 => 125 | 260 => 146 | n => n, fun | 9 => 9 | 21 => 21 | 3 => 3 | 4 => 4 | 5 => 5 | 105 => 176 | 119 => 145 | 0 => 0 | 46 => 149 | 139 => 148 | 138 => 147 | n => n, fun | 3 => 0 | 4 => 1 | n => n⟩
theorem Tryz.lays197 : Go.Proofs.Lays.n197 Tryz.prog Tryz.lays197_ren := {
  mixed := by kernel_rfl
  f197 := Tryz.func125.trans (congrArg some (by kernel_rfl))
  f260 := Tryz.func146.trans (congrArg some (by kernel_rfl))
  t0 := Tryz.underlying0
  a0 := Tryz.isAgg0
  z0 := Tryz.sizeOf0
  v0 := Tryz.zeroValue0
  t3 := Tryz.underlying3
  a3 := Tryz.isAgg3
  z3 := Tryz.sizeOf3
  v3 := Tryz.zeroValue3
  t4 := Tryz.underlying4
  a4 := Tryz.isAgg4
  z4 := Tryz.sizeOf4
  v4 := Tryz.zeroValue4
  t5 := Tryz.underlying5
  a5 := Tryz.isAgg5
  z5 := Tryz.sizeOf5
  v5 := Tryz.zeroValue5
  t9 := Tryz.underlying9
  a9 := Tryz.isAgg9
  z9 := Tryz.sizeOf9
  v9 := Tryz.zeroValue9
  t21 := Tryz.underlying21
  a21 := Tryz.isAgg21
  z21 := Tryz.sizeOf21
  v21 := Tryz.zeroValue21
  t46 := Tryz.underlying149
  a46 := Tryz.isAgg149
  z46 := Tryz.sizeOf149
  v46 := Tryz.zeroValue149
  t105 := Tryz.underlying176
  a105 := Tryz.isAgg176
  z105 := Tryz.sizeOf176
  v105 := Tryz.zeroValue176
  t119 := Tryz.underlying145
  a119 := Tryz.isAgg145
  z119 := Tryz.sizeOf145
  t138 := Tryz.underlying147
  a138 := Tryz.isAgg147
  z138 := Tryz.sizeOf147
  v138 := Tryz.zeroValue147
  t139 := Tryz.underlying148
  a139 := Tryz.isAgg148
  z139 := Tryz.sizeOf148
  v139 := Tryz.zeroValue148
  g3 := by kernel_rfl
  g4 := by kernel_rfl }
end Go.Proofs

namespace Go.Proofs.YtbnbemacljjimaaGreatDoor
open Go.RowKit Go.Lib
set_option linter.unusedVariables false

theorem high_plain (c : UInt8) (h : 128 ≤ c.toNat) : qC c = [c] := by
  rcases byte_kinds c with h1 | h1 | h1 | h1 | h1 | h1 | h1 | h1 | h1 | h1
  · omega
  · omega
  · omega
  · omega
  · omega
  · omega
  · omega
  · omega
  · exact h1.2
  · exact h1.2

theorem decodeN_high {n b0 b1 b2 b3 : Nat} (hn : 1 ≤ n) (h0 : 128 ≤ b0) (hb : ¬ ((decodeN n b0 b1 b2 b3).1 = 65533 ∧ (decodeN n b0 b1 b2 b3).2 = 1)) :
    ((decodeN n b0 b1 b2 b3).2 = 2 ∧ 2 ≤ n ∧ 128 ≤ b1) ∨ ((decodeN n b0 b1 b2 b3).2 = 3 ∧ 3 ≤ n ∧ 128 ≤ b1 ∧ 128 ≤ b2) ∨ ((decodeN n b0 b1 b2 b3).2 = 4 ∧ 4 ≤ n ∧ 128 ≤ b1 ∧ 128 ≤ b2 ∧ 128 ≤ b3) := by
  unfold decodeN at hb ⊢
  split at hb
  · omega
  rename_i g0
  rw [if_neg g0]
  split at hb
  · rename_i g1
    rw [if_pos g1]
    split at hb
    · rename_i g2
      rw [if_pos g2]
      exact Or.inl ⟨rfl, by omega, by omega⟩
    · exact absurd ⟨rfl, rfl⟩ hb
  rename_i g1
  rw [if_neg g1]
  split at hb
  · rename_i g2
    rw [if_pos g2]
    split at hb
    · rename_i g3
      rw [if_pos g3]
      exact Or.inr (Or.inl ⟨rfl, by omega, by omega, by omega⟩)
    · exact absurd ⟨rfl, rfl⟩ hb
  rename_i g2
  rw [if_neg g2]
  split at hb
  · rename_i g3
    rw [if_pos g3]
    split at hb
    · rename_i g4
      rw [if_pos g4]
      exact Or.inr (Or.inr ⟨rfl, by omega, by omega, by omega, by omega⟩)
    · exact absurd ⟨rfl, rfl⟩ hb
  · exact absurd ⟨rfl, rfl⟩ hb

/-- A rune of a valid text: its bytes are 128 and more, behind it the text is valid. -/
theorem rune_valid {l : List UInt8} (hv : validD l = true) (hne : l ≠ []) (h0 : 128 ≤ (l.getD 0 0).toNat) :
    ¬ ((decodeL l).1 = 65533 ∧ (decodeL l).2 = 1) ∧ 1 ≤ (decodeL l).2 ∧ (decodeL l).2 ≤ l.length ∧ (∀ c ∈ l.take (decodeL l).2, 128 ≤ c.toNat) ∧ validD (l.drop (decodeL l).2) = true := by
  have hs := validD_step l hne
  rw [hv] at hs
  have hl : 0 < l.length := List.length_pos_iff.2 hne
  have hbad : ¬ ((decodeL l).1 = 65533 ∧ (decodeL l).2 = 1) := fun h => by rw [if_pos h] at hs; cases hs
  rw [if_neg hbad] at hs
  have hk : (decodeL l).2 ≤ l.length ∧ 1 ≤ (decodeL l).2 ∧ ∀ j, j < (decodeL l).2 → 128 ≤ (l.getD j 0).toNat := by
    have hb2 := hbad
    rw [decodeL_N] at hb2 ⊢
    rcases decodeN_high hl h0 hb2 with ⟨e, h1, h2⟩ | ⟨e, h1, h2, h3⟩ | ⟨e, h1, h2, h3, h4⟩
    · rw [e]
      refine ⟨h1, by omega, fun j hj => ?_⟩
      rcases (by omega : j = 0 ∨ j = 1) with rfl | rfl <;> assumption
    · rw [e]
      refine ⟨h1, by omega, fun j hj => ?_⟩
      rcases (by omega : j = 0 ∨ j = 1 ∨ j = 2) with rfl | rfl | rfl <;> assumption
    · rw [e]
      refine ⟨h1, by omega, fun j hj => ?_⟩
      rcases (by omega : j = 0 ∨ j = 1 ∨ j = 2 ∨ j = 3) with rfl | rfl | rfl | rfl <;> assumption
  refine ⟨hbad, hk.2.1, hk.1, fun c hc => ?_, hs.symm⟩
  obtain ⟨j, hj, rfl⟩ := List.getElem_of_mem hc
  rw [List.length_take] at hj
  have h1 := hk.2.2 j (by omega)
  rw [List.getD_eq_getElem?_getD, List.getElem?_eq_getElem (by omega)] at h1
  rw [List.getElem_take]
  exact h1
end Go.Proofs.YtbnbemacljjimaaGreatDoor

namespace Go.Proofs.YtbnbemacljjimaaGreatDoor
open Go.RowKit Go.Lib
set_option linter.unusedVariables false

/-- All blocks but e, b and rows of bytes stand as they were. -/
def Oth (e b : Nat) (w w' : World) : Prop := ∀ (k : Nat) (o : Obj), w.heap[k]? = some o → k ≠ b → k ≠ e → (∀ c fz, o ≠ .cells c 5 fz) → w'.heap[k]? = some o
theorem Oth.refl (e b : Nat) (w : World) : Oth e b w w := fun _ _ h _ _ _ => h
theorem Oth.trans {e b : Nat} {w w1 w2 : World} (h : Oth e b w w1) (k : Oth e b w1 w2) : Oth e b w w2 := fun i o ho h1 h2 h3 => k i o (h i o ho h1 h2 h3) h1 h2 h3
theorem Oth.wr {e b B : Nat} {w w' : World} (h : Wr B b w w') : Oth e b w w' := fun i o ho h1 h2 h3 => h.oth i o ho (fun e => h1 (by injection e)) h3
theorem Oth.only {e b : Nat} {w w' : World} (h : Only (· = e) w w') : Oth e b w w' := fun i o ho h1 h2 h3 => (h.block i (Array.getElem?_eq_some_iff.1 ho).1 h2).trans ho
theorem Oth.below {e b : Nat} {w w' : World} (h : Below w.heap.size w w') : Oth e b w w' := fun i o ho h1 h2 h3 => (h.block i (Array.getElem?_eq_some_iff.1 ho).1).trans ho
theorem Oth.blk {e b : Nat} {w w' : World} (h : Oth e b w w') {g : Nat} {t : TypeId} {cs : Array Value} (hb : Blk w g t cs) (h1 : g ≠ b) (h2 : g ≠ e) (ht : t ≠ 5) : Blk w' g t cs :=
  h g _ hb h1 h2 (fun c fz h' => by injection h' with _ h'; exact ht h')

/-- What the encoder's work leaves: the builder has more, all below B stands, and all other blocks. -/
structure Ev (B e b : Nat) (bs : List Value) (w w' : World) : Prop where
  bl : Bl B b bs w'
  en : En e b w'
  bel : Below B w w'
  oth : Oth e b w w'

set_option maxHeartbeats 1000000 in
set_option maxRecDepth 100000 in
theorem encFloat2 (w : World) (B e b : Nat) (bs : List Value) (h : Int) (hs : Sml h) (ho : ¬ h.tmod 2 = 0) (hb : Bl B b bs w) (he : En e b w) (hBe : B ≤ e) (hne : e ≠ b) (hlen : bs.length + 64 ≤ 140737488355328) (hBw : B ≤ w.heap.size) :
    Calls Tryz.prog 103 #[.pointer (some ⟨e, 0, none⟩), .float .f64 (halfBits h)] w fun r w' => r = .returned (.tuple #[]) ∧ Ev B e b (bs ++ Lib.strCells (ftxt h)) w w' := by
  obtain ⟨Y, hY⟩ := half_says_all hs
  have haf := hide (appendFloat_any w e b h hs ho he)
  obtain ⟨X, hX⟩ : ∃ X, halfBits h = X := ⟨_, rfl⟩
  rw [hX] at hY haf ⊢
  clear hX
  have hn := hide (nan_any w hY)
  have ha := hide (abs_any w hY)
  have q1 := hY.lo
  have q2 := hY.hi
  have q3 := hY.zero
  have q4 := hY.small
  have q5 := hY.big
  have m1 : ∀ W : World, (Builtin.max_ #[82, 82] 82 #[.float .f64 X, .float .f64 18442240474082181119]).run Tryz.prog W = .ok (.float .f64 X) W := fun W => by simp [Builtin.max_, Builtin.max2, q1]
  have m2 : ∀ W : World, (Builtin.min_ #[82, 82] 82 #[.float .f64 X, .float .f64 9218868437227405311]).run Tryz.prog W = .ok (.float .f64 X) W := fun W => by simp [Builtin.min_, Builtin.min2, q2]
  clear q1 q2
  replace hY := hide hY
  have c0 := he.cell
  go_enter Tryz.func103, Tryz.ntmps103
  go_wp2_with (first
    | (go_at_call 122; refine hn.out.mono ?_; rintro e w1 ⟨rfl, rfl⟩)
    | (go_at_call 114; refine ha.out.mono ?_; rintro e w1 ⟨rfl, rfl⟩)
    | (go_at_call 123; refine haf.out.mono ?_; rintro r w2 ⟨rfl, hBuf, hO⟩; have c2 := hBuf.en.cell; replace hBuf := hide hBuf; replace hO := hide hO))
  have hs24 := ftxt_size h hs
  refine (buf_write (bl_enc hb he hne hO.out) hBuf.out hne (by omega) (Nat.le_trans hBw hO.out.size)).mono ?_
  rintro r w3 ⟨rfl, k1, k2, k3, k5⟩
  have k4 := (hO.out.below (B := B) (by intro k hk; omega) hBw).trans k3
  have k6 : Oth e b w w3 := (Oth.only hO.out).trans (Oth.wr k5)
  go_wp2
  go_end0
  exact ⟨rfl, k1, k2, k4, k6⟩
/-- WriteString under the encoder. -/
theorem str_write2 {B e b : Nat} {bs : List Value} {s : ByteArray} {w : World} (hb : Bl B b bs w) (he : En e b w) (hne : e ≠ b) (hlen : bs.length + s.size ≤ 140737488355328) (hBw : B ≤ w.heap.size) :
    Calls Tryz.prog 113 #[.pointer (some ⟨b, 0, none⟩), .string s] w fun r w' => r = .returned (.tuple #[.int .i64 s.size, .nilIface]) ∧ Ev B e b (bs ++ Lib.strCells s) w w' := by
  refine (bl_str_any B b bs s w hb hlen hBw).mono ?_
  rintro r w' ⟨rfl, k1, k2⟩
  exact ⟨rfl, k1, he.wr k2 hne, k2.bel, Oth.wr k2⟩

section
variable (w : World) (B e b : Nat) (bs : List Value) (hb : Bl B b bs w) (he : En e b w) (hne : e ≠ b) (hlen : bs.length + 64 ≤ 140737488355328) (hBw : B ≤ w.heap.size)
include hb he hne hlen hBw

set_option maxHeartbeats 1000000 in
set_option maxRecDepth 100000 in
theorem enc_nil2 : Calls Tryz.prog 92 #[.pointer (some ⟨e, 0, none⟩), .nilIface] w fun r w' => r = .returned (.tuple #[]) ∧ Ev B e b (bs ++ Lib.strCells nullT) w w' := by
  have hW := hide (str_write2 (s := nullT) hb he hne (by show _ + 4 ≤ _; omega) hBw)
  have c0 := he.cell
  unfold nullT at hW ⊢
  go_enter Tryz.func92, Tryz.ntmps92
  go_wp2_with (go_at_call 113; refine hW.out.mono ?_; rintro r w1 ⟨rfl, h1⟩; replace h1 := hide h1)
  go_end0
  exact ⟨rfl, h1.out⟩

set_option maxHeartbeats 1000000 in
set_option maxRecDepth 100000 in
theorem enc_true2 : Calls Tryz.prog 92 #[.pointer (some ⟨e, 0, none⟩), .iface 4 (.bool true)] w fun r w' => r = .returned (.tuple #[]) ∧ Ev B e b (bs ++ Lib.strCells trueT) w w' := by
  have hW := hide (str_write2 (s := trueT) hb he hne (by show _ + 4 ≤ _; omega) hBw)
  have c0 := he.cell
  unfold trueT at hW ⊢
  go_enter Tryz.func92, Tryz.ntmps92
  go_wp2_with (go_at_call 113; refine hW.out.mono ?_; rintro r w1 ⟨rfl, h1⟩; replace h1 := hide h1)
  go_end0
  exact ⟨rfl, h1.out⟩

set_option maxHeartbeats 1000000 in
set_option maxRecDepth 100000 in
theorem enc_false2 : Calls Tryz.prog 92 #[.pointer (some ⟨e, 0, none⟩), .iface 4 (.bool false)] w fun r w' => r = .returned (.tuple #[]) ∧ Ev B e b (bs ++ Lib.strCells falseT) w w' := by
  have hW := hide (str_write2 (s := falseT) hb he hne (by show _ + 5 ≤ _; omega) hBw)
  have c0 := he.cell
  unfold falseT at hW ⊢
  go_enter Tryz.func92, Tryz.ntmps92
  go_wp2_with (go_at_call 113; refine hW.out.mono ?_; rintro r w1 ⟨rfl, h1⟩; replace h1 := hide h1)
  go_end0
  exact ⟨rfl, h1.out⟩

set_option maxHeartbeats 1000000 in
set_option maxRecDepth 100000 in
theorem enc_float2 (hBe : B ≤ e) (h : Int) (hs : Sml h) (ho : ¬ h.tmod 2 = 0) : Calls Tryz.prog 92 #[.pointer (some ⟨e, 0, none⟩), .iface 82 (.float .f64 (halfBits h))] w fun r w' => r = .returned (.tuple #[]) ∧ Ev B e b (bs ++ Lib.strCells (ftxt h)) w w' := by
  have hW := hide (encFloat2 w B e b bs h hs ho hb he hBe hne hlen hBw)
  generalize halfBits h = X at *
  go_enter Tryz.func92, Tryz.ntmps92
  go_wp2_with (go_at_call 103; refine hW.out.mono ?_; rintro r w1 ⟨rfl, h1⟩; replace h1 := hide h1)
  go_end0
  exact ⟨rfl, h1.out⟩

set_option maxHeartbeats 2000000 in
set_option maxRecDepth 100000 in
theorem enc_int2 (hBe : B ≤ e) (n : Int) (h0 : -9223372036854775808 ≤ n) (h1 : n ≤ 9223372036854775807) : Calls Tryz.prog 92 #[.pointer (some ⟨e, 0, none⟩), .iface 3 (.int .i64 n)] w fun r w' => r = .returned (.tuple #[]) ∧ Ev B e b (bs ++ Lib.strCells (itxt n)) w w' := by
  have hA := hide (appendInt_any w.drew e b n h0 h1 he.drew)
  have hl := itxt_size n h0 h1
  have c0 := he.cell
  have hE := hide he
  have hN := hide (And.intro h0 h1)
  clear h0 h1
  go_enter Tryz.func92, Tryz.ntmps92
  go_wp2
  go_region_held3 (fun w' => w'.cell? ⟨e, 0, none⟩ = some (.iface 126 (.pointer (some ⟨b, 0, none⟩)))) (first | exact c0 | exact c1 | exact c2) (first
    | (go_at_call 102; refine hA.out.mono ?_; rintro r w1 ⟨rfl, hB1, hO1⟩; have c1 := hB1.en.cell; have k1 := hide (bl_enc (w := w.drew) hb hE.out.drew hne hO1); have l1 := Nat.le_trans hBw hO1.size; have o1 := hide hO1; replace hB1 := hide hB1; clear hO1)
    | (go_at_call 234; refine (buf_write k1.out hB1.out hne (by omega) l1).mono ?_; rintro r w2 ⟨rfl, hb2, he2, hl2, hw2⟩; have c2 := he2.cell; have k2 := hide (And.intro hb2 (And.intro he2 (And.intro hl2 hw2))); clear hb2 he2 hl2 hw2))
  go_wp2
  go_end0
  exact ⟨rfl, k2.out.1, k2.out.2.1, ((Below.refl B w).drew.trans (o1.out.below (B := B) (by intro k hk; omega) hBw)).trans k2.out.2.2.1, Oth.trans (w1 := w.drew) (fun i o ho _ _ _ => ho) ((Oth.only o1.out).trans (Oth.wr k2.out.2.2.2))⟩
end
end Go.Proofs.YtbnbemacljjimaaGreatDoor
