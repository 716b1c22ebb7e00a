/- jsonMarshal at null, bools and numbers; the replacer of @csv. -/
import Derived.Test.YtbnbemacljjimaaGreatDoorBldC
import Derived.Laws.MakeOwn
namespace Go.Proofs.YtbnbemacljjimaaGreatDoor
open Go.RowKit Go.Lib
set_option linter.unusedVariables false

/-- A number's text. -/
def ntxt (h : Int) : ByteArray := if h.tmod 2 = 0 then itxt (h.tdiv 2) else ftxt h
/-- The text of what is no string, no list and no map. -/
def stxt (v : JV) : ByteArray := if v.kind = 0 then nullT else if v.kind = 1 then falseT else if v.kind = 2 then trueT else ntxt v.half

theorem tdiv_small {h : Int} (h1 : -18014398509481984 ≤ h ∧ h ≤ 18014398509481984) : -9223372036854775808 ≤ h.tdiv 2 ∧ h.tdiv 2 ≤ 9223372036854775807 := by
  have h3 : (h.tdiv 2).natAbs = h.natAbs / 2 := Int.natAbs_tdiv h 2
  omega

theorem odd_sml {h : Int} (ho : ¬ h.tmod 2 = 0) (h2 : h.tmod 2 = 0 ∨ -9007199254740992 < h ∧ h < 9007199254740992) : Sml h :=
  ⟨fun e => ho (by rw [e]; rfl), (h2.resolve_left ho).1, (h2.resolve_left ho).2⟩

theorem enc_scalar (w : World) (lo n : Nat) (x : Value) (v : JV) (hx : GAt w lo (n + 1) x v) (hk : v.kind ≤ 3) (h1 : -18014398509481984 ≤ v.half ∧ v.half ≤ 18014398509481984) (h2 : v.half.tmod 2 = 0 ∨ -9007199254740992 < v.half ∧ v.half < 9007199254740992) : EncSays w x (stxt v) := by
  intro W e b hbel hb he hne hle hlW
  have hr := tdiv_small h1
  unfold stxt ntxt
  rcases hx with ⟨k, rfl⟩ | ⟨k, rfl⟩ | ⟨k, rfl⟩ | ⟨k, hm, rfl⟩ | ⟨k, hm, rfl⟩ | ⟨k, rfl⟩ | ⟨k, -⟩ | ⟨k, -⟩
  · rw [if_pos k]
    exact enc_nil W _ e b [] hb he hne (by decide) hlW
  · rw [if_neg (by omega), if_pos k]
    exact enc_false W _ e b [] hb he hne (by decide) hlW
  · rw [if_neg (by omega), if_neg (by omega), if_pos k]
    exact enc_true W _ e b [] hb he hne (by decide) hlW
  · rw [if_neg (by omega), if_neg (by omega), if_neg (by omega), if_pos hm]
    exact enc_int W _ e b [] hb he hne (by decide) hlW hle _ hr.1 hr.2
  · rw [if_neg (by omega), if_neg (by omega), if_neg (by omega), if_neg hm]
    exact enc_float W _ e b [] hb he hne (by decide) hlW hle _ (odd_sml hm h2) hm
  · omega
  · omega
  · omega

theorem marshal_scalar (w : World) (lo n : Nat) (x : Value) (v : JV) (hx : GAt w lo (n + 1) x v) (hk : v.kind ≤ 3) (h1 : -18014398509481984 ≤ v.half ∧ v.half ≤ 18014398509481984) (h2 : v.half.tmod 2 = 0 ∨ -9007199254740992 < v.half ∧ v.half < 9007199254740992) :
    Calls Tryz.prog 70 #[x] w fun e w' => e = .returned (.string (stxt v)) ∧ Below w.heap.size w w' := marshal_of w x (stxt v) (enc_scalar w lo n x v hx hk h1 h2)

/-- The replacer of @csv. -/
def escC (c : UInt8) : List UInt8 := if c = 34 then [34, 34] else if c = 0 then [92, 48] else [c]
def escL (l : List UInt8) : List UInt8 := l.flatMap escC

theorem escL_snoc (l : List UInt8) (c : UInt8) : escL (l ++ [c]) = escL l ++ escC c := by unfold escL; rw [List.flatMap_append]; simp
theorem escC_len (c : UInt8) : (escC c).length ≤ 2 := by unfold escC; split; decide; split; decide; exact Nat.le_succ 1
theorem escL_len (l : List UInt8) : (escL l).length ≤ 2 * l.length := by
  induction l with
  | nil => decide
  | cons c l ih =>
    unfold escL at *
    rw [List.flatMap_cons, List.length_append, List.length_cons]
    have := escC_len c
    omega
end Go.Proofs.YtbnbemacljjimaaGreatDoor

namespace Go.Proofs.YtbnbemacljjimaaGreatDoor
open Go.RowKit Go.Lib
set_option linter.unusedVariables false

/-- The replacer's loop: what is laid so far. -/
def RF (w : World) (out : List UInt8) (wr : World) (sv : Value) : Prop := Below w.heap.size w wr ∧ wr.ownsRow w.heap.size 5 1 sv out.length (Lib.byteCells out)

theorem RF.push {w wr w' : World} {out : List UInt8} {sv v' : Value} {news : List UInt8} (h : RF w out wr sv) (own4 : w'.ownsRow w.heap.size 5 1 v' (out.length + news.length) (Lib.byteCells out ++ Lib.byteCells news)) (g4 : wr.grownBy w' sv.ownBlock) : RF w (out ++ news) w' v' := by
  refine ⟨h.1.trans ⟨g4.os, g4.tape, g4.output, g4.size, fun k hk => g4.block k (Nat.lt_of_lt_of_le hk h.1.size) (fun e => by have := (h.2.lt k e.symm).1; omega)⟩, ?_⟩
  have e : Lib.byteCells (out ++ news) = Lib.byteCells out ++ Lib.byteCells news := by simp [Lib.byteCells]
  rw [e, List.length_append]
  exact own4

theorem RF.text {w wr : World} {out : List UInt8} {sv : Value} (h : RF w out wr sv) : (convert 119 9 sv).run Tryz.prog wr = .ok (.string ⟨out.toArray⟩) wr := by
  obtain ⟨h1, h2⟩ := h
  rcases h2.2 with ⟨rfl, h0⟩ | ⟨g, cap, cur, rfl, r⟩
  · have : out = [] := List.eq_nil_of_length_eq_zero h0
    subst this
    simp [convert, run_underlying (P := Tryz.prog) Tryz.underlying119, run_underlying (P := Tryz.prog) Tryz.underlying9]
    rfl
  · have e : Lib.byteCells out = (out.map fun b => ((b.toNat : Nat) : Int)).map (Value.int .u8) := by simp [Lib.byteCells]
    rw [e] at h2
    rw [own_text h2]
    congr 2
    apply ByteArray.ext
    apply Array.toList_inj.1
    simp only [strOfNums, List.toList_toArray, List.map_map]
    rw [show ((fun n : Int => UInt8.ofNat n.toNat) ∘ fun b : UInt8 => ((b.toNat : Nat) : Int)) = id from funext fun b => by simp]
    simp

set_option maxHeartbeats 2000000 in
set_option maxRecDepth 100000 in
theorem csvEscaper_any (w : World) : Calls Tryz.prog 82 #[] w fun e w' => e = .returned (.slice (some ⟨w.heap.size, 0, none⟩) 4 4) ∧ Below w.heap.size w w' ∧ Blk w' w.heap.size 9 #[.string ⟨#[34]⟩, .string ⟨#[34, 34]⟩, .string ⟨#[0]⟩, .string ⟨#[92, 48]⟩] := by
  go_enter Tryz.func82, Tryz.ntmps82
  go_wp2
  go_ret
  exact ⟨rfl, (Below.refl _ _).alloc (Nat.le_refl _) _, Blk.new _ _ _⟩

set_option maxHeartbeats 4000000 in
set_option maxRecDepth 100000 in
theorem replace_any (w : World) (g : Nat) (s : ByteArray) (hg : Blk w g 9 #[.string ⟨#[34]⟩, .string ⟨#[34, 34]⟩, .string ⟨#[0]⟩, .string ⟨#[92, 48]⟩]) (hs : s.size ≤ 100000) :
    Calls Tryz.prog 83 #[.slice (some ⟨g, 0, none⟩) 4 4, .string s] w fun e w' => e = .returned (.string ⟨(escL s.data.toList).toArray⟩) ∧ Below w.heap.size w w' := by
  obtain ⟨i5, hi5, hz0, hz1, hz2⟩ := info_parts bl_byte
  have hgl := hg.lt
  replace hg := hide hg
  have hsl : s.data.toList.length = s.size := by rw [Array.length_toList]; rfl
  replace hsl := hide hsl
  go_enter Tryz.func83, Tryz.ntmps83
  go_wp2
  go_loopw [5, 6, 7] (fun s5 s6 s7 wr => ∃ i : Nat, s6 = .int .i64 i ∧ i ≤ s.size ∧ RF w (escL (s.data.toList.take i)) wr s5) (fun _ i _ _ => s.size - (RowKit.intOf i).toNat)
  case atStart => exact ⟨0, rfl, Nat.zero_le _, Below.refl _ _, rfl, .inl ⟨rfl, rfl⟩⟩
  case round =>
    obtain ⟨i, rfl, hi, H⟩ := hrel
    by_cases hlt : i < s.size
    · have hG := hg.out.below H.1 hgl
      have c0 := hG.cell 0
      have c1 := hG.cell 1
      have c2 := hG.cell 2
      have c3 := hG.cell 3
      simp at c0 c1 c2 c3
      have hbs := H.1.size
      replace H := hide H
      replace hG := hide hG
      obtain ⟨wo, rfl⟩ : ∃ wo : World, wo = wr := ⟨_, rfl⟩
      have htk : escL (s.data.toList.take (i + 1)) = escL (s.data.toList.take i) ++ escC s[i] := by
        rw [← escL_snoc]
        congr 1
        rw [List.take_succ_eq_append_getElem (by simpa using hlt)]
        rfl
      have hel : (escL (s.data.toList.take i)).length ≤ 200000 := by
        have h1 := escL_len (s.data.toList.take i)
        have h2 : (s.data.toList.take i).length ≤ i := List.length_take_le _ _
        omega
      obtain ⟨E, hE⟩ : ∃ E, escL (s.data.toList.take i) = E := ⟨_, rfl⟩
      rw [hE] at htk hel H
      clear hE hG c0 c1 c2 c3
      have hbs' := hide hbs
      clear hbs
      by_cases h34 : s[i] = 34
      · have q0 : (((((⟨#[34]⟩ : ByteArray)[0]'(by decide)).toNat : Nat) : Int) != ((s[i].toNat : Nat) : Int)) = false := by rw [h34]; rfl
        rw [h34] at htk
        replace h34 := hide h34
        replace htk := hide htk
        go_wp2
        go_loopw [7] (fun s7 wx => s7 = .int .i64 0 ∧ RF w E wx u5) (fun _ _ => 0)
        case atStart => exact ⟨rfl, H.out⟩
        case round =>
          obtain ⟨rfl, H1⟩ := hrel
          have hG := hg.out.below H1.1 hgl
          have c0 := hG.cell 0
          have c1 := hG.cell 1
          simp at c0 c1
          replace H1 := hide H1
          replace hG := hide hG
          go_wp2
          go_quiet (fail)
          obtain ⟨W1, hW1⟩ : ∃ W1, W1 = wr.drewN nq := ⟨_, rfl⟩
          rw [← hW1]
          have H2 : RF w E W1 u5 := by rw [hW1]; exact ⟨below_drewN H1.out.1 nq, H1.out.2⟩
          have d0 : W1.cell? ⟨g, 0, none⟩ = some (.string ⟨#[34]⟩) := by rw [hW1]; exact c0
          have d1 : W1.cell? ⟨g, 1, none⟩ = some (.string ⟨#[34, 34]⟩) := by rw [hW1]; exact c1
          clear hW1 c0 c1
          have hbs := H2.1.size
          replace H2 := hide H2
          go_wp2_with (refine Lib.wpList_append_own_string _ rfl (.tmp 35) (.tmp 40) 119 9 rfl w.heap.size 5 i5 Tryz.underlying119 Tryz.underlying9 hi5 hz0 hz1 hz2 _ _ _ rfl H2.out.2 ⟨#[34, 34]⟩ rfl (by unfold maxLen; show E.length + 2 ≤ _; omega) (by show E.length + 2 ≤ _; omega) hbs ?_; intro v4 w4 own4 g4 _x4; have H4 := hide (RF.push (news := [34, 34]) H2.out own4 g4); clear own4 g4)
          go_roundw
          case rel => exact ⟨i + 1, by go_num, by omega, by rw [htk.out]; exact H4.out⟩
          case measure => simp [RowKit.intOf]; omega
      · have q0 : (((((⟨#[34]⟩ : ByteArray)[0]'(by decide)).toNat : Nat) : Int) != ((s[i].toNat : Nat) : Int)) = true := by
          show ((34 : Int) != ((s[i].toNat : Nat) : Int)) = true
          have : s[i].toNat ≠ 34 := fun e => h34 (by rw [← UInt8.toNat_inj]; exact e)
          simp; omega
        by_cases h0 : s[i] = 0
        · have q1 : (((((⟨#[0]⟩ : ByteArray)[0]'(by decide)).toNat : Nat) : Int) != ((s[i].toNat : Nat) : Int)) = false := by rw [h0]; rfl
          rw [h0] at htk
          replace h34 := hide h34
          replace h0 := hide h0
          replace htk := hide htk
          go_wp2
          go_loopw [7] (fun s7 wx => (s7 = .int .i64 0 ∨ s7 = .int .i64 2) ∧ RF w E wx u5) (fun k _ => 10 - (RowKit.intOf k).toNat)
          case atStart => exact ⟨Or.inl rfl, H.out⟩
          case round =>
            obtain ⟨hk, H1⟩ := hrel
            have hG := hg.out.below H1.1 hgl
            have c0 := hG.cell 0
            have c2 := hG.cell 2
            have c3 := hG.cell 3
            simp at c0 c2 c3
            replace H1 := hide H1
            replace hG := hide hG
            rcases hk with rfl | rfl
            · go_wp2
              go_quiet (fail)
              obtain ⟨W1, hW1⟩ : ∃ W1, W1 = wr.drewN nq := ⟨_, rfl⟩
              rw [← hW1]
              have H2 : RF w E W1 u5 := by rw [hW1]; exact ⟨below_drewN H1.out.1 nq, H1.out.2⟩
              clear hW1 c0 c2 c3
              replace H2 := hide H2
              go_wp2
              go_roundw
              case rel => exact ⟨Or.inr rfl, H2.out⟩
              case measure => simp [RowKit.intOf]
            · go_wp2
              go_quiet (fail)
              obtain ⟨W1, hW1⟩ : ∃ W1, W1 = wr.drewN nq := ⟨_, rfl⟩
              rw [← hW1]
              have H2 : RF w E W1 u5 := by rw [hW1]; exact ⟨below_drewN H1.out.1 nq, H1.out.2⟩
              have d2 : W1.cell? ⟨g, 2, none⟩ = some (.string ⟨#[0]⟩) := by rw [hW1]; exact c2
              have d3 : W1.cell? ⟨g, 3, none⟩ = some (.string ⟨#[92, 48]⟩) := by rw [hW1]; exact c3
              clear hW1 c0 c2 c3
              have hbs := H2.1.size
              replace H2 := hide H2
              go_wp2_with (refine Lib.wpList_append_own_string _ rfl (.tmp 35) (.tmp 40) 119 9 rfl w.heap.size 5 i5 Tryz.underlying119 Tryz.underlying9 hi5 hz0 hz1 hz2 _ _ _ rfl H2.out.2 ⟨#[92, 48]⟩ rfl (by unfold maxLen; show E.length + 2 ≤ _; omega) (by show E.length + 2 ≤ _; omega) hbs ?_; intro v4 w4 own4 g4 _x4; have H4 := hide (RF.push (news := [92, 48]) H2.out own4 g4); clear own4 g4)
              go_roundw
              case rel => exact ⟨i + 1, by go_num, by omega, by rw [htk.out]; exact H4.out⟩
              case measure => simp [RowKit.intOf]; omega
        · have q1 : (((((⟨#[0]⟩ : ByteArray)[0]'(by decide)).toNat : Nat) : Int) != ((s[i].toNat : Nat) : Int)) = true := by
            show ((0 : Int) != ((s[i].toNat : Nat) : Int)) = true
            have : s[i].toNat ≠ 0 := fun e => h0 (by rw [← UInt8.toNat_inj]; exact e)
            simp; omega
          rw [show escC s[i] = [s[i]] by unfold escC; rw [if_neg h34, if_neg h0]] at htk
          replace h34 := hide h34
          replace h0 := hide h0
          replace htk := hide htk
          go_wp2
          go_loopw [7] (fun s7 wx => (s7 = .int .i64 0 ∨ s7 = .int .i64 2 ∨ s7 = .int .i64 4) ∧ RF w E wx u5) (fun k _ => 10 - (RowKit.intOf k).toNat)
          case atStart => exact ⟨Or.inl rfl, H.out⟩
          case round =>
            obtain ⟨hk, H1⟩ := hrel
            have hG := hg.out.below H1.1 hgl
            have c0 := hG.cell 0
            have c2 := hG.cell 2
            simp at c0 c2
            replace H1 := hide H1
            replace hG := hide hG
            rcases hk with rfl | rfl | rfl
            · go_wp2
              go_quiet (fail)
              obtain ⟨W1, hW1⟩ : ∃ W1, W1 = wr.drewN nq := ⟨_, rfl⟩
              rw [← hW1]
              have H2 : RF w E W1 u5 := by rw [hW1]; exact ⟨below_drewN H1.out.1 nq, H1.out.2⟩
              clear hW1 c0 c2
              replace H2 := hide H2
              go_wp2
              go_roundw
              case rel => exact ⟨Or.inr (Or.inl rfl), H2.out⟩
              case measure => simp [RowKit.intOf]
            · go_wp2
              go_quiet (fail)
              obtain ⟨W1, hW1⟩ : ∃ W1, W1 = wr.drewN nq := ⟨_, rfl⟩
              rw [← hW1]
              have H2 : RF w E W1 u5 := by rw [hW1]; exact ⟨below_drewN H1.out.1 nq, H1.out.2⟩
              clear hW1 c0 c2
              replace H2 := hide H2
              go_wp2
              go_roundw
              case rel => exact ⟨Or.inr (Or.inr rfl), H2.out⟩
              case measure => simp [RowKit.intOf]
            · go_wp2
              go_quiet (fail)
              obtain ⟨W1, hW1⟩ : ∃ W1, W1 = wr.drewN nq := ⟨_, rfl⟩
              rw [← hW1]
              have H2 : RF w E W1 u5 := by rw [hW1]; exact ⟨below_drewN H1.out.1 nq, H1.out.2⟩
              clear hW1 c0 c2
              have hbs := H2.1.size
              replace H2 := hide H2
              go_wp2_with (refine wpList_push _ rfl (.tmp 42) (.tmp 46) rfl w.heap.size _ E.length (Lib.byteCells E) (.int .u8 s[i].toNat) rfl H2.out.2 rfl rfl (by omega) hbs ?_; intro g4 cap4 w4 own4 gr4 _x4; have H4 := hide (RF.push (news := [s[i]]) H2.out own4 gr4); clear own4 gr4)
              go_roundw
              case rel => exact ⟨i + 1, by go_num, by omega, by rw [htk.out]; exact H4.out⟩
              case measure => simp [RowKit.intOf]; omega
    · obtain rfl : i = s.size := by omega
      have ht := H.text
      have hb := H.1
      rw [List.take_of_length_le (by rw [hsl.out]; exact Nat.le_refl _)] at ht
      replace H := hide H
      go_wp2
      go_ret
      exact ⟨rfl, hb⟩
end Go.Proofs.YtbnbemacljjimaaGreatDoor

namespace Go.Proofs.YtbnbemacljjimaaGreatDoor
open Go.RowKit Go.Lib
set_option linter.unusedVariables false

/-- A text in quotes. -/
def quo (s : ByteArray) : ByteArray := ⟨#[34]⟩ ++ ⟨(escL s.data.toList).toArray⟩ ++ ⟨#[34]⟩

theorem esc_size (s : ByteArray) : (⟨(escL s.data.toList).toArray⟩ : ByteArray).size ≤ 2 * s.size := by
  have h1 := escL_len s.data.toList
  have h2 : s.data.toList.length = s.size := by rw [Array.length_toList]; rfl
  show (escL s.data.toList).toArray.size ≤ _
  simp
  omega

set_option maxHeartbeats 1000000 in
set_option maxRecDepth 100000 in
theorem quo_any (w : World) (s : ByteArray) (hs : s.size ≤ 100000) : Calls Tryz.prog 81 #[.string s] w fun e w' => e = .returned (.string (quo s)) ∧ Below w.heap.size w w' := by
  have he := esc_size s
  have hr := fun (W : World) (g : Nat) hg => replace_any W g s hg hs
  have hq : quo s = ⟨#[34]⟩ ++ ⟨(escL s.data.toList).toArray⟩ ++ ⟨#[34]⟩ := rfl
  obtain ⟨E, hE⟩ : ∃ E : ByteArray, (⟨(escL s.data.toList).toArray⟩ : ByteArray) = E := ⟨_, rfl⟩
  rw [hE] at he hq
  have hr' : ∀ (W : World) (g : Nat), Blk W g 9 #[.string ⟨#[34]⟩, .string ⟨#[34, 34]⟩, .string ⟨#[0]⟩, .string ⟨#[92, 48]⟩] → Calls Tryz.prog 83 #[.slice (some ⟨g, 0, none⟩) 4 4, .string s] W fun e w' => e = .returned (.string E) ∧ Below W.heap.size W w' := by rw [← hE]; exact hr
  clear hE hr
  replace hr' := hide hr'
  replace hq := hide hq
  have z1 : ¬ 9223372036854775807 < 1 + E.size := by omega
  have z2 : ¬ 9223372036854775807 < 1 + E.size + 1 := by omega
  go_enter Tryz.func81, Tryz.ntmps81
  go_wp2_with (first
    | (go_at_call 82; refine (csvEscaper_any _).mono ?_; rintro e w1 ⟨rfl, hb1, hk1⟩; have hc := hide (hr'.out w1 _ hk1); replace hb1 := hide hb1; clear hk1)
    | (go_at_call 83; refine hc.out.mono ?_; rintro e w2 ⟨rfl, hb2⟩; have hb3 := hide (hb1.out.trans (hb2.mono hb1.out.size)); clear hb2))
  go_ret
  exact ⟨by rw [hq.out]; rfl, hb3.out⟩

/-- A value stands where nothing that was there has turned. -/
theorem GAt.ext {w w' : World} {lo : Nat} (hb : Below w.heap.size w w') : ∀ (n : Nat) (x : Value) (v : JV), GAt w lo n x v → GAt w' lo n x v
  | 0, _, _, h => h.elim
  | n + 1, x, v, h => by
    rcases h with h | h | h | h | h | h | h | h
    · exact Or.inl h
    · exact Or.inr (Or.inl h)
    · exact Or.inr (Or.inr (Or.inl h))
    · exact Or.inr (Or.inr (Or.inr (Or.inl h)))
    · exact Or.inr (Or.inr (Or.inr (Or.inr (Or.inl h))))
    · exact Or.inr (Or.inr (Or.inr (Or.inr (Or.inr (Or.inl h)))))
    · obtain ⟨hk, b, o, c, rfl, h1, h2, h3, h4, h5⟩ := h
      refine Or.inr (Or.inr (Or.inr (Or.inr (Or.inr (Or.inr (Or.inl ⟨hk, b, o, c, rfl, h1, Nat.lt_of_lt_of_le h2 hb.size, h3, h4, fun i y hy => ?_⟩))))))
      obtain ⟨z, hz, hg⟩ := h5 i y hy
      exact ⟨z, (hb.cell (p := ⟨b, o + i, none⟩) h2).trans hz, GAt.ext hb n _ _ hg⟩
    · obtain ⟨hk, b, ents, rfl, h1, h2, h3, h4, h5⟩ := h
      have ho : Only (fun _ => False) w w' := Only.of_below hb (fun k hk _ => hk)
      refine Or.inr (Or.inr (Or.inr (Or.inr (Or.inr (Or.inr (Or.inr ⟨hk, b, ents, rfl, h1, Nat.lt_of_lt_of_le h2 hb.size, h3.only ho (fun hp => hp), h4, fun i y hy => ?_⟩))))))
      obtain ⟨z, hz, hg⟩ := h5 i y hy
      exact ⟨z, hz, GAt.ext hb n _ _ hg⟩

/-- A field of a row of @csv. -/
def fld (v : JV) : ByteArray := if v.kind = 0 then ⟨#[]⟩ else if v.kind = 4 then quo v.text else stxt v

/-- A number's text has digits, a point and a minus alone. -/
def NumB (s : ByteArray) : Prop := ∀ c ∈ s.data.toList, 45 ≤ c.toNat ∧ c.toNat ≤ 57

theorem NumB.app {s t : ByteArray} (hs : NumB s) (ht : NumB t) : NumB (s ++ t) := by
  intro c hc
  rw [ByteArray.data_append, Array.toList_append, List.mem_append] at hc
  rcases hc with hc | hc
  · exact hs c hc
  · exact ht c hc
theorem NumB.txt {ds : List Nat} (h : Dig ds) : NumB (txt ds) := by
  intro c hc
  unfold Go.Proofs.YtbnbemacljjimaaGreatDoor.txt at hc
  simp at hc
  obtain ⟨d, hd, rfl⟩ := hc
  have := h d hd
  have e : (48 + UInt8.ofNat d).toNat = 48 + d := by
    rw [UInt8.toNat_add, UInt8.toNat_ofNat']
    show (48 + d % 256) % 256 = 48 + d
    omega
  rw [e]
  omega
theorem NumB.minus : NumB ⟨#[45]⟩ := by intro c hc; simp at hc; subst hc; decide
theorem NumB.none_ : NumB ⟨#[]⟩ := by intro c hc; simp at hc
theorem NumB.five : NumB ⟨#[46, 53]⟩ := by
  intro c hc
  simp at hc
  rcases hc with rfl | rfl <;> decide
theorem num_bytes (h : Int) : NumB (ntxt h) := by
  unfold ntxt itxt ftxt
  split
  · split
    · exact NumB.minus.app (NumB.txt (dg_dig _))
    · exact NumB.txt (dg_dig _)
  · split
    · exact NumB.minus.app ((NumB.txt (dg_dig _)).app NumB.five)
    · exact NumB.none_.app ((NumB.txt (dg_dig _)).app NumB.five)

theorem not_null {y : JV} (h0 : ¬ y.kind = 0) : ¬ (stxt y).toList = [110, 117, 108, 108] := by
  intro e
  rw [ByteArray.toList_eq] at e
  unfold stxt at e
  rw [if_neg h0] at e
  split at e
  · exact absurd e (by decide)
  · split at e
    · exact absurd e (by decide)
    · have := num_bytes y.half 110 (by rw [e]; exact List.mem_cons_self)
      exact absurd this.2 (by decide)
theorem yes_null {y : JV} (h0 : y.kind = 0) : (stxt y).toList = [110, 117, 108, 108] := by
  rw [ByteArray.toList_eq]
  unfold stxt
  rw [if_pos h0]
  rfl
theorem num_size (h : Int) (h1 : -18014398509481984 ≤ h ∧ h ≤ 18014398509481984) (h2 : h.tmod 2 = 0 ∨ -9007199254740992 < h ∧ h < 9007199254740992) : (ntxt h).size ≤ 24 := by
  have hr := tdiv_small h1
  unfold ntxt
  split
  · exact Nat.le_trans (itxt_size _ hr.1 hr.2) (by decide)
  · rename_i ho
    exact ftxt_size h (odd_sml ho h2)
theorem stxt_size (y : JV) (h1 : -18014398509481984 ≤ y.half ∧ y.half ≤ 18014398509481984) (h2 : y.half.tmod 2 = 0 ∨ -9007199254740992 < y.half ∧ y.half < 9007199254740992) : (stxt y).size ≤ 24 := by
  unfold stxt
  split
  · decide
  · split
    · decide
    · split
      · decide
      · exact num_size _ h1 h2
end Go.Proofs.YtbnbemacljjimaaGreatDoor
