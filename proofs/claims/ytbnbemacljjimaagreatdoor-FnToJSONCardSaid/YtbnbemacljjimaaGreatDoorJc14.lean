/- The reference: digits, figures. -/
import Derived.Test.YtbnbemacljjimaaGreatDoorJc12
import Derived.Laws.Runes
import Derived.Test.YtbnbemacljjimaaGreatDoorJc13
namespace Go.Proofs.YtbnbemacljjimaaGreatDoor
open Go.RowKit Go.Lib
set_option linter.unusedVariables false

theorem enc_ascii (k : Nat) (hk : k < 128) : Utf8.encode (k : Int) = ⟨#[UInt8.ofNat k]⟩ := by
  unfold Utf8.encode
  have hv : Utf8.valid (k : Int) = true := by unfold Utf8.valid; simp; omega
  simp only [hv, if_true, Int.toNat_natCast, hk]

theorem txt_cons (d : Nat) (ds : List Nat) : (⟨#[UInt8.ofNat (48 + d)]⟩ : ByteArray) ++ txt ds = txt (d :: ds) := by
  apply ByteArray.ext
  apply Array.toList_inj.1
  rw [ByteArray.data_append, Array.toList_append]
  rfl

theorem dg_step (m : Nat) (t : List Nat) (h : 10 ≤ m) : dg (m / 10) ++ ((m % 10) :: t) = dg m ++ t := by
  rw [dg_big (n := m) (by omega), List.append_assoc]
  rfl

theorem txt_app (a b : List Nat) : txt a ++ txt b = txt (a ++ b) := by
  apply ByteArray.ext
  apply Array.toList_inj.1
  rw [ByteArray.data_append, Array.toList_append]
  simp [txt]

/-- A digit's text. -/
def chr (d : Nat) : ByteArray := ⟨#[UInt8.ofNat (48 + d)]⟩
theorem conv_chr (d : Nat) (hd : d < 10) (x : Int) (hx : x = ((48 + d : Nat) : Int)) (w : World) : (convert 21 9 (.int .i32 x)).run Tryz.prog w = .ok (.string (chr d)) w := by
  rw [run_convert_int_string w 21 9 .i32 _ (by rw [Tryz.underlying21]; rfl) Tryz.underlying9]
  rw [hx, enc_ascii _ (by omega)]
  rfl
theorem chr_size (d : Nat) : (chr d).size = 1 := rfl
theorem conv_i32 (x : Int) (h0 : 0 ≤ x) (h1 : x < 128) (w : World) : (convert 3 21 (.int .i64 x)).run Tryz.prog w = .ok (.int .i32 x) w := by
  have h := run_convert_int (P := Tryz.prog) (w := w) 3 21 .i64 x (by rw [Tryz.underlying3]; rfl) (by kernel_rfl)
  rw [h, show Tryz.prog.intKind 21 = .i32 by kernel_rfl]
  have e : IntKind.i32.wrap x = x := by
    rw [IntKind.wrap_i32]
    omega
  rw [e]

/-- An operation whose run is known. -/
theorem wpList_conv {ops : Array Oper} {rest : List Oper} {a : Act} {Q : Exit → Act → World → Prop} {w : World} {o : Oper} (hg : o.guard = none) (s d : TypeId) (x : Operand) (ho : o.op = .convert s d x) (u v : Value) (hx : a.eval x = u) (hr : (convert s d u).run Tryz.prog w = .ok v w) (h : wpList Tryz.prog ops Q rest (a.put o.dst v) w) : wpList Tryz.prog ops Q (o :: rest) a w := by
  refine wpList_plain hg fun K hK => ?_
  unfold Oper.wp execOp
  simp only [ho, Sem.run_bind, Sem.run_pure, Result.andThen_ok, hx, hr]
  exact hK _ _ h

set_option maxHeartbeats 2000000 in
set_option maxRecDepth 100000 in
theorem digits_any (w : World) (n : Nat) (hn : n ≤ 100000000000000000) : Calls Tryz.prog 42 #[.int .i64 (n : Nat)] w fun e w' => e = .returned (.string (txt (dg n))) ∧ w = w' := by
  go_enter Tryz.func42, Tryz.ntmps42
  go_wp2
  go_loop [0, 3] (fun s0 s3 => ∃ (m : Nat) (t : List Nat), s0 = .int .i64 (m : Nat) ∧ s3 = .string (txt t) ∧ m ≤ n ∧ dg m ++ t = dg n) (fun s0 _ => (RowKit.intOf s0).toNat)
  case atStart => exact ⟨n, [], rfl, rfl, Nat.le_refl _, List.append_nil _⟩
  case round =>
    obtain ⟨m, t, rfl, rfl, hm, ht⟩ := hrel
    replace ht := hide ht
    by_cases h10 : 10 ≤ m
    · have hz : ¬ 9223372036854775807 < (chr (m % 10)).size + (txt t).size := by
        rw [chr_size, txt_size]
        have h1 := congrArg List.length ht.out
        simp at h1
        have := dg_le 19 n (by omega)
        omega
      go_wp2_with (first | (refine wpList_conv rfl 3 21 (.tmp 8) rfl _ _ rfl (conv_i32 _ (by omega) (by omega) _) ?_) | (refine wpList_conv rfl 21 9 (.tmp 9) rfl _ _ rfl (conv_chr (m % 10) (by omega) _ (by omega) _) ?_))
      go_round
      case rel => exact ⟨m / 10, (m % 10) :: t, by go_num, by rw [← txt_cons]; rfl, by omega, by rw [dg_step m t h10]; exact ht.out⟩
      case measure => simp [RowKit.intOf]; omega
    · have hz : ¬ 9223372036854775807 < (chr m).size + (txt t).size := by
        rw [chr_size, txt_size]
        have h1 := congrArg List.length ht.out
        simp at h1
        have := dg_le 19 n (by omega)
        omega
      go_wp2_with (first | (refine wpList_conv rfl 3 21 (.tmp 16) rfl _ _ rfl (conv_i32 _ (by omega) (by omega) _) ?_) | (refine wpList_conv rfl 21 9 (.tmp 17) rfl _ _ rfl (conv_chr m (by omega) _ (by omega) _) ?_))
      go_ret
      refine ⟨?_, rfl⟩
      have e : chr m ++ txt t = txt (dg n) := by
        rw [← ht.out, dg_small (by omega)]
        exact txt_cons m t
      rw [← e]
      rfl
end Go.Proofs.YtbnbemacljjimaaGreatDoor

namespace Go.Proofs.YtbnbemacljjimaaGreatDoor
open Go.RowKit Go.Lib
set_option linter.unusedVariables false

def halfT (m : Nat) : ByteArray := txt (dg (m / 2)) ++ ⟨#[46, 53]⟩

/-- The text of a number that is not below 0. -/
def figT (m : Nat) : ByteArray := if m % 2 = 1 then halfT m else txt (dg (m / 2))
def FigN (m : Nat) (e : Ending) : Prop := (m / 2 ≤ 1000000000000000 ∧ e = .returned (.tuple #[.string (figT m), .int .i64 0])) ∨ (1000000000000000 < m / 2 ∧ e = .returned (.tuple #[.string ⟨#[]⟩, .int .i64 2]))

theorem half_size (m : Nat) (h : m / 2 ≤ 1000000000000000) : (txt (dg (m / 2))).size ≤ 20 := by rw [txt_size]; exact dg_le 19 _ (by omega)

set_option maxHeartbeats 2000000 in
set_option maxRecDepth 100000 in
theorem figN_any (w : World) (m : Nat) (hm : m ≤ 18014398509481984) : Calls Tryz.prog 20 #[.int .i64 (m : Nat)] w fun e w' => FigN m e ∧ w = w' := by
  by_cases hb : 1000000000000000 < m / 2
  · have hbi : (1000000000000000 : Int) < (m : Int) / 2 := by omega
    replace hb := hide hb
    go_enter Tryz.func20, Tryz.ntmps20
    go_wp2
    go_ret2
    exact ⟨Or.inr ⟨hb.out, rfl⟩, rfl⟩
  · have hbi : ¬ (1000000000000000 : Int) < (m : Int) / 2 := by omega
    have hle : m / 2 ≤ 1000000000000000 := by omega
    have hd := hide (digits_any w (m / 2) (by omega))
    have hs := half_size m hle
    have z1 : ¬ 9223372036854775807 < (txt (dg (m / 2))).size + 2 := by omega
    replace hb := hide hb
    by_cases ho : m % 2 = 1
    · have hoi : (((m : Nat) : Int) % 2 != 0) = true := by
        have : ((m : Nat) : Int) % 2 = 1 := by omega
        rw [this]; rfl
      have hf : Hid (figT m = txt (dg (m / 2)) ++ ⟨#[46, 53]⟩) := hide (by unfold figT; rw [if_pos ho]; rfl)
      replace ho := hide ho
      replace hle := hide hle
      go_enter Tryz.func20, Tryz.ntmps20
      go_wp2_with (go_at_call 42; refine hd.out.mono ?_; rintro e w1 ⟨rfl, rfl⟩)
      go_ret2
      exact ⟨Or.inl ⟨hle.out, by rw [hf.out]; rfl⟩, rfl⟩
    · have hoi : (((m : Nat) : Int) % 2 != 0) = false := by
        have : ((m : Nat) : Int) % 2 = 0 := by omega
        rw [this]; rfl
      have hf : Hid (figT m = txt (dg (m / 2))) := hide (by unfold figT; rw [if_neg ho])
      replace ho := hide ho
      replace hle := hide hle
      go_enter Tryz.func20, Tryz.ntmps20
      go_wp2_with (go_at_call 42; refine hd.out.mono ?_; rintro e w1 ⟨rfl, rfl⟩)
      go_ret2
      exact ⟨Or.inl ⟨hle.out, by rw [hf.out]; rfl⟩, rfl⟩

/-- What figures says. -/
def FigSays (h : Int) (e : Ending) : Prop := ∃ (s : ByteArray) (how : Int), e = .returned (.tuple #[.string s, .int .i64 how]) ∧ ((how = 0 ∧ s = ntxt h ∧ h.natAbs / 2 ≤ 1000000000000000) ∨ how = 2)

theorem fig_eq (m : Nat) : figT m = ntxt (m : Int) := by
  unfold figT ntxt itxt ftxt
  have e1 : ((m : Nat) : Int).tmod 2 = ((m % 2 : Nat) : Int) := rfl
  have e2 : ((m : Nat) : Int).tdiv 2 = ((m / 2 : Nat) : Int) := rfl
  rw [e1, e2]
  by_cases ho : m % 2 = 1
  · rw [if_pos ho, if_neg (by omega), if_neg (by omega)]
    apply ByteArray.ext
    apply Array.toList_inj.1
    simp [halfT]
  · rw [if_neg ho, if_pos (by omega), if_neg (by omega)]
    rfl

theorem fig_neg (m : Nat) (h0 : 0 < m) : (⟨#[45]⟩ : ByteArray) ++ figT m = ntxt (-(m : Int)) := by
  unfold figT ntxt itxt ftxt
  have e1 : (-((m : Nat) : Int)).tmod 2 = -((m % 2 : Nat) : Int) := by rw [Int.neg_tmod]; rfl
  have e2 : (-((m : Nat) : Int)).tdiv 2 = -((m / 2 : Nat) : Int) := by rw [Int.neg_tdiv]; rfl
  rw [e1, e2]
  by_cases ho : m % 2 = 1
  · rw [if_pos ho, if_neg (by omega), if_pos (by omega)]
    simp [halfT]
  · rw [if_neg ho, if_pos (by omega), if_pos (by omega), show (-((m / 2 : Nat) : Int)).natAbs = m / 2 by omega]

set_option maxHeartbeats 2000000 in
set_option maxRecDepth 100000 in
theorem figures_any (w : World) (h : Int) (hh : -18014398509481984 ≤ h ∧ h ≤ 18014398509481984) : Calls Tryz.prog 20 #[.int .i64 h] w fun e w' => FigSays h e ∧ w = w' := by
  by_cases h0 : 0 ≤ h
  · obtain ⟨m, rfl⟩ : ∃ m : Nat, h = m := ⟨h.toNat, by omega⟩
    refine (figN_any w m (by omega)).mono ?_
    rintro e w' ⟨hf, hw⟩
    refine ⟨?_, hw⟩
    rcases hf with ⟨h1, rfl⟩ | ⟨h1, rfl⟩
    · exact ⟨_, _, rfl, Or.inl ⟨rfl, fig_eq m, by simpa using h1⟩⟩
    · exact ⟨_, _, rfl, Or.inr rfl⟩
  · obtain ⟨m, hm⟩ : ∃ m : Nat, -h = m := ⟨(-h).toNat, by omega⟩
    have hr : ∀ W, Calls Tryz.prog 20 #[.int .i64 (-h)] W fun e w' => FigN m e ∧ W = w' := fun W => by rw [hm]; exact figN_any W m (by omega)
    have hn : Hid ((⟨#[45]⟩ : ByteArray) ++ figT m = ntxt h) := hide (by rw [fig_neg m (by omega), ← hm]; congr 1; omega)
    have hz : m / 2 ≤ 1000000000000000 → ¬ 9223372036854775807 < 1 + (figT m).size := fun hle => by
      have := half_size m hle
      unfold figT halfT
      split
      · rw [ByteArray.size_append]
        show ¬ 9223372036854775807 < 1 + (_ + 2)
        omega
      · omega
    have hab : Hid (h.natAbs = m) := hide (by omega)
    replace hr := hide hr
    replace hm := hide hm
    replace hz := hide hz
    go_enter Tryz.func20, Tryz.ntmps20
    go_wp2_with fail
    refine (hr.out _).mono ?_
    rintro e w1 ⟨hf, rfl⟩
    rcases hf with ⟨h1, rfl⟩ | ⟨h1, rfl⟩
    · have z1 := hz.out h1
      replace h1 := hide h1
      go_wp2
      go_ret2
      exact ⟨⟨_, _, rfl, Or.inl ⟨rfl, hn.out, by rw [hab.out]; exact h1.out⟩⟩, rfl⟩
    · replace h1 := hide h1
      go_wp2
      go_ret2
      exact ⟨⟨_, _, rfl, Or.inr rfl⟩, rfl⟩
end Go.Proofs.YtbnbemacljjimaaGreatDoor

namespace Go.Proofs.YtbnbemacljjimaaGreatDoor
open Go.RowKit Go.Lib
set_option linter.unusedVariables false

/-- What JSON says of null, a bool or a number. -/
def JsS (v : JV) (e : Ending) : Prop := ∃ (s : ByteArray) (how : Int), e = .returned (.tuple #[.string s, .int .i64 how]) ∧ ((how = 0 ∧ s = stxt v) ∨ how = 2)

set_option maxHeartbeats 2000000 in
set_option maxRecDepth 100000 in
theorem jsonS_any (n : Nat) (w : World) (B : Nat) (x : Value) (v : JV) (hx : JAt w B (n + 1) x v) (hk : 0 ≤ v.kind ∧ v.kind ≤ 3) (hh : -18014398509481984 ≤ v.half ∧ v.half ≤ 18014398509481984) :
    Calls Tryz.prog 8 #[x] w fun e w' => JsS v e ∧ Below w.heap.size w w' := by
  obtain ⟨la, lc, ka, kc, va, vc, rfl, -⟩ := hx
  have hf := hide fun W => figures_any W v.half hh
  have hkk : v.kind = 0 ∨ v.kind = 1 ∨ v.kind = 2 ∨ v.kind = 3 := by omega
  clear hh
  rcases hkk with k | k | k | k
  · have hs : Hid (stxt v = nullT) := hide (by unfold stxt; rw [if_pos k])
    rw [k]
    clear hk k
    go_enter Tryz.func8, Tryz.ntmps8
    go_wp2
    go_ret2
    exact ⟨⟨_, _, rfl, Or.inl ⟨rfl, hs.out.symm⟩⟩, (Below.refl _ _).alloc (Nat.le_refl _) _⟩
  · have hs : Hid (stxt v = falseT) := hide (by unfold stxt; rw [if_neg (by omega), if_pos k])
    rw [k]
    clear hk k
    go_enter Tryz.func8, Tryz.ntmps8
    go_wp2
    go_ret2
    exact ⟨⟨_, _, rfl, Or.inl ⟨rfl, hs.out.symm⟩⟩, (Below.refl _ _).alloc (Nat.le_refl _) _⟩
  · have hs : Hid (stxt v = trueT) := hide (by unfold stxt; rw [if_neg (by omega), if_neg (by omega), if_pos k])
    rw [k]
    clear hk k
    go_enter Tryz.func8, Tryz.ntmps8
    go_wp2
    go_ret2
    exact ⟨⟨_, _, rfl, Or.inl ⟨rfl, hs.out.symm⟩⟩, (Below.refl _ _).alloc (Nat.le_refl _) _⟩
  · have hs : Hid (stxt v = ntxt v.half) := hide (by unfold stxt; rw [if_neg (by omega), if_neg (by omega), if_neg (by omega)])
    rw [k]
    clear hk k
    go_enter Tryz.func8, Tryz.ntmps8
    go_wp2_with fail
    refine (hf.out _).mono ?_
    rintro e w1 ⟨⟨s, how, rfl, hs1⟩, rfl⟩
    replace hs1 := hide hs1
    go_wp2
    go_ret2
    refine ⟨⟨_, _, rfl, ?_⟩, (Below.refl _ _).alloc (Nat.le_refl _) _⟩
    rcases hs1.out with ⟨h1, h2, -⟩ | h1
    · exact Or.inl ⟨h1, by rw [hs.out]; exact h2⟩
    · exact Or.inr h1

/-- What a row has of an element. -/
def bareT (v : JV) : ByteArray := if v.kind = 0 then ⟨#[]⟩ else if v.kind = 4 then v.text else stxt v
def BareSays (v : JV) (e : Ending) : Prop := ∃ (s : ByteArray) (how : Int), e = .returned (.tuple #[.string s, .int .i64 how]) ∧ ((how = 0 ∧ s = bareT v ∧ v.kind ≤ 4) ∨ (how = 1 ∧ 5 ≤ v.kind) ∨ how = 2)

set_option maxHeartbeats 2000000 in
set_option maxRecDepth 100000 in
theorem stringS_any (n : Nat) (w : World) (B : Nat) (x : Value) (v : JV) (hx : JAt w B (n + 1) x v) (hk : 0 ≤ v.kind ∧ v.kind ≤ 4) (hh : -18014398509481984 ≤ v.half ∧ v.half ≤ 18014398509481984) (hB : B ≤ w.heap.size) :
    Calls Tryz.prog 36 #[x] w fun e w' => (∃ (s : ByteArray) (how : Int), e = .returned (.tuple #[.string s, .int .i64 how]) ∧ ((how = 0 ∧ s = (if v.kind = 4 then v.text else stxt v)) ∨ how = 2)) ∧ Below w.heap.size w w' := by
  have hx' := hide hx
  obtain ⟨la, lc, ka, kc, va, vc, rfl, -⟩ := hx
  obtain ⟨W, hW⟩ : ∃ W, W = w.alloc (.cells #[.int .i64 v.kind, .int .i64 v.half, .string v.text, .slice la v.list.length lc, .slice ka v.keys.length kc, .slice va v.vals.length vc] 26) := ⟨_, rfl⟩
  have bW : Below w.heap.size w W := by rw [hW]; exact (Below.refl _ _).alloc (Nat.le_refl _) _
  by_cases k : v.kind = 4
  · rw [if_pos k]
    have kk := k
    replace k := hide k
    rw [kk]
    clear kk hk
    go_enter Tryz.func36, Tryz.ntmps36
    go_wp2
    go_ret2
    exact ⟨⟨_, _, rfl, Or.inl ⟨rfl, rfl⟩⟩, (Below.refl _ _).alloc (Nat.le_refl _) _⟩
  · rw [if_neg k]
    have hj := hide (jsonS_any n W B _ v (JAt.keep (fun p hp => bW.cell (by omega)) (Nat.le_refl _) (n + 1) _ _ hx'.out) ⟨hk.1, by omega⟩ hh)
    have kb : ((v.kind : Int) == 4) = false := by simp; exact k
    replace k := hide k
    replace bW := hide bW
    clear hk
    go_enter Tryz.func36, Tryz.ntmps36
    go_wp2_with fail
    rw [← hW]
    clear hW
    refine hj.out.mono ?_
    rintro e w1 ⟨⟨s, how, rfl, hs1⟩, b1⟩
    replace hs1 := hide hs1
    replace b1 := hide b1
    go_wp2
    go_ret2
    exact ⟨⟨_, _, rfl, hs1.out⟩, bW.out.trans (b1.out.mono bW.out.size)⟩
end Go.Proofs.YtbnbemacljjimaaGreatDoor

namespace Go.Proofs.YtbnbemacljjimaaGreatDoor
open Go.RowKit Go.Lib
set_option linter.unusedVariables false

set_option maxHeartbeats 2000000 in
set_option maxRecDepth 100000 in
theorem bare_any (n : Nat) (w : World) (B : Nat) (x : Value) (v : JV) (hx : JAt w B (n + 1) x v) (hk : 0 ≤ v.kind ∧ v.kind ≤ 6) (hh : -18014398509481984 ≤ v.half ∧ v.half ≤ 18014398509481984) (hB : B ≤ w.heap.size) :
    Calls Tryz.prog 84 #[x] w fun e w' => BareSays v e ∧ Below w.heap.size w w' := by
  have hx' := hide hx
  obtain ⟨la, lc, ka, kc, va, vc, rfl, -⟩ := hx
  obtain ⟨W, hW⟩ : ∃ W, W = w.alloc (.cells #[.int .i64 v.kind, .int .i64 v.half, .string v.text, .slice la v.list.length lc, .slice ka v.keys.length kc, .slice va v.vals.length vc] 26) := ⟨_, rfl⟩
  have bW : Below w.heap.size w W := by rw [hW]; exact (Below.refl _ _).alloc (Nat.le_refl _) _
  have hkk : v.kind = 0 ∨ v.kind = 5 ∨ v.kind = 6 ∨ (1 ≤ v.kind ∧ v.kind ≤ 4) := by omega
  rcases hkk with k | k | k | k
  · have hs : Hid (bareT v = ⟨#[]⟩ ∧ v.kind ≤ 4) := hide ⟨by unfold bareT; rw [if_pos k], by omega⟩
    rw [k]
    clear hk k hW hx'
    go_enter Tryz.func84, Tryz.ntmps84
    go_wp2
    go_ret2
    exact ⟨⟨_, _, rfl, Or.inl ⟨rfl, hs.out.1.symm, hs.out.2⟩⟩, (Below.refl _ _).alloc (Nat.le_refl _) _⟩
  · have hs : Hid (5 ≤ v.kind) := hide (by omega)
    rw [k]
    clear hk k hW hx'
    go_enter Tryz.func84, Tryz.ntmps84
    go_wp2
    go_ret2
    exact ⟨⟨_, _, rfl, Or.inr (Or.inl ⟨rfl, hs.out⟩)⟩, (Below.refl _ _).alloc (Nat.le_refl _) _⟩
  · have hs : Hid (5 ≤ v.kind) := hide (by omega)
    rw [k]
    clear hk k hW hx'
    go_enter Tryz.func84, Tryz.ntmps84
    go_wp2
    go_ret2
    exact ⟨⟨_, _, rfl, Or.inr (Or.inl ⟨rfl, hs.out⟩)⟩, (Below.refl _ _).alloc (Nat.le_refl _) _⟩
  · have hj := hide (stringS_any n W B _ v (JAt.keep (fun p hp => bW.cell (by omega)) (Nat.le_refl _) (n + 1) _ _ hx'.out) ⟨by omega, by omega⟩ hh (Nat.le_trans hB bW.size))
    have hs : Hid (bareT v = (if v.kind = 4 then v.text else stxt v) ∧ v.kind ≤ 4) := hide ⟨by unfold bareT; rw [if_neg (by omega)], by omega⟩
    have k0 : ((v.kind : Int) == 0) = false := by simp; omega
    have k5 : ((v.kind : Int) == 5) = false := by simp; omega
    have k6 : ((v.kind : Int) == 6) = false := by simp; omega
    replace k := hide k
    replace bW := hide bW
    clear hk
    go_enter Tryz.func84, Tryz.ntmps84
    go_wp2_with fail
    rw [← hW]
    clear hW
    refine hj.out.mono ?_
    rintro e w1 ⟨⟨s, how, rfl, hs1⟩, b1⟩
    replace hs1 := hide hs1
    replace b1 := hide b1
    go_wp2
    go_ret2
    refine ⟨⟨_, _, rfl, ?_⟩, bW.out.trans (b1.out.mono bW.out.size)⟩
    rcases hs1.out with ⟨h1, h2⟩ | h1
    · exact Or.inl ⟨h1, by rw [hs.out.1]; exact h2, hs.out.2⟩
    · exact Or.inr (Or.inr h1)

/-- Each quote doubled. -/
def dblC (c : UInt8) : List UInt8 := if c = 34 then [34, 34] else [c]
def dblL (l : List UInt8) : List UInt8 := l.flatMap dblC
def dblT (l : List UInt8) : ByteArray := ⟨(dblL l).toArray⟩

theorem dblL_snoc (l : List UInt8) (c : UInt8) : dblL (l ++ [c]) = dblL l ++ dblC c := by unfold dblL; rw [List.flatMap_append]; simp
theorem dblC_len (c : UInt8) : (dblC c).length ≤ 2 := by unfold dblC; split; decide; exact Nat.le_succ 1
theorem dblL_len (l : List UInt8) : (dblL l).length ≤ 2 * l.length := by
  induction l with
  | nil => decide
  | cons c l ih =>
    unfold dblL at *
    rw [List.flatMap_cons, List.length_append, List.length_cons]
    have := dblC_len c
    omega
theorem dbl_esc (l : List UInt8) (h : ∀ c ∈ l, c ≠ 0) : dblL l = escL l := by
  induction l with
  | nil => rfl
  | cons c l ih =>
    unfold dblL escL at *
    rw [List.flatMap_cons, List.flatMap_cons, ih (fun d hd => h d (List.mem_cons_of_mem _ hd))]
    congr 1
    unfold dblC escC
    rw [if_neg (h c List.mem_cons_self)]
theorem dblT_snoc (l : List UInt8) (c : UInt8) (t : ByteArray) (ht : t.data.toList = dblC c) : dblT l ++ t = dblT (l ++ [c]) := by
  apply ByteArray.ext
  apply Array.toList_inj.1
  rw [ByteArray.data_append, Array.toList_append, ht]
  unfold dblT
  rw [dblL_snoc]
theorem dblT_size (l : List UInt8) : (dblT l).size ≤ 2 * l.length := by
  unfold dblT
  show (dblL l).toArray.size ≤ _
  rw [List.size_toArray]
  exact dblL_len l

set_option maxHeartbeats 4000000 in
set_option maxRecDepth 100000 in
theorem changed_any (w : World) (g : Nat) (s : ByteArray) (hg : Blk w g 9 #[.string ⟨#[34]⟩, .string ⟨#[34, 34]⟩]) (hs : s.size ≤ 100000) :
    Calls Tryz.prog 60 #[.string s, .slice (some ⟨g, 0, none⟩) 2 2] w fun e w' => e = .returned (.string (dblT s.data.toList)) ∧ w = w' := by
  have c0 := hg.cell 0
  have c1 := hg.cell 1
  simp at c0 c1
  replace hg := hide hg
  have hsl : s.data.toList.length = s.size := by rw [Array.length_toList]; rfl
  replace hsl := hide hsl
  go_enter Tryz.func60, Tryz.ntmps60
  go_wp2
  go_loop [5, 6] (fun s5 s6 => ∃ i : Nat, s6 = .int .i64 i ∧ i ≤ s.size ∧ s5 = .string (dblT (s.data.toList.take i))) (fun _ i => s.size - (RowKit.intOf i).toNat)
  case atStart => exact ⟨0, rfl, Nat.zero_le _, rfl⟩
  case round =>
    obtain ⟨i, rfl, hi, rfl⟩ := hrel
    by_cases hlt : i < s.size
    · have hdt := dblT_size (s.data.toList.take i)
      have hlk : (s.data.toList.take i).length ≤ i := List.length_take_le _ _
      obtain ⟨D, hD⟩ : ∃ D, dblT (s.data.toList.take i) = D := ⟨_, rfl⟩
      rw [hD] at hdt ⊢
      obtain ⟨X, hX⟩ : ∃ X, s.extract i (i + 1) = X := ⟨_, rfl⟩
      have hXl : X.data.toList = [s[i]] := by
        rw [← hX, ByteArray.data_extract, Array.toList_extract, List.extract_eq_take_drop]
        rw [show i + 1 - i = 1 by omega]
        rw [List.drop_eq_getElem_cons (by simpa using hlt)]
        rfl
      have hxt : X.toList = [s[i]] := by rw [ByteArray.toList_eq]; exact hXl
      have htk : s.data.toList.take (i + 1) = s.data.toList.take i ++ [s[i]] := by rw [List.take_succ_eq_append_getElem (by simpa using hlt)]; rfl
      have hhx := hide (And.intro hxt (And.intro hXl (And.intro hD htk)))
      clear hxt hXl hD htk
      go_wp2
      replace hX := hide hX
      obtain ⟨hxt, hXl, hD, htk⟩ := hhx.out
      go_loop [7, 8] (fun s7 s8 => s7 = .string X ∧ (s8 = .int .i64 0 ∨ (s8 = .int .i64 2 ∧ ¬ s[i] = 34))) (fun _ k => 10 - (RowKit.intOf k).toNat)
      case atStart => exact ⟨rfl, Or.inl rfl⟩
      case round =>
        obtain ⟨rfl, rfl | ⟨rfl, h34⟩⟩ := hrel
        · by_cases h34 : s[i] = 34
          · have hq : ([34] == X.toList) = true := by rw [hxt, h34]; rfl
            have hfin : Hid (D ++ ⟨#[34, 34]⟩ = dblT (s.data.toList.take (i + 1))) := hide (by rw [htk, ← hD, dblT_snoc _ s[i] _ (by unfold dblC; rw [if_pos h34])])
            have z1 : ¬ 9223372036854775807 < D.size + 2 := by omega
            replace h34 := hide h34
            replace hxt := hide hxt
            replace hXl := hide hXl
            replace hD := hide hD
            replace htk := hide htk
            go_wp2
            go_round
            case rel => exact ⟨i + 1, by go_num, by omega, by rw [← hfin.out]⟩
            case measure => simp [RowKit.intOf]; omega
          · have hq : ([34] == X.toList) = false := by
              rw [hxt]
              simp
              exact fun e => h34 e.symm
            replace hxt := hide hxt
            replace hXl := hide hXl
            replace hD := hide hD
            replace htk := hide htk
            have h34' := hide h34
            clear h34
            go_wp2
            go_round
            case rel => exact ⟨rfl, Or.inr ⟨rfl, h34'.out⟩⟩
            case measure => simp [RowKit.intOf]
        · have hfin : Hid (D ++ X = dblT (s.data.toList.take (i + 1))) := hide (by rw [htk, ← hD, dblT_snoc _ s[i] _ (by unfold dblC; rw [if_neg h34]; exact hXl)])
          have hxs : X.size = 1 := by
            show X.data.size = 1
            rw [← Array.length_toList, hXl]
            rfl
          have z1 : ¬ 9223372036854775807 < D.size + X.size := by omega
          replace hxs := hide hxs
          replace h34 := hide h34
          replace hxt := hide hxt
          replace hXl := hide hXl
          replace hD := hide hD
          replace htk := hide htk
          go_wp2
          go_round
          case rel => exact ⟨i + 1, by go_num, by omega, by rw [← hfin.out]⟩
          case measure => simp [RowKit.intOf]; omega
    · obtain rfl : i = s.size := by omega
      rw [List.take_of_length_le (by rw [hsl.out]; exact Nat.le_refl _)]
      go_wp2
      go_ret
      exact ⟨rfl, rfl⟩
end Go.Proofs.YtbnbemacljjimaaGreatDoor
