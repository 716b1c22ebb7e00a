/- AppendFloat; the encoder at numbers, null and bools. -/
import Derived.Test.YtbnbemacljjimaaGreatDoorBldA
import Derived.Test.YtbnbemacljjimaaGreatDoorDecJ
import Derived.Test.YtbnbemacljjimaaGreatDoorFltC
import Derived.Test.YtbnbemacljjimaaGreatDoorFrom
namespace Go.Proofs.YtbnbemacljjimaaGreatDoor
open Go.RowKit Go.Lib
set_option linter.unusedVariables false

theorem ftxt_size (h : Int) (hs : Sml h) : (ftxt h).size ≤ 24 := by
  have : (dg (h.natAbs / 2)).length ≤ 19 + 1 := dg_le 19 _ (by have := hs.pos; omega)
  unfold ftxt
  split
  · rw [ByteArray.size_append, ByteArray.size_append, txt_size]
    show 1 + (_ + 2) ≤ 24
    omega
  · rw [ByteArray.size_append, ByteArray.size_append, txt_size]
    show 0 + (_ + 2) ≤ 24
    omega

set_option maxHeartbeats 1000000 in
theorem appendFloat_any (w : World) (e b : Nat) (h : Int) (hs : Sml h) (ho : ¬ h.tmod 2 = 0) (hE : En e b w) :
    Calls Tryz.prog 123 #[.slice (some ⟨e, 1, none⟩) 0 64, .float .f64 (halfBits h), .int .u8 102, .int .i64 (-1), .int .i64 64] w fun r w' => r = .returned (.slice (some ⟨e, 1, none⟩) (ftxt h).size 64) ∧ Buf e b (ftxt h) w' ∧ Only (· = e) w w' := by
  have hl := ftxt_size h hs
  replace hE := hide hE
  have hf := hide (formatFloat_any w h hs ho)
  obtain ⟨X, hX⟩ : ∃ X, halfBits h = X := ⟨_, rfl⟩
  rw [hX] at hf ⊢
  clear hX
  go_enter Tryz.func123, Tryz.ntmps123
  go_wp2_with (first
    | (go_at_call 144; refine hf.out.mono ?_; rintro r w1 ⟨rfl, hb1⟩; obtain ⟨hce, hfz, hR⟩ := hE.out.ready hb1 (ftxt h) (by omega); clear hb1)
    | (at_builtin; refine wpList_append_room1 _ rfl _ _ 119 9 rfl 5 (.int .u8 0) 1 Tryz.underlying119 bl_byte e 1 0 64 rfl (.string (ftxt h)) rfl (ftxt h).size (Go.byteCells (ftxt h)) (Src.ofString _ Tryz.underlying9 (ftxt h)) (by omega) hce.out hfz.out ?_))
  go_ret
  exact ⟨rfl, hR.out.1, hR.out.2⟩

/-- What the encoder's work leaves: the builder has more, all below B stands. -/
structure Ew (B e b : Nat) (bs : List Value) (w w' : World) : Prop where
  bl : Bl B b bs w'
  en : En e b w'
  bel : Below B w w'

theorem nan_any (W : World) {X Y : Nat} (h : HalfSays X Y) : Calls Tryz.prog 122 #[.float .f64 X] W fun e w' => e = .returned (.bool false) ∧ W = w' := by
  have h1 := h.self
  go_enter Tryz.func122, Tryz.ntmps122
  go_wp2
  go_ret
  exact ⟨rfl, rfl⟩

theorem abs_any (W : World) {X Y : Nat} (h : HalfSays X Y) : Calls Tryz.prog 114 #[.float .f64 X] W fun e w' => e = .returned (.float .f64 Y) ∧ W = w' := by
  have h1 := fbits_run
  have h2 := fof_run
  have h3 := bits_abs X h.lt
  rw [h.abs] at h3
  go_enter Tryz.func114, Tryz.ntmps114
  go_wp2
  go_ret
  exact ⟨rfl, rfl⟩

theorem bl_only {B b : Nat} {bs : List Value} {w w' : World} {P : Nat → Prop} (h : Bl B b bs w) (ho : Only P w w') (hb : ¬ P b) (hr : ∀ k c fz, w.heap[k]? = some (.cells c 5 fz) → ¬ P k) : Bl B b bs w' := by
  rcases h with ⟨h1, v, h2, h3, h4⟩ | ⟨h1, v, h2, h3, h4⟩
  · exact Or.inl ⟨h1, v, ho.blk h2 hb, ho.own h3 (fun k hk => by obtain ⟨c, fz, hc⟩ := own_kind h3 k hk; exact hr k c fz hc), h4⟩
  · exact Or.inr ⟨h1, v, ho.blk h2 hb, ho.own h3 (fun k hk => by obtain ⟨c, fz, hc⟩ := own_kind h3 k hk; exact hr k c fz hc), h4⟩

theorem bl_enc {B e b : Nat} {bs : List Value} {w w' : World} (h : Bl B b bs w) (he : En e b w) (hne : e ≠ b) (ho : Only (· = e) w w') : Bl B b bs w' := by
  refine bl_only h ho (fun k => hne k.symm) (fun k c fz hk e' => ?_)
  subst e'
  obtain ⟨cs, h1, -⟩ := he
  unfold Blk at h1
  rw [h1] at hk
  injection hk with hk
  injection hk with _ hk
  exact absurd hk (by decide)

/-- Write of the buffer's bytes. -/
theorem buf_write {B e b : Nat} {bs : List Value} {s : ByteArray} {w : World} (hb : Bl B b bs w) (hs : Buf e b s w) (hne : e ≠ b) (hlen : bs.length + s.size ≤ 140737488355328) (hBw : B ≤ w.heap.size) :
    Calls Tryz.prog 234 #[.pointer (some ⟨b, 0, none⟩), .slice (some ⟨e, 1, none⟩) s.size 64] w fun r w' => r = .returned (.tuple #[.int .i64 s.size, .nilIface]) ∧ Bl B b (bs ++ Lib.strCells s) w' ∧ En e b w' ∧ Below B w w' ∧ Wr B b w w' := by
  have hen := hs.en
  obtain ⟨cs, h1, h2, h3, h4⟩ := hs
  refine (bl_write_any B b bs e 1 s.size 64 (Go.byteCells s) w hb hlen hBw (Go.byteCells_length s) hne h1 (by decide) h4 (fun u hu => by
    obtain ⟨_, _, rfl⟩ := List.mem_map.1 hu
    rfl)).mono ?_
  rintro r w' ⟨rfl, k1, k2⟩
  exact ⟨rfl, k1, hen.wr k2 hne, k2.bel, k2⟩

set_option maxHeartbeats 1000000 in
set_option maxRecDepth 100000 in
theorem encFloat_any (w : World) (B e b : Nat) (bs : List Value) (h : Int) (hs : Sml h) (ho : ¬ h.tmod 2 = 0) (hb : Bl B b bs w) (he : En e b w) (hBe : B ≤ e) (hne : e ≠ b) (hlen : bs.length + 64 ≤ 140737488355328) (hBw : B ≤ w.heap.size) :
    Calls Tryz.prog 103 #[.pointer (some ⟨e, 0, none⟩), .float .f64 (halfBits h)] w fun r w' => r = .returned (.tuple #[]) ∧ Ew B e b (bs ++ Lib.strCells (ftxt h)) w w' := by
  obtain ⟨Y, hY⟩ := half_says_all hs
  have haf := hide (appendFloat_any w e b h hs ho he)
  obtain ⟨X, hX⟩ : ∃ X, halfBits h = X := ⟨_, rfl⟩
  rw [hX] at hY haf ⊢
  clear hX
  have hn := hide (nan_any w hY)
  have ha := hide (abs_any w hY)
  have q1 := hY.lo
  have q2 := hY.hi
  have q3 := hY.zero
  have q4 := hY.small
  have q5 := hY.big
  have m1 : ∀ W : World, (Builtin.max_ #[82, 82] 82 #[.float .f64 X, .float .f64 18442240474082181119]).run Tryz.prog W = .ok (.float .f64 X) W := fun W => by simp [Builtin.max_, Builtin.max2, q1]
  have m2 : ∀ W : World, (Builtin.min_ #[82, 82] 82 #[.float .f64 X, .float .f64 9218868437227405311]).run Tryz.prog W = .ok (.float .f64 X) W := fun W => by simp [Builtin.min_, Builtin.min2, q2]
  clear q1 q2
  replace hY := hide hY
  have c0 := he.cell
  go_enter Tryz.func103, Tryz.ntmps103
  go_wp2_with (first
    | (go_at_call 122; refine hn.out.mono ?_; rintro e w1 ⟨rfl, rfl⟩)
    | (go_at_call 114; refine ha.out.mono ?_; rintro e w1 ⟨rfl, rfl⟩)
    | (go_at_call 123; refine haf.out.mono ?_; rintro r w2 ⟨rfl, hBuf, hO⟩; have c2 := hBuf.en.cell; replace hBuf := hide hBuf; replace hO := hide hO))
  have hs24 := ftxt_size h hs
  refine (buf_write (bl_enc hb he hne hO.out) hBuf.out hne (by omega) (Nat.le_trans hBw hO.out.size)).mono ?_
  rintro r w3 ⟨rfl, k1, k2, k3, -⟩
  have k4 := (hO.out.below (B := B) (by intro k hk; omega) hBw).trans k3
  go_wp2
  go_end0
  exact ⟨rfl, k1, k2, k4⟩
end Go.Proofs.YtbnbemacljjimaaGreatDoor

namespace Go.Proofs.YtbnbemacljjimaaGreatDoor
open Go.RowKit Go.Lib
set_option linter.unusedVariables false

def nullT : ByteArray := ⟨#[110, 117, 108, 108]⟩
def trueT : ByteArray := ⟨#[116, 114, 117, 101]⟩
def falseT : ByteArray := ⟨#[102, 97, 108, 115, 101]⟩

/-- WriteString under the encoder. -/
theorem str_write {B e b : Nat} {bs : List Value} {s : ByteArray} {w : World} (hb : Bl B b bs w) (he : En e b w) (hne : e ≠ b) (hlen : bs.length + s.size ≤ 140737488355328) (hBw : B ≤ w.heap.size) :
    Calls Tryz.prog 113 #[.pointer (some ⟨b, 0, none⟩), .string s] w fun r w' => r = .returned (.tuple #[.int .i64 s.size, .nilIface]) ∧ Ew B e b (bs ++ Lib.strCells s) w w' := by
  refine (bl_str_any B b bs s w hb hlen hBw).mono ?_
  rintro r w' ⟨rfl, k1, k2⟩
  exact ⟨rfl, k1, he.wr k2 hne, k2.bel⟩

section
variable (w : World) (B e b : Nat) (bs : List Value) (hb : Bl B b bs w) (he : En e b w) (hne : e ≠ b) (hlen : bs.length + 64 ≤ 140737488355328) (hBw : B ≤ w.heap.size)
include hb he hne hlen hBw

set_option maxHeartbeats 1000000 in
set_option maxRecDepth 100000 in
theorem enc_nil : Calls Tryz.prog 92 #[.pointer (some ⟨e, 0, none⟩), .nilIface] w fun r w' => r = .returned (.tuple #[]) ∧ Ew B e b (bs ++ Lib.strCells nullT) w w' := by
  have hW := hide (str_write (s := nullT) hb he hne (by show _ + 4 ≤ _; omega) hBw)
  have c0 := he.cell
  unfold nullT at hW ⊢
  go_enter Tryz.func92, Tryz.ntmps92
  go_wp2_with (go_at_call 113; refine hW.out.mono ?_; rintro r w1 ⟨rfl, h1⟩; replace h1 := hide h1)
  go_end0
  exact ⟨rfl, h1.out⟩

set_option maxHeartbeats 1000000 in
set_option maxRecDepth 100000 in
theorem enc_true : Calls Tryz.prog 92 #[.pointer (some ⟨e, 0, none⟩), .iface 4 (.bool true)] w fun r w' => r = .returned (.tuple #[]) ∧ Ew B e b (bs ++ Lib.strCells trueT) w w' := by
  have hW := hide (str_write (s := trueT) hb he hne (by show _ + 4 ≤ _; omega) hBw)
  have c0 := he.cell
  unfold trueT at hW ⊢
  go_enter Tryz.func92, Tryz.ntmps92
  go_wp2_with (go_at_call 113; refine hW.out.mono ?_; rintro r w1 ⟨rfl, h1⟩; replace h1 := hide h1)
  go_end0
  exact ⟨rfl, h1.out⟩

set_option maxHeartbeats 1000000 in
set_option maxRecDepth 100000 in
theorem enc_false : Calls Tryz.prog 92 #[.pointer (some ⟨e, 0, none⟩), .iface 4 (.bool false)] w fun r w' => r = .returned (.tuple #[]) ∧ Ew B e b (bs ++ Lib.strCells falseT) w w' := by
  have hW := hide (str_write (s := falseT) hb he hne (by show _ + 5 ≤ _; omega) hBw)
  have c0 := he.cell
  unfold falseT at hW ⊢
  go_enter Tryz.func92, Tryz.ntmps92
  go_wp2_with (go_at_call 113; refine hW.out.mono ?_; rintro r w1 ⟨rfl, h1⟩; replace h1 := hide h1)
  go_end0
  exact ⟨rfl, h1.out⟩

set_option maxHeartbeats 1000000 in
set_option maxRecDepth 100000 in
theorem enc_float (hBe : B ≤ e) (h : Int) (hs : Sml h) (ho : ¬ h.tmod 2 = 0) : Calls Tryz.prog 92 #[.pointer (some ⟨e, 0, none⟩), .iface 82 (.float .f64 (halfBits h))] w fun r w' => r = .returned (.tuple #[]) ∧ Ew B e b (bs ++ Lib.strCells (ftxt h)) w w' := by
  have hW := hide (encFloat_any w B e b bs h hs ho hb he hBe hne hlen hBw)
  generalize halfBits h = X at *
  go_enter Tryz.func92, Tryz.ntmps92
  go_wp2_with (go_at_call 103; refine hW.out.mono ?_; rintro r w1 ⟨rfl, h1⟩; replace h1 := hide h1)
  go_end0
  exact ⟨rfl, h1.out⟩

set_option maxHeartbeats 2000000 in
set_option maxRecDepth 100000 in
theorem enc_int (hBe : B ≤ e) (n : Int) (h0 : -9223372036854775808 ≤ n) (h1 : n ≤ 9223372036854775807) : Calls Tryz.prog 92 #[.pointer (some ⟨e, 0, none⟩), .iface 3 (.int .i64 n)] w fun r w' => r = .returned (.tuple #[]) ∧ Ew B e b (bs ++ Lib.strCells (itxt n)) w w' := by
  have hA := hide (appendInt_any w.drew e b n h0 h1 he.drew)
  have hl := itxt_size n h0 h1
  have c0 := he.cell
  have hE := hide he
  have hN := hide (And.intro h0 h1)
  clear h0 h1
  go_enter Tryz.func92, Tryz.ntmps92
  go_wp2
  go_region_held3 (fun w' => w'.cell? ⟨e, 0, none⟩ = some (.iface 126 (.pointer (some ⟨b, 0, none⟩)))) (first | exact c0 | exact c1 | exact c2) (first
    | (go_at_call 102; refine hA.out.mono ?_; rintro r w1 ⟨rfl, hB1, hO1⟩; have c1 := hB1.en.cell; have k1 := hide (bl_enc (w := w.drew) hb hE.out.drew hne hO1); have l1 := Nat.le_trans hBw hO1.size; have o1 := hide hO1; replace hB1 := hide hB1; clear hO1)
    | (go_at_call 234; refine (buf_write k1.out hB1.out hne (by omega) l1).mono ?_; rintro r w2 ⟨rfl, hb2, he2, hl2, -⟩; have c2 := he2.cell; have k2 := hide (And.intro hb2 (And.intro he2 hl2)); clear hb2 he2 hl2))
  go_wp2
  go_end0
  exact ⟨rfl, k2.out.1, k2.out.2.1, ((Below.refl B w).drew.trans (o1.out.below (B := B) (by intro k hk; omega) hBw)).trans k2.out.2.2⟩
end
end Go.Proofs.YtbnbemacljjimaaGreatDoor

namespace Go.Proofs.YtbnbemacljjimaaGreatDoor
open Go.RowKit Go.Lib
set_option linter.unusedVariables false

/-- The encoder writes s for x. -/
def EncSays (w : World) (x : Value) (s : ByteArray) : Prop := ∀ (W : World) (e b : Nat), Below w.heap.size w W → Bl w.heap.size b [] W → En e b W → e ≠ b → w.heap.size ≤ e → w.heap.size ≤ W.heap.size →
  Calls Tryz.prog 92 #[.pointer (some ⟨e, 0, none⟩), x] W fun r w' => r = .returned (.tuple #[]) ∧ Ew w.heap.size e b (Lib.strCells s) W w'

theorem zero_enc : Tryz.zeroCells133.size = 65 := by kernel_rfl

theorem enc_new (w : World) (b : Nat) : En w.heap.size b (w.alloc (.cells (Tryz.zeroCells133.setIfInBounds 0 (.iface 126 (.pointer (some ⟨b, 0, none⟩)))) 133)) := by
  refine ⟨_, Blk.new w _ _, by rw [Array.size_setIfInBounds]; exact zero_enc, ?_⟩
  rw [Array.getElem?_setIfInBounds, if_pos rfl, if_pos (by rw [zero_enc]; decide)]

set_option maxHeartbeats 1000000 in
set_option maxRecDepth 100000 in
theorem marshal_of (w : World) (x : Value) (s : ByteArray) (hx : EncSays w x s) :
    Calls Tryz.prog 70 #[x] w fun e w' => e = .returned (.string s) ∧ Below w.heap.size w w' := by
  go_enter Tryz.func70, Tryz.ntmps70
  go_wp2_with fail
  obtain ⟨W0, hW0⟩ : ∃ W0, W0 = w.alloc (.cells #[.pointer none, .slice none 0 0] 128) := ⟨_, rfl⟩
  have hs0 : W0.heap.size = w.heap.size + 1 := by rw [hW0]; simp
  have b0 : Bl w.heap.size w.heap.size [] W0 := by rw [hW0]; exact Lib.fresh_isBuilder _ _ _
  have l0 : Below w.heap.size w W0 := by rw [hW0]; exact (Below.refl _ _).alloc (Nat.le_refl _) _
  rw [← hW0]
  have e1 := enc_new W0 w.heap.size
  have b1 := bl_only (P := fun _ => False) b0 ((Only.refl _ W0).alloc (.cells (Tryz.zeroCells133.setIfInBounds 0 (.iface 126 (.pointer (some ⟨w.heap.size, 0, none⟩)))) 133)) (fun h => h) (fun _ _ _ _ h => h)
  have l1 := l0.alloc l0.size (.cells (Tryz.zeroCells133.setIfInBounds 0 (.iface 126 (.pointer (some ⟨w.heap.size, 0, none⟩)))) 133)
  rw [hs0] at e1
  have l2 := l1.size
  refine (hx _ (w.heap.size + 1) w.heap.size l1 b1 e1 (by omega) (by omega) l2).mono ?_
  rintro r W2 ⟨rfl, h2⟩
  have k2 : Lib.IsBuilderF 128 5 w.heap.size w.heap.size (Lib.byteCells s.data.toList) W2 := Lib.IsBuilderF.of h2.bl
  have l3 := hide (l1.trans h2.bel)
  have l4 := Nat.le_trans l2 h2.bel.size
  clear e1 b1 b0 l0 l1 hW0 h2 hx
  go_wp2_with (go_at_call 93; refine (Tryz.Builder_String_any_k w.heap.size w.heap.size s.data.toList W2 k2 l4).mono ?_; rintro r W3 ⟨rfl, -, l5, -⟩; replace l5 := hide l5)
  go_ret
  exact ⟨rfl, l3.out.trans l5.out⟩
end Go.Proofs.YtbnbemacljjimaaGreatDoor
