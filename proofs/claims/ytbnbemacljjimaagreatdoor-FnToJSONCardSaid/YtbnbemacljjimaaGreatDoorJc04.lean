/- fromGo at one depth more, out of what lists and maps give. -/
import Derived.Test.YtbnbemacljjimaaGreatDoorJc03
import Derived.Test.YtbnbemacljjimaaGreatDoorJc00
namespace Go.Proofs.YtbnbemacljjimaaGreatDoor
open Go.RowKit
set_option linter.unusedVariables false

theorem text_nil {s : ByteArray} (h : s.toList = []) : s = ⟨#[]⟩ := by
  rw [ByteArray.toList_eq] at h
  cases s with
  | mk d =>
    have : d = #[] := by simpa using h
    rw [this]

theorem JP.leaf {w : World} {P : Nat → Prop} {n : Nat} {v : JV} (hl : v.list = []) (hk : v.keys = []) (hv : v.vals = []) (ht : v.text.size ≤ 9223372036854775807)
    (h8 : -9223372036854775808 ≤ v.kind ∧ v.kind ≤ 9223372036854775807) (h9 : -9223372036854775808 ≤ v.half ∧ v.half ≤ 9223372036854775807) :
    JP w P (n + 1) (.agg #[.int .i64 v.kind, .int .i64 v.half, .string v.text, .slice none 0 0, .slice none 0 0, .slice none 0 0]) v := by
  refine ⟨none, 0, none, 0, none, 0, ?_, ?_, ?_, ?_, by omega, by omega, by omega, ht, h8, h9, ?_, ⟨?_, ?_⟩, ?_⟩
  · rw [hl, hk, hv]; rfl
  · rw [hl]; exact Nat.le_refl _
  · rw [hk]; exact Nat.le_refl _
  · rw [hv]; exact Nat.le_refl _
  · intro h; rw [hl] at h; exact absurd h (by simp)
  · rw [hk]; simp
  · intro h; rw [hk] at h; exact absurd h (by simp)
  · intro h; rw [hv] at h; exact absurd h (by simp)

set_option maxHeartbeats 1000000 in
set_option maxRecDepth 100000 in
theorem fromGo_int (w : World) (k : Int) (h : -1000000000000000000 ≤ k ∧ k ≤ 1000000000000000000) :
    Calls Tryz.prog 45 #[.iface 3 (.int .i64 k)] w fun e w' => e = .returned (.tuple #[.agg #[.int .i64 3, .int .i64 (2 * k), .string ⟨#[]⟩, .slice none 0 0, .slice none 0 0, .slice none 0 0], .bool true]) ∧ Below w.heap.size w w' := by
  obtain ⟨h1, h2⟩ := h
  have hw : IntKind.i64.wrap (2 * k) = 2 * k := by rw [IntKind.wrap_i64]; omega
  have hd1 : -4611686018427387904 ≤ k := by omega
  have hd2 : k ≤ 4611686018427387903 := by omega
  go_enter Tryz.func45, Tryz.ntmps45
  go_wp2
  exact bodyPost_ret (v := .tuple #[.agg #[.int .i64 3, .int .i64 (2 * k), .string ⟨#[]⟩, .slice none 0 0, .slice none 0 0, .slice none 0 0], .bool true]) (by simp [results, Tryz.results45, go_sem]) rfl ⟨rfl, (Below.refl _ _).alloc (Nat.le_refl _) _⟩

def FG (n : Nat) : Prop := ∀ (w : World) (lo : Nat) (x : Value) (v : JV), GAt w lo n x v → Say n v → FGat n w x v

def FL (n : Nat) : Prop := ∀ (w : World) (lo b o c : Nat) (xs : List JV), b < w.heap.size → xs.length ≤ c → c ≤ 9223372036854775807 → (∀ (i : Nat) y, xs[i]? = some y → ∃ z, w.cell? ⟨b, o + i, none⟩ = some z ∧ GAt w lo n z y) → (∀ x ∈ xs, Say n x) → xs.length ≤ 100000 →
  Calls Tryz.prog 68 #[.slice (some ⟨b, o, none⟩) xs.length c] w fun e w' => ∃ r, e = .returned (.tuple #[r, .bool true]) ∧ Below w.heap.size w w' ∧ JP w' (Mid w.heap.size w'.heap.size) (n + 1) r (.mk 5 0 ⟨#[]⟩ xs [] [])

def FM (n : Nat) : Prop := ∀ (w : World) (lo b : Nat) (ents : List Ent) (ks : List ByteArray) (vs : List JV), b < w.heap.size → MapIs w b ents → ents.map (·.1) = ks → (∀ (i : Nat) y, vs[i]? = some y → ∃ e : Ent, ents[i]? = some e ∧ GAt w lo n e.2 y) → ks.length = vs.length → Rise ks → (∀ x ∈ vs, Say n x) → vs.length ≤ 100000 → (∀ k ∈ ks, k.size ≤ 9223372036854775807) →
  Calls Tryz.prog 69 #[.map (some b)] w fun e w' => ∃ r, e = .returned (.tuple #[r, .bool true]) ∧ Below w.heap.size w w' ∧ JP w' (Mid w.heap.size w'.heap.size) (n + 1) r (.mk 6 0 ⟨#[]⟩ [] ks vs)

theorem even_half {h : Int} (e : h.tmod 2 = 0) : 2 * h.tdiv 2 = h := by
  have := Int.mul_tdiv_add_tmod h 2
  omega

set_option maxHeartbeats 2000000 in
set_option maxRecDepth 100000 in
theorem from_step (n : Nat) (hL : FL n) (hM : FM n) : FG (n + 1) := by
  intro w lo x v hx hs
  obtain ⟨⟨hk0, hk6⟩, hs3, hs4, hs5, hs6, hkv, hs8, hs9, hs10, hs11, hs12, hs13, hs14, hs15, hs16⟩ := hs
  have hkb : -9223372036854775808 ≤ v.kind ∧ v.kind ≤ 9223372036854775807 := by omega
  have hhb : -9223372036854775808 ≤ v.half ∧ v.half ≤ 9223372036854775807 := by omega
  have nl : ¬ v.kind = 5 → v.list = [] := fun h => hs5.resolve_left h
  have nk : ¬ v.kind = 6 → v.keys = [] := fun h => hs6.resolve_left h
  have nv : ¬ v.kind = 6 → v.vals = [] := fun h => List.eq_nil_of_length_eq_zero (by rw [← hkv, nk h]; rfl)
  have nt : ¬ v.kind = 4 → v.text = ⟨#[]⟩ := fun h => text_nil (hs4.resolve_left h)
  have nh : ¬ v.kind = 3 → v.half = 0 := fun h => hs3.resolve_left h
  have leaf : ∀ (W : World) (P : Nat → Prop), ¬ v.kind = 5 → ¬ v.kind = 6 → JP W P (n + 1) (.agg #[.int .i64 v.kind, .int .i64 v.half, .string v.text, .slice none 0 0, .slice none 0 0, .slice none 0 0]) v :=
    fun W P h5 h6 => JP.leaf (nl h5) (nk h6) (nv h6) hs16 hkb hhb
  unfold FGat
  rcases hx with ⟨hk, rfl⟩ | ⟨hk, rfl⟩ | ⟨hk, rfl⟩ | ⟨hk, he, rfl⟩ | ⟨hk, he, rfl⟩ | ⟨hk, rfl⟩ | ⟨hk, b, o, c, rfl, h1, h2, h3, h4, h5⟩ | ⟨hk, b, ents, rfl, h1, h2, h3, h4, h5⟩
  · have hl := hide (leaf · (Mid w.heap.size (w.heap.size + 1)) (by omega) (by omega))
    rw [hk, nh (by omega), nt (by omega)] at hl
    clear leaf nl nk nv nt nh hs3 hs4 hs5 hs6 hkv hs8 hs9 hs12 hs13 hs14 hs15
    go_enter Tryz.func45, Tryz.ntmps45
    go_wp2
    refine bodyPost_ret (v := .tuple #[.agg #[.int .i64 0, .int .i64 0, .string ⟨#[]⟩, .slice none 0 0, .slice none 0 0, .slice none 0 0], .bool true]) (by simp [results, Tryz.results45, go_sem]) rfl ⟨_, rfl, (Below.refl _ _).alloc (Nat.le_refl _) _, JP.more (fun b hb => ⟨hb.1, by simp; exact hb.2⟩) (hl.out _)⟩
  · have hl := hide (leaf · (Mid w.heap.size (w.heap.size + 1)) (by omega) (by omega))
    rw [hk, nh (by omega), nt (by omega)] at hl
    clear leaf nl nk nv nt nh hs3 hs4 hs5 hs6 hkv hs8 hs9 hs12 hs13 hs14 hs15
    go_enter Tryz.func45, Tryz.ntmps45
    go_wp2
    refine bodyPost_ret (v := .tuple #[.agg #[.int .i64 1, .int .i64 0, .string ⟨#[]⟩, .slice none 0 0, .slice none 0 0, .slice none 0 0], .bool true]) (by simp [results, Tryz.results45, go_sem]) rfl ⟨_, rfl, (Below.refl _ _).alloc (Nat.le_refl _) _, JP.more (fun b hb => ⟨hb.1, by simp; exact hb.2⟩) (hl.out _)⟩
  · have hl := hide (leaf · (Mid w.heap.size (w.heap.size + 1)) (by omega) (by omega))
    rw [hk, nh (by omega), nt (by omega)] at hl
    clear leaf nl nk nv nt nh hs3 hs4 hs5 hs6 hkv hs8 hs9 hs12 hs13 hs14 hs15
    go_enter Tryz.func45, Tryz.ntmps45
    go_wp2
    refine bodyPost_ret (v := .tuple #[.agg #[.int .i64 2, .int .i64 0, .string ⟨#[]⟩, .slice none 0 0, .slice none 0 0, .slice none 0 0], .bool true]) (by simp [results, Tryz.results45, go_sem]) rfl ⟨_, rfl, (Below.refl _ _).alloc (Nat.le_refl _) _, JP.more (fun b hb => ⟨hb.1, by simp; exact hb.2⟩) (hl.out _)⟩
  · refine (fromGo_int w (v.half.tdiv 2) (by have := even_half he; omega)).mono ?_
    rintro e w' ⟨rfl, hb⟩
    refine ⟨_, rfl, hb, ?_⟩
    rw [even_half he]
    have hl := leaf w' (Mid w.heap.size w'.heap.size) (by omega) (by omega)
    rw [hk, nt (by omega)] at hl
    exact hl
  · have hsm : Sml v.half := ⟨by intro h0; rw [h0] at he; exact he rfl, by omega, by omega⟩
    have hl := hide fun W => leaf W (Mid w.heap.size W.heap.size) (by omega) (by omega)
    rw [hk, nt (by omega)] at hl
    have hq : ∀ W : World, (binOp .mul 82 (.float .f64 4611686018427387904) (.float .f64 (halfBits v.half))).run Tryz.prog W = .ok (.float .f64 (floatOfInt .f64 v.half)) W := fun W => run_float_arith W _ _ _ _ _ _ (twice_half hsm)
    have hh := hide fun W => half_any W v.half hsm
    clear leaf nl nk nv nt nh hs3 hs4 hs5 hs6 hkv hs8 hs9 hs12 hs13 hs14 hs15
    replace hsm := hide hsm
    obtain ⟨W0, hW0⟩ : ∃ W0, W0 = w.alloc (.cells #[.int .i64 0, .int .i64 0, .string ⟨#[]⟩, .slice none 0 0, .slice none 0 0, .slice none 0 0] 26) := ⟨_, rfl⟩
    have b0 : Below w.heap.size w W0 := by rw [hW0]; exact Below.alloc (Below.refl _ _) (Nat.le_refl _) _
    have k0 : Blk W0 w.heap.size 26 #[.int .i64 0, .int .i64 0, .string ⟨#[]⟩, .slice none 0 0, .slice none 0 0, .slice none 0 0] := by rw [hW0]; exact Blk.new w _ _
    have hs0 := k0.lt
    replace b0 := hide b0
    replace k0 := hide k0
    go_enter Tryz.func45, Tryz.ntmps45
    go_wp2_with fail
    rw [← hW0]
    clear hW0
    refine (hh.out W0).mono ?_
    rintro e W1 ⟨rfl, b1⟩
    have k1 := hide (k0.out.below b1 hs0)
    have b2 := hide (b0.out.trans (b1.mono b0.out.size))
    clear b1
    go_wp2_with (refine wpList_store_blk rfl 26 (.tmp 2) (.tmp 38) rfl w.heap.size _ rfl rfl 26 _ k1.out val_size rfl (val_one _ _ _ _ _ _ _ _ _ _ _ _) ?_; intro W3 k3 o3 s3; have o3' := hide o3; have k3' := hide k3; have s3' := hide s3; clear o3 k3 s3)
    obtain ⟨q0, q1, q2, q3, q4, q5⟩ := blk_six k3'.out
    refine bodyPost_ret (v := .tuple #[.agg #[.int .i64 3, .int .i64 v.half, .string ⟨#[]⟩, .slice none 0 0, .slice none 0 0, .slice none 0 0], .bool true]) (by simp [results, Tryz.results45, go_sem, q0, q1, q2, q3, q4, q5]) rfl ⟨_, rfl, b2.out.trans (o3'.out.below (by intro k hk; omega) b2.out.size), hl.out _⟩
  · have hl := hide (leaf · (Mid w.heap.size (w.heap.size + 1)) (by omega) (by omega))
    rw [hk, nh (by omega)] at hl
    clear leaf nl nk nv nt nh hs3 hs4 hs5 hs6 hkv hs8 hs9 hs12 hs13 hs14 hs15
    go_enter Tryz.func45, Tryz.ntmps45
    go_wp2
    refine bodyPost_ret (v := .tuple #[.agg #[.int .i64 4, .int .i64 0, .string v.text, .slice none 0 0, .slice none 0 0, .slice none 0 0], .bool true]) (by simp [results, Tryz.results45, go_sem]) rfl ⟨_, rfl, (Below.refl _ _).alloc (Nat.le_refl _) _, JP.more (fun b hb => ⟨hb.1, by simp; exact hb.2⟩) (hl.out _)⟩
  · have hv : v = .mk 5 0 ⟨#[]⟩ v.list [] [] := by
      have e1 := nh (by omega)
      have e2 := nt (by omega)
      have e3 := nk (by omega)
      have e4 := nv (by omega)
      cases v
      simp only [JV.kind, JV.half, JV.text, JV.list, JV.keys, JV.vals] at *
      subst hk e1 e2 e3 e4
      rfl
    obtain ⟨W0, hW0⟩ : ∃ W0, W0 = w.alloc (.cells #[.int .i64 0, .int .i64 0, .string ⟨#[]⟩, .slice none 0 0, .slice none 0 0, .slice none 0 0] 26) := ⟨_, rfl⟩
    have o0 : Only (fun _ => False) w W0 := by rw [hW0]; exact (Only.refl _ w).alloc _
    have b0 : Below w.heap.size w W0 := by rw [hW0]; exact Below.alloc (Below.refl _ _) (Nat.le_refl _) _
    have k0 : Blk W0 w.heap.size 26 #[.int .i64 0, .int .i64 0, .string ⟨#[]⟩, .slice none 0 0, .slice none 0 0, .slice none 0 0] := by rw [hW0]; exact Blk.new w _ _
    have hc := hide (hL W0 lo b o c v.list (by have := b0.size; omega) h3 h4 (fun i y hy => by
      obtain ⟨z, hz, hg⟩ := h5 i y hy
      exact ⟨z, (b0.cell h2).trans hz, GAt.only o0 (fun k hk => hk.elim) n _ _ hg⟩) hs12 hs10)
    have hs0 := k0.lt
    replace b0 := hide b0
    replace k0 := hide k0
    replace hv := hide hv
    replace hk := hide hk
    clear leaf nl nk nv nt nh hs3 hs4 hs5 hs6 hkv hs8 hs9 hs12 hs13 hs14 hs15 h5 o0
    go_enter Tryz.func45, Tryz.ntmps45
    go_wp2_with fail
    rw [← hW0]
    clear hW0
    refine hc.out.mono ?_
    rintro e W1 ⟨r, rfl, b1, hr⟩
    rw [← hv.out] at hr
    have hr' := hide hr
    obtain ⟨la, lc, ka, kc, va, vc, rfl, -⟩ := hr
    have k1 := hide (k0.out.below b1 hs0)
    have b2 := hide (b0.out.trans (b1.mono b0.out.size))
    replace b1 := hide b1
    go_wp2_with (refine wpList_store_blk rfl 26 (.tmp 2) (.tmp 50) rfl w.heap.size _ rfl rfl 26 _ k1.out val_size rfl (val_one _ _ _ _ _ _ _ _ _ _ _ _) ?_; intro W3 k3 o3 s3; have o3' := hide o3; have k3' := hide k3; have s3' := hide s3; clear o3 k3 s3)
    obtain ⟨q0, q1, q2, q3, q4, q5⟩ := blk_six k3'.out
    refine bodyPost_ret (v := .tuple #[.agg #[.int .i64 v.kind, .int .i64 v.half, .string v.text, .slice la v.list.length lc, .slice ka v.keys.length kc, .slice va v.vals.length vc], .bool true]) (by simp [results, Tryz.results45, go_sem, q0, q1, q2, q3, q4, q5]) rfl ⟨_, rfl, b2.out.trans (o3'.out.below (by intro k hk; omega) b2.out.size), ?_⟩
    refine JP.keep (fun p hp => ?_) (fun b hb => ⟨by have := hb.1; omega, by have := hb.2; rw [s3'.out]; exact this⟩) _ _ _ hr'.out
    have hp1 := hp.1
    have hp2 := hp.2
    exact World.cell?_of_block (o3'.out.block _ hp2 (by intro e; omega))
  · have hv : v = .mk 6 0 ⟨#[]⟩ [] v.keys v.vals := by
      have e1 := nh (by omega)
      have e2 := nt (by omega)
      have e3 := nl (by omega)
      cases v
      simp only [JV.kind, JV.half, JV.text, JV.list, JV.keys, JV.vals] at *
      subst hk e1 e2 e3
      rfl
    obtain ⟨W0, hW0⟩ : ∃ W0, W0 = w.alloc (.cells #[.int .i64 0, .int .i64 0, .string ⟨#[]⟩, .slice none 0 0, .slice none 0 0, .slice none 0 0] 26) := ⟨_, rfl⟩
    have o0 : Only (fun _ => False) w W0 := by rw [hW0]; exact (Only.refl _ w).alloc _
    have b0 : Below w.heap.size w W0 := by rw [hW0]; exact Below.alloc (Below.refl _ _) (Nat.le_refl _) _
    have k0 : Blk W0 w.heap.size 26 #[.int .i64 0, .int .i64 0, .string ⟨#[]⟩, .slice none 0 0, .slice none 0 0, .slice none 0 0] := by rw [hW0]; exact Blk.new w _ _
    have hc := hide (hM W0 lo b ents v.keys v.vals (by have := b0.size; omega) (h3.only o0 (fun h => h)) h4 (fun i y hy => by
      obtain ⟨z, hz, hg⟩ := h5 i y hy
      exact ⟨z, hz, GAt.only o0 (fun k hk => hk.elim) n _ _ hg⟩) hkv hs13 hs14 hs11 hs15)
    have hs0 := k0.lt
    replace b0 := hide b0
    replace k0 := hide k0
    replace hv := hide hv
    replace hk := hide hk
    clear leaf nl nk nv nt nh hs3 hs4 hs5 hs6 hkv hs8 hs9 hs12 hs13 hs14 hs15 h5 o0 h4 h3
    go_enter Tryz.func45, Tryz.ntmps45
    go_wp2_with fail
    rw [← hW0]
    clear hW0
    refine hc.out.mono ?_
    rintro e W1 ⟨r, rfl, b1, hr⟩
    rw [← hv.out] at hr
    have hr' := hide hr
    obtain ⟨la, lc, ka, kc, va, vc, rfl, -⟩ := hr
    have k1 := hide (k0.out.below b1 hs0)
    have b2 := hide (b0.out.trans (b1.mono b0.out.size))
    replace b1 := hide b1
    go_wp2_with (refine wpList_store_blk rfl 26 (.tmp 2) (.tmp 57) rfl w.heap.size _ rfl rfl 26 _ k1.out val_size rfl (val_one _ _ _ _ _ _ _ _ _ _ _ _) ?_; intro W3 k3 o3 s3; have o3' := hide o3; have k3' := hide k3; have s3' := hide s3; clear o3 k3 s3)
    obtain ⟨q0, q1, q2, q3, q4, q5⟩ := blk_six k3'.out
    refine bodyPost_ret (v := .tuple #[.agg #[.int .i64 v.kind, .int .i64 v.half, .string v.text, .slice la v.list.length lc, .slice ka v.keys.length kc, .slice va v.vals.length vc], .bool true]) (by simp [results, Tryz.results45, go_sem, q0, q1, q2, q3, q4, q5]) rfl ⟨_, rfl, b2.out.trans (o3'.out.below (by intro k hk; omega) b2.out.size), ?_⟩
    refine JP.keep (fun p hp => ?_) (fun b hb => ⟨by have := hb.1; omega, by have := hb.2; rw [s3'.out]; exact this⟩) _ _ _ hr'.out
    have hp1 := hp.1
    have hp2 := hp.2
    exact World.cell?_of_block (o3'.out.block _ hp2 (by intro e; omega))
end Go.Proofs.YtbnbemacljjimaaGreatDoor

namespace Go.Proofs.YtbnbemacljjimaaGreatDoor
open Go.RowKit
set_option linter.unusedVariables false

/-- What is no string. -/
def NoStr (x : Value) : Prop := ∀ W : World, (Instr.typeAssert x 20 9 true).run Tryz.prog W = .ok (.tuple #[.string ByteArray.empty, .bool false]) W

theorem GAt.nostr {w : World} {lo n : Nat} {x : Value} {v : JV} (h : GAt w lo n x v) (hk : ¬ v.kind = 4) : NoStr x := by
  intro W
  cases n with
  | zero => exact absurd h (fun h => h)
  | succ n =>
    rcases h with h | h | h | h | h | h | h | h
    · rw [h.2]; exact as_nil_str W
    · rw [h.2]; exact as_bool_str _ W
    · rw [h.2]; exact as_bool_str _ W
    · rw [h.2.2]; exact as_int_str _ W
    · rw [h.2.2]; exact as_float_str _ W
    · exact absurd h.1 hk
    · obtain ⟨-, b, o, c, h, -⟩ := h
      rw [h]; exact as_list_str _ W
    · obtain ⟨-, b, ents, h, -⟩ := h
      rw [h]; exact as_map_str _ W

set_option maxHeartbeats 1000000 in
set_option maxRecDepth 100000 in
theorem result_err (w : World) (v : Value) :
    Calls Tryz.prog 23 #[.iface 136 v] w fun e w' => e = .returned (.agg #[.int .i64 0, .int .i64 0, .string ⟨#[]⟩, .slice none 0 0, .slice none 0 0, .slice none 0 0, .int .i64 1]) ∧ Below w.heap.size w w' := by
  go_enter Tryz.func23, Tryz.ntmps23
  go_wp2
  exact bodyPost_ret (v := .agg #[.int .i64 0, .int .i64 0, .string ⟨#[]⟩, .slice none 0 0, .slice none 0 0, .slice none 0 0, .int .i64 1]) (by simp [results, Tryz.results23, go_sem]) rfl ⟨rfl, (Below.refl _ _).alloc (Nat.le_refl _) _⟩

/-- A number as plain data. -/
def numJ (h : Int) : JV := .mk 3 h ⟨#[]⟩ [] [] []
/-- Nothing. -/
def zeroJ : JV := .mk 0 0 ⟨#[]⟩ [] [] []

theorem zero_jat (w : World) (B n : Nat) : JAt w B (n + 1) (.agg #[.int .i64 0, .int .i64 0, .string ⟨#[]⟩, .slice none 0 0, .slice none 0 0, .slice none 0 0]) zeroJ :=
  JP.jat (n + 1) (P := (· < B)) (fun _ h => h) (JP.leaf (v := zeroJ) rfl rfl rfl (by decide) (by decide) (by decide))
theorem num_jat (w : World) (B n : Nat) (h : Int) (hh : -9223372036854775808 ≤ h ∧ h ≤ 9223372036854775807) : JAt w B (n + 1) (.agg #[.int .i64 3, .int .i64 h, .string ⟨#[]⟩, .slice none 0 0, .slice none 0 0, .slice none 0 0]) (numJ h) :=
  JP.jat (n + 1) (P := (· < B)) (fun _ h => h) (JP.leaf (v := numJ h) rfl rfl rfl (by show (⟨#[]⟩ : ByteArray).size ≤ 9223372036854775807; decide) (by show (-9223372036854775808 : Int) ≤ 3 ∧ (3 : Int) ≤ 9223372036854775807; decide) hh)

/-- An answer: the value, the way it ended. -/
def ResAt (w : World) (B n : Nat) (r : Value) (v : JV) (z : Int) : Prop := ∃ c0 c1 c2 c3 c4 c5, r = .agg #[c0, c1, c2, c3, c4, c5, .int .i64 z] ∧ JAt w B (n + 1) (.agg #[c0, c1, c2, c3, c4, c5]) v

theorem ResAt.keep {w w' : World} {B B' n : Nat} {r : Value} {v : JV} {z : Int} (hk : ∀ p : Addr, p.block < B → w'.cell? p = w.cell? p) (hB : B ≤ B') (h : ResAt w B n r v z) : ResAt w' B' n r v z := by
  obtain ⟨c0, c1, c2, c3, c4, c5, rfl, h⟩ := h
  exact ⟨_, _, _, _, _, _, rfl, JAt.keep hk hB _ _ _ h⟩

theorem num_gat (w : World) (lo n : Nat) (k : Int) : GAt w lo (n + 1) (.iface 3 (.int .i64 k)) (numJ (2 * k)) :=
  Or.inr (Or.inr (Or.inr (Or.inl ⟨rfl, Int.mul_tmod_right 2 k, by show _ = Value.iface _ (.int .i64 ((2 * k).tdiv 2)); rw [Int.mul_tdiv_cancel_left k (by decide)]⟩)))

theorem num_fg (w : World) (n : Nat) (k : Int) (h : -1000000000000000000 ≤ k ∧ k ≤ 1000000000000000000) : FGat (n + 1) w (.iface 3 (.int .i64 k)) (numJ (2 * k)) := by
  refine (fromGo_int w k h).mono ?_
  rintro e w' ⟨rfl, hb⟩
  exact ⟨_, rfl, hb, JP.leaf (v := numJ (2 * k)) rfl rfl rfl (by show (⟨#[]⟩ : ByteArray).size ≤ 9223372036854775807; decide) (by show (-9223372036854775808 : Int) ≤ 3 ∧ (3 : Int) ≤ 9223372036854775807; decide) (by show -9223372036854775808 ≤ 2 * k ∧ 2 * k ≤ 9223372036854775807; omega)⟩

/-- An answer's block, and the world behind the call of a door. -/
theorem door_end {n : Nat} {w W2 W3 : World} {v : JV} {z : Int} {lo : Nat} {c0 c1 c2 c3 c4 c5 : Value} (hlo : w.heap.size < lo) (b2 : Below w.heap.size w W2) (hr : JP W2 (Mid lo W2.heap.size) (n + 1) (.agg #[c0, c1, c2, c3, c4, c5]) v)
    (o3 : Only (· = w.heap.size + 1) W2 W3) (s3 : W3.heap.size = W2.heap.size) (hlo2 : w.heap.size + 1 < lo) : Below w.heap.size w W3 ∧ ResAt W3 W3.heap.size n (.agg #[c0, c1, c2, c3, c4, c5, .int .i64 z]) v z := by
  refine ⟨b2.trans (o3.below (by intro k hk; omega) b2.size), _, _, _, _, _, _, rfl, ?_⟩
  refine JP.jat (n + 1) (P := Mid lo W2.heap.size) (fun b hb => by have := hb.2; omega) ?_
  refine JP.keep (fun p hp => ?_) (fun b hb => hb) _ _ _ hr
  have hp1 := hp.1
  have hp2 := hp.2
  exact World.cell?_of_block (o3.block _ hp2 (by intro e; omega))

end Go.Proofs.YtbnbemacljjimaaGreatDoor

namespace Go.Proofs.YtbnbemacljjimaaGreatDoor
open Go.RowKit
set_option linter.unusedVariables false

theorem zero_say (n : Nat) : Say (n + 1) zeroJ :=
  ⟨by decide, Or.inr rfl, Or.inr (by show (⟨#[]⟩ : ByteArray).toList = []; rw [ByteArray.toList_eq]), Or.inr rfl, Or.inr rfl, rfl, by decide, by decide, by decide, by decide, by intro x hx; exact absurd hx (List.not_mem_nil), by intro i a b h; simp [zeroJ, JV.keys] at h, by intro x hx; exact absurd hx (List.not_mem_nil), by intro x hx; exact absurd hx (List.not_mem_nil), by show (⟨#[]⟩ : ByteArray).size ≤ 9223372036854775807; decide⟩

theorem num_say (n : Nat) (h : Int) (h1 : -18014398509481984 ≤ h ∧ h ≤ 18014398509481984) (h2 : h.tmod 2 = 0 ∨ -9007199254740992 < h ∧ h < 9007199254740992) : Say (n + 1) (numJ h) :=
  ⟨by show (0 : Int) ≤ 3 ∧ (3 : Int) ≤ 6; decide, Or.inl rfl, Or.inr (by show (⟨#[]⟩ : ByteArray).toList = []; rw [ByteArray.toList_eq]), Or.inr rfl, Or.inr rfl, rfl, h1, h2, Nat.zero_le _, Nat.zero_le _, by intro x hx; exact absurd hx (List.not_mem_nil), by intro i a b h; simp [numJ, JV.keys] at h, by intro x hx; exact absurd hx (List.not_mem_nil), by intro x hx; exact absurd hx (List.not_mem_nil), by show (⟨#[]⟩ : ByteArray).size ≤ 9223372036854775807; decide⟩

end Go.Proofs.YtbnbemacljjimaaGreatDoor

namespace Go.Proofs.YtbnbemacljjimaaGreatDoor
open Go.RowKit
set_option linter.unusedVariables false

theorem Tabs.more {w : World} {B B' : Nat} (h : Tabs w B) (hB : B ≤ B') : Tabs w B' := ⟨h.1, by have := h.2.1; omega, by have := h.2.2; omega⟩

/-- One value in a block of its own, as a row of one. -/
theorem one_row {w : World} {g B n : Nat} {v : JV} {t : TypeId} {c0 c1 c2 c3 c4 c5 : Value} (hb : Blk w g t #[c0, c1, c2, c3, c4, c5]) (hg : g < B) (hx : JAt w B n (.agg #[c0, c1, c2, c3, c4, c5]) v) :
    VecAt (JAt w B n) w B (some ⟨g, 0, none⟩) [v] := by
  intro _
  refine ⟨g, 0, rfl, hg, fun i y hy => ?_⟩
  rcases i with _ | i
  · have e : v = y := by simpa using hy
    subst e
    exact ⟨c0, c1, c2, c3, c4, c5, hb.cell 0, hb.cell 1, hb.cell 2, hb.cell 3, hb.cell 4, hb.cell 5, hx⟩
  · simp at hy

theorem below_undrew {B : Nat} {w w' : World} (h : Below B w.drew w') : Below B w w' := (Below.refl _ _).drew.trans h

theorem ResAt.shape {w : World} {B n : Nat} {r : Value} {v : JV} {z : Int} (h : ResAt w B n r v z) : ∃ la lc ka kc va vc, r = .agg #[.int .i64 v.kind, .int .i64 v.half, .string v.text, .slice la v.list.length lc, .slice ka v.keys.length kc, .slice va v.vals.length vc, .int .i64 z] := by
  obtain ⟨c0, c1, c2, c3, c4, c5, rfl, h⟩ := h
  obtain ⟨la, lc, ka, kc, va, vc, e, -⟩ := h
  simp at e
  obtain ⟨rfl, rfl, rfl, rfl, rfl, rfl⟩ := e
  exact ⟨_, _, _, _, _, _, rfl⟩

end Go.Proofs.YtbnbemacljjimaaGreatDoor

namespace Go.Proofs.YtbnbemacljjimaaGreatDoor
open Go.ChangeShapes Go.WideShapes Go.ChangeAt Go.RowKit Go.Deep
set_option linter.unusedVariables false

theorem cellsVal : Tryz.prog.cellsOf 26 = 6 := by kernel_rfl
theorem cellsStr : Tryz.prog.cellsOf 9 = 1 := by kernel_rfl

theorem add_spot {W : World} {a : Addr} {i : Nat} {v : Value} (h : W.cell? (a.add i) = some v) : a.add i = ⟨a.block, a.off + i, none⟩ := by
  have hs := World.cell?_spot h
  unfold Addr.add at hs ⊢
  split
  · rename_i hi
    subst hi
    rw [if_pos rfl] at hs
    cases a; simp_all
  · rfl

section
variable {H : Type} {P : Program}
theorem mem_weightsAll {e : TypeId} {d : DataW H} {k : Nat} (hk : k ∈ d.weights P e) : ∀ (l : List (DataW H)), d ∈ l → k ∈ DataW.weightsAll P e l
  | [], h => absurd h List.not_mem_nil
  | x :: l, h => by
    rw [DataW.weightsAll, List.mem_append]
    rcases List.mem_cons.1 h with rfl | h
    · exact Or.inl hk
    · exact Or.inr (mem_weightsAll hk l h)
theorem mem_weightsEach {t : TypeId} {d : DataW H} {k : Nat} (hk : k ∈ d.weights P t) : ∀ (j : Nat) (ts : List TypeId) (l : List (DataW H)), ts[j]? = some t → l[j]? = some d → k ∈ DataW.weightsEach P ts l
  | _, [], _, h, _ => by simp at h
  | _, _ :: _, [], _, h => by simp at h
  | 0, a :: ts, x :: l, h, h' => by
    simp at h h'
    subst h h'
    rw [DataW.weightsEach, List.mem_append]
    exact Or.inl hk
  | j + 1, a :: ts, x :: l, h, h' => by
    rw [DataW.weightsEach, List.mem_append]
    exact Or.inr (mem_weightsEach hk j ts l (by simpa using h) (by simpa using h'))
/-- All that a datum weighs is within the form's reach. -/
def Wt (P : Program) (t : TypeId) (d : DataW H) : Prop := ∀ k ∈ d.weights P t, k ≤ 140737488351232
theorem Wt.elem {t e : TypeId} {elems spare : List (DataW H)} (h : Wt P t (.slice elems spare)) (ht : P.underlying t = some (.slice e)) {d : DataW H} (hd : d ∈ elems) : Wt P e d := by
  intro k hk
  refine h k ?_
  rw [DataW.weights, ht]
  exact List.mem_cons_of_mem _ (List.mem_append.2 (Or.inl (mem_weightsAll hk _ hd)))
theorem Wt.part {t : TypeId} {fs : Array Field} {parts : List (DataW H)} (h : Wt P t (.agg parts)) (ht : P.underlying t = some (.struct fs)) {j : Nat} {f : Field} {d : DataW H} (hf : fs[j]? = some f) (hd : parts[j]? = some d) : Wt P f.type d := by
  intro k hk
  refine h k ?_
  rw [DataW.weights, ht]
  exact mem_weightsEach hk j _ _ (by simp [hf]) hd
theorem Wt.str {t : TypeId} {l : List UInt8} (h : Wt P t (.lit (.string l) : DataW H)) : l.length ≤ 140737488351232 := h _ (by rw [DataW.weights]; exact List.mem_singleton.2 rfl)
end

section
variable {H : Type} {enc : TypeId × Value → H} {W : World}
abbrev Tr (enc : TypeId × Value → H) (W : World) (n : Nat) (t : TypeId) (c : Value) (y : DataW H × List MemPlace) : Prop := DataW.trod enc Tryz.prog W 0 (fun _ => true) true n t [c] = some y

set_option maxRecDepth 100000 in
theorem opened_strs {n : Nat} {c : Value} {y : DataW H × List MemPlace} (h : Tr enc W n 24 c y) (hw : Wt Tryz.prog 24 y.1) :
    ∃ (A : Option Addr) (xs : List ByteArray) (cap : Nat), c = .slice A xs.length cap ∧ xs.length ≤ cap ∧ cap ≤ 9223372036854775807 ∧ StrsAt W W.heap.size A xs ∧ ∀ s ∈ xs, s.size ≤ 140737488351232 := by
  rcases open_slice1 Tryz.underlying24 cellsStr h with ⟨hcs, _⟩ | ⟨a, len, cap, m, n', V, D, Pl, hcs, hb, hl, hm, hmm, hx, hi⟩
  · simp at hcs
    exact ⟨none, [], 0, hcs, Nat.le_refl _, by omega, ⟨by simp, fun h => absurd h (by simp)⟩, by simp⟩
  · simp at hcs
    simp only [if_true] at hmm
    subst hmm
    have key : ∀ i, i < len → ∃ s : ByteArray, W.cell? (a.add i) = some (.string s) ∧ s.size ≤ 9223372036854775807 ∧ s.size ≤ 140737488351232 := by
      intro i hil
      obtain ⟨h1, h2⟩ := hi i (by omega)
      obtain ⟨s, e, hd, hsz⟩ := DataW.trod_string Tryz.underlying9 h2
      simp at e hd
      rw [e] at h1
      have hwi : Wt Tryz.prog 9 (D i) := (hx ▸ hw).elem Tryz.underlying24 (List.mem_map.2 ⟨i, List.mem_range.2 hil, rfl⟩)
      rw [hd.1] at hwi
      exact ⟨s, h1, by unfold maxLen at hsz; omega, by simpa using hwi.str⟩
    obtain ⟨f, hfn⟩ := choose_lt key
    refine ⟨some a, (List.range len).map f, m, by simpa using hcs, by simpa using hl, by unfold maxLen at hm; omega, ⟨fun s hs => ?_, fun hpos => ?_⟩, fun s hs => ?_⟩
    · obtain ⟨i, hi, rfl⟩ := List.mem_map.1 hs
      exact (hfn i (by simpa using hi)).2.1
    · have hpos' : 0 < len := by simpa using hpos
      have h00 := (hfn 0 hpos').1
      have hspot := add_spot h00
      have ha : a = ⟨a.block, a.off, none⟩ := by simpa [Addr.add] using hspot
      have hbl : a.block < W.heap.size := by
        have h := h00
        rw [hspot] at h
        exact World.block_lt_of_cell? (a := ⟨a.block, a.off + 0, none⟩) _ h
      refine ⟨a.block, a.off, by rw [← ha], hbl, fun j y hy => ?_⟩
      have hj : j < len := by have := (List.getElem?_eq_some_iff.1 hy).1; simpa using this
      have hyf : f j = y := by simpa [hj] using hy
      have c0 := (hfn j hj).1
      rw [add_spot c0, hyf] at c0
      exact c0
    · obtain ⟨i, hi, rfl⟩ := List.mem_map.1 hs
      exact (hfn i (by simpa using hi)).2.2

instance : Inhabited JV := ⟨zeroJ⟩

def OpenAt (W : World) (n : Nat) (c0 c1 c2 c3 c4 c5 : Value) : Prop := ∃ v, JAt W W.heap.size n (.agg #[c0, c1, c2, c3, c4, c5]) v ∧ Light n v

set_option maxRecDepth 100000 in
theorem opened_vals (n : Nat) (ih : ∀ (m0 m1 m2 m3 m4 m5 : Nat) (c0 c1 c2 c3 c4 c5 : Value) (y0 y1 y2 y3 y4 y5 : DataW H × List MemPlace), Tr enc W m0 22 c0 y0 → Tr enc W m1 3 c1 y1 → Tr enc W m2 9 c2 y2 → Tr enc W m3 23 c3 y3 → Tr enc W m4 24 c4 y4 → Tr enc W m5 23 c5 y5 → Wt Tryz.prog 9 y2.1 → Wt Tryz.prog 23 y3.1 → Wt Tryz.prog 24 y4.1 → Wt Tryz.prog 23 y5.1 → OpenAt W n c0 c1 c2 c3 c4 c5)
    {m : Nat} {c : Value} {y : DataW H × List MemPlace} (h : Tr enc W m 23 c y) (hw : Wt Tryz.prog 23 y.1) :
    ∃ (A : Option Addr) (xs : List JV) (cap : Nat), c = .slice A xs.length cap ∧ xs.length ≤ cap ∧ cap ≤ 9223372036854775807 ∧ VecAt (JAt W W.heap.size n) W W.heap.size A xs ∧ ∀ x ∈ xs, Light n x := by
  rcases open_slice_fields Tryz.underlying23 Tryz.underlying26 (by kernel_rfl) cellsVal h with ⟨hcs, _⟩ | ⟨a, len, cap, m, D, Pl, hcs, hb, hl, hm, hmm, hx, hi⟩
  · simp at hcs
    exact ⟨none, [], 0, hcs, Nat.le_refl _, by omega, fun h => absurd h (by simp), by simp⟩
  · simp at hcs
    simp only [if_true] at hmm
    subst hmm
    have key : ∀ i, i < len → ∃ v : JV, ∃ c0 c1 c2 c3 c4 c5, W.cell? (a.add (i * 6)) = some c0 ∧ W.cell? (a.add (i * 6 + 1)) = some c1 ∧ W.cell? (a.add (i * 6 + 2)) = some c2 ∧ W.cell? (a.add (i * 6 + 3)) = some c3 ∧ W.cell? (a.add (i * 6 + 4)) = some c4 ∧ W.cell? (a.add (i * 6 + 5)) = some c5 ∧ JAt W W.heap.size n (.agg #[c0, c1, c2, c3, c4, c5]) v ∧ Light n v := by
      intro i hil
      obtain ⟨ys, n', hDi, _, _, hj⟩ := hi i (by omega)
      have hwi : Wt Tryz.prog 26 (D i) := (hx ▸ hw).elem Tryz.underlying23 (List.mem_map.2 ⟨i, List.mem_range.2 hil, rfl⟩)
      rw [hDi] at hwi
      obtain ⟨v0, y0, e0, s0, t0⟩ := hj 0 _ rfl
      obtain ⟨v1, y1, e1, s1, t1⟩ := hj 1 _ rfl
      obtain ⟨v2, y2, e2, s2, t2⟩ := hj 2 _ rfl
      obtain ⟨v3, y3, e3, s3, t3⟩ := hj 3 _ rfl
      obtain ⟨v4, y4, e4, s4, t4⟩ := hj 4 _ rfl
      obtain ⟨v5, y5, e5, s5, t5⟩ := hj 5 _ rfl
      have u := fun {j : Nat} {f : Field} {y : DataW H × List MemPlace} (hf : _) (hy : ys[j]? = some y) => hwi.part Tryz.underlying26 (j := j) (f := f) hf (show (ys.map (·.1))[j]? = some y.1 by rw [List.getElem?_map, hy]; rfl)
      obtain ⟨v, hv⟩ := ih _ _ _ _ _ _ _ _ _ _ _ _ _ _ _ _ _ _ t0 t1 t2 t3 t4 t5 (u (j := 2) rfl s2) (u (j := 3) rfl s3) (u (j := 4) rfl s4) (u (j := 5) rfl s5)
      exact ⟨v, v0, v1, v2, v3, v4, v5, e0, e1, e2, e3, e4, e5, hv⟩
    obtain ⟨f, hfn⟩ := choose_lt key
    refine ⟨some a, (List.range len).map f, m, by simpa using hcs, by simpa using hl, by unfold maxLen at hm; omega, fun hpos => ?_, fun x hx => ?_⟩
    rotate_left
    · obtain ⟨i, hi, rfl⟩ := List.mem_map.1 hx
      obtain ⟨_, _, _, _, _, _, _, _, _, _, _, _, _, hl⟩ := hfn i (by simpa using hi)
      exact hl
    have hpos' : 0 < len := by simpa using hpos
    obtain ⟨z0, _, _, _, _, _, h00, _⟩ := hfn 0 hpos'
    have hspot := add_spot h00
    simp only [Nat.zero_mul] at h00 hspot
    have ha : a = ⟨a.block, a.off, none⟩ := by simpa [Addr.add] using hspot
    have hbl : a.block < W.heap.size := by
      have h := h00
      rw [hspot] at h
      exact World.block_lt_of_cell? (a := ⟨a.block, a.off + 0, none⟩) _ h
    refine ⟨a.block, a.off, by rw [← ha], hbl, fun j y hy => ?_⟩
    have hj : j < len := by have := (List.getElem?_eq_some_iff.1 hy).1; simpa using this
    have hyf : f j = y := by simpa [hj] using hy
    obtain ⟨c0, c1, c2, c3, c4, c5, e0, e1, e2, e3, e4, e5, hv, -⟩ := hfn j hj
    rw [hyf] at hv
    rw [add_spot e0] at e0
    rw [add_spot e1] at e1
    rw [add_spot e2] at e2
    rw [add_spot e3] at e3
    rw [add_spot e4] at e4
    rw [add_spot e5] at e5
    exact ⟨c0, c1, c2, c3, c4, c5, e0, e1, e2, e3, e4, e5, hv⟩

theorem opened : ∀ (n m0 m1 m2 m3 m4 m5 : Nat) (c0 c1 c2 c3 c4 c5 : Value) (y0 y1 y2 y3 y4 y5 : DataW H × List MemPlace), Tr enc W m0 22 c0 y0 → Tr enc W m1 3 c1 y1 → Tr enc W m2 9 c2 y2 → Tr enc W m3 23 c3 y3 → Tr enc W m4 24 c4 y4 → Tr enc W m5 23 c5 y5 → Wt Tryz.prog 9 y2.1 → Wt Tryz.prog 23 y3.1 → Wt Tryz.prog 24 y4.1 → Wt Tryz.prog 23 y5.1 → OpenAt W n c0 c1 c2 c3 c4 c5
  | 0 => fun _ _ _ _ _ _ _ _ _ _ _ _ _ _ _ _ _ _ _ _ _ _ _ _ _ _ _ _ => ⟨zeroJ, trivial, trivial⟩
  | n + 1 => by
    intro m0 m1 m2 m3 m4 m5 c0 c1 c2 c3 c4 c5 y0 y1 y2 y3 y4 y5 h0 h1 h2 h3 h4 h5 z2 z3 z4 z5
    obtain ⟨k, e0, -, w0⟩ := DataW.trod_int Tryz.underlying22 h0
    obtain ⟨q, e1, -, w1⟩ := DataW.trod_int Tryz.underlying3 h1
    obtain ⟨s, e2, hd, w2⟩ := DataW.trod_string Tryz.underlying9 h2
    simp at e0 e1 e2
    rw [hd] at z2
    have z2' : s.size ≤ 140737488351232 := by simpa using z2.str
    subst e0 e1 e2
    obtain ⟨la, ls, lc, rfl, l1, l2, l3, l4⟩ := opened_vals n (fun m0 m1 m2 m3 m4 m5 c0 c1 c2 c3 c4 c5 y0 y1 y2 y3 y4 y5 => opened n m0 m1 m2 m3 m4 m5 c0 c1 c2 c3 c4 c5 y0 y1 y2 y3 y4 y5) h3 z3
    obtain ⟨ka, ks, kc, rfl, k1, k2, k3, k4⟩ := opened_strs h4 z4
    obtain ⟨va, vs, vc, rfl, v1, v2, v3, v4⟩ := opened_vals n (fun m0 m1 m2 m3 m4 m5 c0 c1 c2 c3 c4 c5 y0 y1 y2 y3 y4 y5 => opened n m0 m1 m2 m3 m4 m5 c0 c1 c2 c3 c4 c5 y0 y1 y2 y3 y4 y5) h5 z5
    have b0 : -9223372036854775808 ≤ k ∧ k ≤ 9223372036854775807 := by simpa [Lit.wf, IntKind.min, IntKind.max, IntKind.signed, IntKind.bits] using w0
    have b1 : -9223372036854775808 ≤ q ∧ q ≤ 9223372036854775807 := by simpa [Lit.wf, IntKind.min, IntKind.max, IntKind.signed, IntKind.bits] using w1
    exact ⟨.mk k q s ls ks vs, ⟨la, lc, ka, kc, va, vc, rfl, l1, k1, v1, l2, k2, v2, by unfold maxLen at w2; show s.size ≤ _; omega, b0, b1, l3, k3, v3⟩, z2', l4, k4, v4⟩
end

end Go.Proofs.YtbnbemacljjimaaGreatDoor

namespace Go.Proofs.YtbnbemacljjimaaGreatDoor
open Go.RowKit Go.Lib
set_option linter.unusedVariables false

/-- A query without text, names, patterns and functions. -/
inductive QV where
  | mk (op : ByteArray) (val : JV) (kids : List QV)
def QV.op : QV → ByteArray | .mk o _ _ => o
def QV.val : QV → JV | .mk _ v _ => v
def QV.kids : QV → List QV | .mk _ _ l => l

theorem QV.small {q k : QV} {i : Nat} (h : q.kids[i]? = some k) : SizeOf.sizeOf k < SizeOf.sizeOf q := by
  have hm := List.mem_of_getElem? h
  cases q with
  | mk o v l =>
    have h1 := List.sizeOf_lt_of_mem hm
    simp only [QV.kids] at h1
    rw [QV.mk.sizeOf_spec]
    omega

theorem QV.ind {P : QV → Prop} (h : ∀ q, (∀ k ∈ q.kids, P k) → P q) : ∀ q, P q := by
  intro q
  refine h q (fun k hk => ?_)
  have hs : SizeOf.sizeOf k < SizeOf.sizeOf q := by
    obtain ⟨i, hi⟩ := List.getElem?_of_mem hk
    exact QV.small hi
  exact QV.ind h k
termination_by q => SizeOf.sizeOf q

/-- A value without parts, as six cells. -/
def Cln (v : JV) (lc kc vc : Nat) : Prop := v.list = [] ∧ v.keys = [] ∧ v.vals = [] ∧ lc ≤ 9223372036854775807 ∧ kc ≤ 9223372036854775807 ∧ vc ≤ 9223372036854775807 ∧ v.text.size ≤ 9223372036854775807 ∧
  (-9223372036854775808 ≤ v.kind ∧ v.kind ≤ 9223372036854775807) ∧ (-9223372036854775808 ≤ v.half ∧ v.half ≤ 9223372036854775807)
theorem Cln.at {v : JV} {lc kc vc : Nat} (h : Cln v lc kc vc) (w : World) (B n : Nat) (la ka va : Option Addr) : JAt w B (n + 1) (.agg #[.int .i64 v.kind, .int .i64 v.half, .string v.text, .slice la 0 lc, .slice ka 0 kc, .slice va 0 vc]) v := by
  obtain ⟨h1, h2, h3, h4, h5, h6, h7, h8, h9⟩ := h
  refine ⟨la, lc, ka, kc, va, vc, by rw [h1, h2, h3]; rfl, by rw [h1]; exact Nat.zero_le _, by rw [h2]; exact Nat.zero_le _, by rw [h3]; exact Nat.zero_le _, h4, h5, h6, h7, h8, h9, ?_, ?_, ?_⟩
  · rw [h1]
    exact fun hh => absurd hh (by simp)
  · rw [h2]
    exact ⟨fun s hs => by simp at hs, fun hh => absurd hh (by simp)⟩
  · rw [h3]
    exact fun hh => absurd hh (by simp)

/-- The twelve cells x are query q, whose rows lie in blocks of P. -/
def QAt (w : World) (P : Nat → Prop) (x : List Value) (q : QV) : Prop :=
  ∃ la lc ka kc va vc A c, x = [.string q.op, .string ⟨#[]⟩, .int .i64 q.val.kind, .int .i64 q.val.half, .string q.val.text, .slice la 0 lc, .slice ka 0 kc, .slice va 0 vc,
      .slice A q.kids.length c, .slice none 0 0, .slice none 0 0, .slice none 0 0] ∧ Cln q.val lc kc vc ∧
    q.op.size ≤ 100 ∧ q.kids.length ≤ c ∧ c ≤ 9223372036854775807 ∧
    (0 < q.kids.length → ∃ b o, A = some ⟨b, o, none⟩ ∧ P b ∧ b < w.heap.size ∧ ∀ i k, (h : q.kids[i]? = some k) → ∃ y, QAt w P y k ∧ ∀ j u, y[j]? = some u → w.cell? ⟨b, o + i * 12 + j, none⟩ = some u)
termination_by SizeOf.sizeOf q
decreasing_by exact QV.small h

/-- A row of queries. -/
def VecQ (w : World) (P : Nat → Prop) (A : Option Addr) (qs : List QV) : Prop :=
  0 < qs.length → ∃ b o, A = some ⟨b, o, none⟩ ∧ P b ∧ b < w.heap.size ∧ ∀ i k, qs[i]? = some k → ∃ y, QAt w P y k ∧ ∀ j u, y[j]? = some u → w.cell? ⟨b, o + i * 12 + j, none⟩ = some u

theorem QAt.parts {w : World} {P : Nat → Prop} {x : List Value} {q : QV} (h : QAt w P x q) : ∃ la lc ka kc va vc A c, x = [.string q.op, .string ⟨#[]⟩, .int .i64 q.val.kind, .int .i64 q.val.half, .string q.val.text, .slice la 0 lc, .slice ka 0 kc, .slice va 0 vc,
      .slice A q.kids.length c, .slice none 0 0, .slice none 0 0, .slice none 0 0] ∧ Cln q.val lc kc vc ∧
    q.op.size ≤ 100 ∧ q.kids.length ≤ c ∧ c ≤ 9223372036854775807 ∧ VecQ w P A q.kids := by
  rw [QAt] at h
  exact h

theorem QAt.make {w : World} {P : Nat → Prop} {q : QV} {la lc ka kc va vc A c} (h1 : Cln q.val lc kc vc)
    (h2 : q.op.size ≤ 100) (h3 : q.kids.length ≤ c) (h4 : c ≤ 9223372036854775807) (h5 : VecQ w P A q.kids) :
    QAt w P [.string q.op, .string ⟨#[]⟩, .int .i64 q.val.kind, .int .i64 q.val.half, .string q.val.text, .slice la 0 lc, .slice ka 0 kc, .slice va 0 vc,
      .slice A q.kids.length c, .slice none 0 0, .slice none 0 0, .slice none 0 0] q := by
  rw [QAt]
  exact ⟨la, lc, ka, kc, va, vc, A, c, rfl, h1, h2, h3, h4, h5⟩

theorem QAt.keep {w w' : World} {P P' : Nat → Prop} (hk : ∀ p : Addr, P p.block → p.block < w.heap.size → w'.cell? p = w.cell? p) (hs : w.heap.size ≤ w'.heap.size) (hP : ∀ b, b < w.heap.size → P b → P' b) : ∀ (q : QV) (x : List Value), QAt w P x q → QAt w' P' x q := by
  refine QV.ind (fun q ih x h => ?_)
  obtain ⟨la, lc, ka, kc, va, vc, A, c, rfl, h1, h2, h3, h4, h5⟩ := h.parts
  refine QAt.make h1 h2 h3 h4 (fun hl => ?_)
  obtain ⟨b, o, rfl, hb, hb2, hc⟩ := h5 hl
  refine ⟨b, o, rfl, hP b hb2 hb, by omega, fun i k hi => ?_⟩
  obtain ⟨y, hy, hcell⟩ := hc i k hi
  exact ⟨y, ih k (List.mem_of_getElem? hi) y hy, fun j u hu => (hk _ hb hb2).trans (hcell j u hu)⟩

theorem only_cell {Q : Nat → Prop} {w w' : World} (ho : Only Q w w') (p : Addr) (hp : ¬ Q p.block) (hs : p.block < w.heap.size) : w'.cell? p = w.cell? p := by
  have h := ho.block _ hs hp
  unfold World.cell?
  rw [h]

theorem QAt.only {w w' : World} {P P' Q : Nat → Prop} {q : QV} {x : List Value} (h : QAt w P x q) (ho : Only Q w w') (hn : ∀ b, P b → b < w.heap.size → ¬ Q b) (hP : ∀ b, b < w.heap.size → P b → P' b) : QAt w' P' x q :=
  QAt.keep (fun p h1 h2 => only_cell ho p (hn _ h1 h2) h2) ho.size hP q x h
theorem VecQ.keep {w w' : World} {P P' : Nat → Prop} {A : Option Addr} {qs : List QV} (h : VecQ w P A qs) (hk : ∀ p : Addr, P p.block → p.block < w.heap.size → w'.cell? p = w.cell? p) (hs : w.heap.size ≤ w'.heap.size) (hP : ∀ b, b < w.heap.size → P b → P' b) : VecQ w' P' A qs := fun hl => by
  obtain ⟨b, o, rfl, hb, hb2, hc⟩ := h hl
  refine ⟨b, o, rfl, hP b hb2 hb, by omega, fun i k hi => ?_⟩
  obtain ⟨y, hy, hcell⟩ := hc i k hi
  exact ⟨y, hy.keep hk hs hP k, fun j u hu => (hk _ hb hb2).trans (hcell j u hu)⟩
theorem VecQ.only {w w' : World} {P P' Q : Nat → Prop} {A : Option Addr} {qs : List QV} (h : VecQ w P A qs) (ho : Only Q w w') (hn : ∀ b, P b → b < w.heap.size → ¬ Q b) (hP : ∀ b, b < w.heap.size → P b → P' b) : VecQ w' P' A qs :=
  h.keep (fun p h1 h2 => only_cell ho p (hn _ h1 h2) h2) ho.size hP

theorem QAt.len {w : World} {P : Nat → Prop} {x : List Value} {q : QV} (h : QAt w P x q) : x.length = 12 := by
  obtain ⟨la, lc, ka, kc, va, vc, A, c, rfl, -⟩ := h.parts
  rfl
theorem QAt.sz {w : World} {P : Nat → Prop} {x : List Value} {q : QV} (h : QAt w P x q) : x.toArray.size = 12 := by
  rw [List.size_toArray]
  exact h.len
theorem QAt.ones {w : World} {P : Nat → Prop} {x : List Value} {q : QV} (h : QAt w P x q) : ∀ z ∈ x, z.oneCell' = true := by
  obtain ⟨la, lc, ka, kc, va, vc, A, c, rfl, -⟩ := h.parts
  intro z hz
  simp at hz
  rcases hz with rfl | rfl | rfl | rfl | rfl | rfl | rfl | rfl | rfl | rfl <;> rfl
theorem QAt.all {w : World} {P : Nat → Prop} {x : List Value} {q : QV} (h : QAt w P x q) : x.toArray.all (·.oneCell') = true := by
  rw [List.all_toArray, List.all_eq_true]
  exact h.ones

/-- The cells xs are these queries, one behind another. -/
def QRow (w : World) (P : Nat → Prop) : List Value → List QV → Prop
  | xs, [] => xs = []
  | xs, q :: qs => ∃ y r, xs = y ++ r ∧ QAt w P y q ∧ QRow w P r qs

section
variable {w w' : World} {P P' : Nat → Prop}
theorem QRow.nil : QRow w P [] [] := rfl
theorem QRow.one {y : List Value} {q : QV} (h : QAt w P y q) : QRow w P y [q] := ⟨y, [], (List.append_nil y).symm, h, rfl⟩
theorem QRow.append : ∀ {xs ys : List Value} {qs ks : List QV}, QRow w P xs qs → QRow w P ys ks → QRow w P (xs ++ ys) (qs ++ ks)
  | xs, ys, [], ks, h, k => by
    cases h
    exact k
  | xs, ys, q :: qs, ks, h, k => by
    obtain ⟨y, r, rfl, h1, h2⟩ := h
    exact ⟨y, r ++ ys, by rw [List.append_assoc], h1, h2.append k⟩
theorem QRow.keep (hk : ∀ p : Addr, P p.block → p.block < w.heap.size → w'.cell? p = w.cell? p) (hs : w.heap.size ≤ w'.heap.size) (hP : ∀ b, b < w.heap.size → P b → P' b) : ∀ {xs : List Value} {qs : List QV}, QRow w P xs qs → QRow w' P' xs qs
  | xs, [], h => h
  | xs, q :: qs, h => by
    obtain ⟨y, r, rfl, h1, h2⟩ := h
    exact ⟨y, r, rfl, h1.keep hk hs hP q, h2.keep hk hs hP⟩
theorem QRow.only {Q : Nat → Prop} {xs : List Value} {qs : List QV} (h : QRow w P xs qs) (ho : Only Q w w') (hn : ∀ b, P b → b < w.heap.size → ¬ Q b) (hP : ∀ b, b < w.heap.size → P b → P' b) : QRow w' P' xs qs :=
  h.keep (fun p h1 h2 => only_cell ho p (hn _ h1 h2) h2) ho.size hP
theorem QRow.length : ∀ {xs : List Value} {qs : List QV}, QRow w P xs qs → xs.length = qs.length * 12
  | xs, [], h => by
    cases h
    rfl
  | xs, q :: qs, h => by
    obtain ⟨y, r, rfl, h1, h2⟩ := h
    rw [List.length_append, h1.len, h2.length, List.length_cons]
    omega
theorem QRow.ones : ∀ {xs : List Value} {qs : List QV}, QRow w P xs qs → ∀ z ∈ xs, z.oneCell' = true
  | xs, [], h, z, hz => by
    cases h
    cases hz
  | xs, q :: qs, h, z, hz => by
    obtain ⟨y, r, rfl, h1, h2⟩ := h
    rcases List.mem_append.1 hz with hz | hz
    · exact h1.ones z hz
    · exact h2.ones z hz
theorem QRow.get : ∀ {xs : List Value} {qs : List QV}, QRow w P xs qs → ∀ i k, qs[i]? = some k → ∃ y, QAt w P y k ∧ ∀ j u, y[j]? = some u → xs[i * 12 + j]? = some u
  | xs, [], h, i, k, hi => by simp at hi
  | xs, q :: qs, h, 0, k, hi => by
    obtain ⟨y, r, rfl, h1, h2⟩ := h
    simp at hi
    subst hi
    refine ⟨y, h1, fun j u hu => ?_⟩
    rw [Nat.zero_mul, Nat.zero_add, List.getElem?_append_left (List.getElem?_eq_some_iff.1 hu).1]
    exact hu
  | xs, q :: qs, h, i + 1, k, hi => by
    obtain ⟨y, r, rfl, h1, h2⟩ := h
    obtain ⟨z, hz, hc⟩ := h2.get i k (by simpa using hi)
    refine ⟨z, hz, fun j u hu => ?_⟩
    rw [List.getElem?_append_right (by rw [h1.len]; omega), h1.len, show (i + 1) * 12 + j - 12 = i * 12 + j by omega]
    exact hc j u hu
theorem QRow.take : ∀ {xs : List Value} {qs : List QV}, QRow w P xs qs → ∀ k, QRow w P (xs.take (k * 12)) (qs.take k)
  | xs, [], h, k => by
    cases h
    simp [QRow]
  | xs, q :: qs, h, 0 => by simp [QRow]
  | xs, q :: qs, h, k + 1 => by
    obtain ⟨y, r, rfl, h1, h2⟩ := h
    refine ⟨y, r.take (k * 12), ?_, h1, h2.take k⟩
    rw [List.take_append, List.take_of_length_le (by rw [h1.len]; omega), h1.len, show (k + 1) * 12 - 12 = k * 12 by omega]

/-- A row that is owned, as a row of queries. -/
theorem QRow.vec {base : Nat} {A : Option Addr} {c : Nat} {xs : List Value} {qs : List QV} (h : QRow w P xs qs) (ho : w.ownsRow base 41 12 (.slice A qs.length c) qs.length xs) (hB : ∀ g, base ≤ g → g < w.heap.size → P g) : VecQ w P A qs := by
  intro hl
  obtain ⟨g, cap, hv, hg, hlt⟩ := ho.form hl
  injection hv with hA
  subst hA
  refine ⟨g, 0, rfl, hB g (by omega) (by omega), by omega, fun i k hi => ?_⟩
  obtain ⟨y, hy, hc⟩ := h.get i k hi
  refine ⟨y, hy, fun j u hu => ?_⟩
  have hi' := (List.getElem?_eq_some_iff.1 hi).1
  have hj := (List.getElem?_eq_some_iff.1 hu).1
  rw [hy.len] at hj
  rw [Nat.zero_add, ho.cellAt (i * 12 + j) (by omega)]
  exact hc j u hu

/-- A block that holds queries. -/
theorem QRow.blk {g : Nat} {t : TypeId} {xs : List Value} {qs : List QV} (h : QRow w P xs qs) (hb : Blk w g t xs.toArray) (hg : P g) : VecQ w P (some ⟨g, 0, none⟩) qs := by
  intro hl
  refine ⟨g, 0, rfl, hg, hb.lt, fun i k hi => ?_⟩
  obtain ⟨y, hy, hc⟩ := h.get i k hi
  refine ⟨y, hy, fun j u hu => ?_⟩
  rw [Nat.zero_add, hb.cell]
  simpa using hc j u hu
end

/-- A row of queries, read as a row of cells. -/
theorem VecQ.list {w : World} {P : Nat → Prop} {A : Option Addr} {qs : List QV} (h : VecQ w P A qs) : ∃ xs, QRow w P xs qs ∧ Reads w w.heap.size 12 A qs.length xs := by
  rcases Nat.eq_zero_or_pos qs.length with h0 | h0
  · have : qs = [] := List.eq_nil_of_length_eq_zero h0
    subst this
    exact ⟨[], rfl, rfl, fun h => absurd h (by simp)⟩
  · obtain ⟨b, o, rfl, hp, hb, hc⟩ := h h0
    have : ∀ (ks : List QV) (d : Nat), (∀ i k, ks[i]? = some k → ∃ y, QAt w P y k ∧ ∀ j u, y[j]? = some u → w.cell? ⟨b, o + (d + i) * 12 + j, none⟩ = some u) →
        ∃ xs, QRow w P xs ks ∧ ∀ j u, xs[j]? = some u → w.cell? ⟨b, o + d * 12 + j, none⟩ = some u := by
      intro ks
      induction ks with
      | nil => exact fun d _ => ⟨[], rfl, fun j u hu => by simp at hu⟩
      | cons q ks ih =>
        intro d hd
        obtain ⟨y, hy, hyc⟩ := hd 0 q rfl
        obtain ⟨r, hr, hrc⟩ := ih (d + 1) (fun i k hi => by
          obtain ⟨z, hz, hzc⟩ := hd (i + 1) k (by simpa using hi)
          refine ⟨z, hz, fun j u hu => ?_⟩
          rw [show d + 1 + i = d + (i + 1) by omega]
          exact hzc j u hu)
        refine ⟨y ++ r, ⟨y, r, rfl, hy, hr⟩, fun j u hu => ?_⟩
        rcases Nat.lt_or_ge j 12 with hj | hj
        · rw [List.getElem?_append_left (by rw [hy.len]; exact hj)] at hu
          exact hyc j u hu
        · rw [List.getElem?_append_right (by rw [hy.len]; exact hj), hy.len] at hu
          have := hrc _ u hu
          rw [show o + (d + 1) * 12 + (j - 12) = o + d * 12 + j by omega] at this
          exact this
    obtain ⟨xs, h1, h2⟩ := this qs 0 (fun i k hi => by rw [Nat.zero_add]; exact hc i k hi)
    refine ⟨xs, h1, h1.length, fun _ => ⟨_, rfl, hb, fun j u hu => ?_⟩⟩
    have := h2 j u hu
    rw [Nat.zero_mul, Nat.add_zero] at this
    unfold Addr.add
    split
    · rename_i hj
      have : j = 0 := by simpa using hj
      subst this
      exact h2 0 u hu
    · exact this
end Go.Proofs.YtbnbemacljjimaaGreatDoor

namespace Go.Proofs.YtbnbemacljjimaaGreatDoor
open Go.RowKit Go.Lib
set_option linter.unusedVariables false

def opVal : ByteArray := ⟨#[118, 97, 108]⟩
def opNeg : ByteArray := ⟨#[110, 101, 103]⟩
def opList : ByteArray := ⟨#[108, 105, 115, 116]⟩
def opObj : ByteArray := ⟨#[111, 98, 106, 101, 99, 116]⟩
def opCom : ByteArray := ⟨#[44]⟩
/-- A value without parts. -/
def cleanJ (v : JV) : Prop := v.list = [] ∧ v.keys = [] ∧ v.vals = []
def txtJ (s : ByteArray) : JV := .mk 4 0 s [] [] []
def valQ (v : JV) : QV := .mk opVal v []
def ofQ (op : ByteArray) (l : List QV) : QV := .mk op (.mk 0 0 ⟨#[]⟩ [] [] []) l
/-- Commas that stand to the left. -/
def rqC : QV → List QV → QV
  | q, [] => q
  | q, x :: xs => rqC (ofQ opCom [q, x]) xs
/-- Commas that stand to the right. -/
def nqC : QV → List QV → QV
  | q, [] => q
  | q, x :: xs => ofQ opCom [q, nqC x xs]
/-- Keys and values in turn. -/
def kvQ : List ByteArray → List QV → List QV
  | k :: ks, x :: xs => valQ (txtJ k) :: x :: kvQ ks xs
  | _, _ => []
def listQ (C : QV → List QV → QV) : List QV → QV
  | [] => ofQ opList []
  | x :: xs => ofQ opList [C x xs]
/-- What is read of a value's text (rq: C = rqC), and its right form (C = nqC). -/
def jq (C : QV → List QV → QV) : Nat → JV → QV
  | 0, v => valQ v
  | n + 1, v => if v.kind = 3 ∧ v.half < 0 then ofQ opNeg [valQ (.mk 3 (-v.half) ⟨#[]⟩ [] [] [])] else if v.kind = 5 then listQ C (v.list.map (jq C n)) else if v.kind = 6 then ofQ opObj (kvQ v.keys (v.vals.map (jq C n))) else valQ v
abbrev rq := jq rqC
abbrev nq := jq nqC

theorem JV.ext' {v : JV} {k h : Int} {t : ByteArray} {l : List JV} {ks : List ByteArray} {vs : List JV} (e1 : v.kind = k) (e2 : v.half = h) (e3 : v.text = t) (e4 : v.list = l) (e5 : v.keys = ks) (e6 : v.vals = vs) : v = .mk k h t l ks vs := by
  cases v
  cases e1
  cases e2
  cases e3
  cases e4
  cases e5
  cases e6
  rfl
end Go.Proofs.YtbnbemacljjimaaGreatDoor
