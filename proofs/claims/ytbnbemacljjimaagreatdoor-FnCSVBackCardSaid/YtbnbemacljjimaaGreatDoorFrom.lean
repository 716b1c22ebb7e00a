/- fromGo at one depth more, out of what lists and maps give. -/
import Derived.Test.YtbnbemacljjimaaGreatDoorHalf
namespace Go.Proofs.YtbnbemacljjimaaGreatDoor
open Go.RowKit
set_option linter.unusedVariables false

theorem text_nil {s : ByteArray} (h : s.toList = []) : s = ⟨#[]⟩ := by
  rw [ByteArray.toList_eq] at h
  cases s with
  | mk d =>
    have : d = #[] := by simpa using h
    rw [this]

theorem JP.leaf {w : World} {P : Nat → Prop} {n : Nat} {v : JV} (hl : v.list = []) (hk : v.keys = []) (hv : v.vals = []) (ht : v.text.size ≤ 9223372036854775807)
    (h8 : -9223372036854775808 ≤ v.kind ∧ v.kind ≤ 9223372036854775807) (h9 : -9223372036854775808 ≤ v.half ∧ v.half ≤ 9223372036854775807) :
    JP w P (n + 1) (.agg #[.int .i64 v.kind, .int .i64 v.half, .string v.text, .slice none 0 0, .slice none 0 0, .slice none 0 0]) v := by
  refine ⟨none, 0, none, 0, none, 0, ?_, ?_, ?_, ?_, by omega, by omega, by omega, ht, h8, h9, ?_, ⟨?_, ?_⟩, ?_⟩
  · rw [hl, hk, hv]; rfl
  · rw [hl]; exact Nat.le_refl _
  · rw [hk]; exact Nat.le_refl _
  · rw [hv]; exact Nat.le_refl _
  · intro h; rw [hl] at h; exact absurd h (by simp)
  · rw [hk]; simp
  · intro h; rw [hk] at h; exact absurd h (by simp)
  · intro h; rw [hv] at h; exact absurd h (by simp)

set_option maxHeartbeats 1000000 in
set_option maxRecDepth 100000 in
theorem fromGo_int (w : World) (k : Int) (h : -1000000000000000000 ≤ k ∧ k ≤ 1000000000000000000) :
    Calls Tryz.prog 45 #[.iface 3 (.int .i64 k)] w fun e w' => e = .returned (.tuple #[.agg #[.int .i64 3, .int .i64 (2 * k), .string ⟨#[]⟩, .slice none 0 0, .slice none 0 0, .slice none 0 0], .bool true]) ∧ Below w.heap.size w w' := by
  obtain ⟨h1, h2⟩ := h
  have hw : IntKind.i64.wrap (2 * k) = 2 * k := by rw [IntKind.wrap_i64]; omega
  have hd1 : -4611686018427387904 ≤ k := by omega
  have hd2 : k ≤ 4611686018427387903 := by omega
  go_enter Tryz.func45, Tryz.ntmps45
  go_wp2
  exact bodyPost_ret (v := .tuple #[.agg #[.int .i64 3, .int .i64 (2 * k), .string ⟨#[]⟩, .slice none 0 0, .slice none 0 0, .slice none 0 0], .bool true]) (by simp [results, Tryz.results45, go_sem]) rfl ⟨rfl, (Below.refl _ _).alloc (Nat.le_refl _) _⟩

def FG (n : Nat) : Prop := ∀ (w : World) (lo : Nat) (x : Value) (v : JV), GAt w lo n x v → Say n v → FGat n w x v

def FL (n : Nat) : Prop := ∀ (w : World) (lo b o c : Nat) (xs : List JV), b < w.heap.size → xs.length ≤ c → c ≤ 9223372036854775807 → (∀ (i : Nat) y, xs[i]? = some y → ∃ z, w.cell? ⟨b, o + i, none⟩ = some z ∧ GAt w lo n z y) → (∀ x ∈ xs, Say n x) → xs.length ≤ 100000 →
  Calls Tryz.prog 68 #[.slice (some ⟨b, o, none⟩) xs.length c] w fun e w' => ∃ r, e = .returned (.tuple #[r, .bool true]) ∧ Below w.heap.size w w' ∧ JP w' (Mid w.heap.size w'.heap.size) (n + 1) r (.mk 5 0 ⟨#[]⟩ xs [] [])

def FM (n : Nat) : Prop := ∀ (w : World) (lo b : Nat) (ents : List Ent) (ks : List ByteArray) (vs : List JV), b < w.heap.size → MapIs w b ents → ents.map (·.1) = ks → (∀ (i : Nat) y, vs[i]? = some y → ∃ e : Ent, ents[i]? = some e ∧ GAt w lo n e.2 y) → ks.length = vs.length → Rise ks → (∀ x ∈ vs, Say n x) → vs.length ≤ 100000 → (∀ k ∈ ks, k.size ≤ 9223372036854775807) →
  Calls Tryz.prog 69 #[.map (some b)] w fun e w' => ∃ r, e = .returned (.tuple #[r, .bool true]) ∧ Below w.heap.size w w' ∧ JP w' (Mid w.heap.size w'.heap.size) (n + 1) r (.mk 6 0 ⟨#[]⟩ [] ks vs)

theorem even_half {h : Int} (e : h.tmod 2 = 0) : 2 * h.tdiv 2 = h := by
  have := Int.mul_tdiv_add_tmod h 2
  omega

set_option maxHeartbeats 2000000 in
set_option maxRecDepth 100000 in
theorem from_step (n : Nat) (hL : FL n) (hM : FM n) : FG (n + 1) := by
  intro w lo x v hx hs
  obtain ⟨⟨hk0, hk6⟩, hs3, hs4, hs5, hs6, hkv, hs8, hs9, hs10, hs11, hs12, hs13, hs14, hs15, hs16⟩ := hs
  have hkb : -9223372036854775808 ≤ v.kind ∧ v.kind ≤ 9223372036854775807 := by omega
  have hhb : -9223372036854775808 ≤ v.half ∧ v.half ≤ 9223372036854775807 := by omega
  have nl : ¬ v.kind = 5 → v.list = [] := fun h => hs5.resolve_left h
  have nk : ¬ v.kind = 6 → v.keys = [] := fun h => hs6.resolve_left h
  have nv : ¬ v.kind = 6 → v.vals = [] := fun h => List.eq_nil_of_length_eq_zero (by rw [← hkv, nk h]; rfl)
  have nt : ¬ v.kind = 4 → v.text = ⟨#[]⟩ := fun h => text_nil (hs4.resolve_left h)
  have nh : ¬ v.kind = 3 → v.half = 0 := fun h => hs3.resolve_left h
  have leaf : ∀ (W : World) (P : Nat → Prop), ¬ v.kind = 5 → ¬ v.kind = 6 → JP W P (n + 1) (.agg #[.int .i64 v.kind, .int .i64 v.half, .string v.text, .slice none 0 0, .slice none 0 0, .slice none 0 0]) v :=
    fun W P h5 h6 => JP.leaf (nl h5) (nk h6) (nv h6) hs16 hkb hhb
  unfold FGat
  rcases hx with ⟨hk, rfl⟩ | ⟨hk, rfl⟩ | ⟨hk, rfl⟩ | ⟨hk, he, rfl⟩ | ⟨hk, he, rfl⟩ | ⟨hk, rfl⟩ | ⟨hk, b, o, c, rfl, h1, h2, h3, h4, h5⟩ | ⟨hk, b, ents, rfl, h1, h2, h3, h4, h5⟩
  · have hl := hide (leaf · (Mid w.heap.size (w.heap.size + 1)) (by omega) (by omega))
    rw [hk, nh (by omega), nt (by omega)] at hl
    clear leaf nl nk nv nt nh hs3 hs4 hs5 hs6 hkv hs8 hs9 hs12 hs13 hs14 hs15
    go_enter Tryz.func45, Tryz.ntmps45
    go_wp2
    refine bodyPost_ret (v := .tuple #[.agg #[.int .i64 0, .int .i64 0, .string ⟨#[]⟩, .slice none 0 0, .slice none 0 0, .slice none 0 0], .bool true]) (by simp [results, Tryz.results45, go_sem]) rfl ⟨_, rfl, (Below.refl _ _).alloc (Nat.le_refl _) _, JP.more (fun b hb => ⟨hb.1, by simp; exact hb.2⟩) (hl.out _)⟩
  · have hl := hide (leaf · (Mid w.heap.size (w.heap.size + 1)) (by omega) (by omega))
    rw [hk, nh (by omega), nt (by omega)] at hl
    clear leaf nl nk nv nt nh hs3 hs4 hs5 hs6 hkv hs8 hs9 hs12 hs13 hs14 hs15
    go_enter Tryz.func45, Tryz.ntmps45
    go_wp2
    refine bodyPost_ret (v := .tuple #[.agg #[.int .i64 1, .int .i64 0, .string ⟨#[]⟩, .slice none 0 0, .slice none 0 0, .slice none 0 0], .bool true]) (by simp [results, Tryz.results45, go_sem]) rfl ⟨_, rfl, (Below.refl _ _).alloc (Nat.le_refl _) _, JP.more (fun b hb => ⟨hb.1, by simp; exact hb.2⟩) (hl.out _)⟩
  · have hl := hide (leaf · (Mid w.heap.size (w.heap.size + 1)) (by omega) (by omega))
    rw [hk, nh (by omega), nt (by omega)] at hl
    clear leaf nl nk nv nt nh hs3 hs4 hs5 hs6 hkv hs8 hs9 hs12 hs13 hs14 hs15
    go_enter Tryz.func45, Tryz.ntmps45
    go_wp2
    refine bodyPost_ret (v := .tuple #[.agg #[.int .i64 2, .int .i64 0, .string ⟨#[]⟩, .slice none 0 0, .slice none 0 0, .slice none 0 0], .bool true]) (by simp [results, Tryz.results45, go_sem]) rfl ⟨_, rfl, (Below.refl _ _).alloc (Nat.le_refl _) _, JP.more (fun b hb => ⟨hb.1, by simp; exact hb.2⟩) (hl.out _)⟩
  · refine (fromGo_int w (v.half.tdiv 2) (by have := even_half he; omega)).mono ?_
    rintro e w' ⟨rfl, hb⟩
    refine ⟨_, rfl, hb, ?_⟩
    rw [even_half he]
    have hl := leaf w' (Mid w.heap.size w'.heap.size) (by omega) (by omega)
    rw [hk, nt (by omega)] at hl
    exact hl
  · have hsm : Sml v.half := ⟨by intro h0; rw [h0] at he; exact he rfl, by omega, by omega⟩
    have hl := hide fun W => leaf W (Mid w.heap.size W.heap.size) (by omega) (by omega)
    rw [hk, nt (by omega)] at hl
    have hq : ∀ W : World, (binOp .mul 82 (.float .f64 4611686018427387904) (.float .f64 (halfBits v.half))).run Tryz.prog W = .ok (.float .f64 (floatOfInt .f64 v.half)) W := fun W => run_float_arith W _ _ _ _ _ _ (twice_half hsm)
    have hh := hide fun W => half_any W v.half hsm
    clear leaf nl nk nv nt nh hs3 hs4 hs5 hs6 hkv hs8 hs9 hs12 hs13 hs14 hs15
    replace hsm := hide hsm
    obtain ⟨W0, hW0⟩ : ∃ W0, W0 = w.alloc (.cells #[.int .i64 0, .int .i64 0, .string ⟨#[]⟩, .slice none 0 0, .slice none 0 0, .slice none 0 0] 26) := ⟨_, rfl⟩
    have b0 : Below w.heap.size w W0 := by rw [hW0]; exact Below.alloc (Below.refl _ _) (Nat.le_refl _) _
    have k0 : Blk W0 w.heap.size 26 #[.int .i64 0, .int .i64 0, .string ⟨#[]⟩, .slice none 0 0, .slice none 0 0, .slice none 0 0] := by rw [hW0]; exact Blk.new w _ _
    have hs0 := k0.lt
    replace b0 := hide b0
    replace k0 := hide k0
    go_enter Tryz.func45, Tryz.ntmps45
    go_wp2_with fail
    rw [← hW0]
    clear hW0
    refine (hh.out W0).mono ?_
    rintro e W1 ⟨rfl, b1⟩
    have k1 := hide (k0.out.below b1 hs0)
    have b2 := hide (b0.out.trans (b1.mono b0.out.size))
    clear b1
    go_wp2_with (refine wpList_store_blk rfl 26 (.tmp 2) (.tmp 38) rfl w.heap.size _ rfl rfl 26 _ k1.out val_size rfl (val_one _ _ _ _ _ _ _ _ _ _ _ _) ?_; intro W3 k3 o3 s3; have o3' := hide o3; have k3' := hide k3; have s3' := hide s3; clear o3 k3 s3)
    obtain ⟨q0, q1, q2, q3, q4, q5⟩ := blk_six k3'.out
    refine bodyPost_ret (v := .tuple #[.agg #[.int .i64 3, .int .i64 v.half, .string ⟨#[]⟩, .slice none 0 0, .slice none 0 0, .slice none 0 0], .bool true]) (by simp [results, Tryz.results45, go_sem, q0, q1, q2, q3, q4, q5]) rfl ⟨_, rfl, b2.out.trans (o3'.out.below (by intro k hk; omega) b2.out.size), hl.out _⟩
  · have hl := hide (leaf · (Mid w.heap.size (w.heap.size + 1)) (by omega) (by omega))
    rw [hk, nh (by omega)] at hl
    clear leaf nl nk nv nt nh hs3 hs4 hs5 hs6 hkv hs8 hs9 hs12 hs13 hs14 hs15
    go_enter Tryz.func45, Tryz.ntmps45
    go_wp2
    refine bodyPost_ret (v := .tuple #[.agg #[.int .i64 4, .int .i64 0, .string v.text, .slice none 0 0, .slice none 0 0, .slice none 0 0], .bool true]) (by simp [results, Tryz.results45, go_sem]) rfl ⟨_, rfl, (Below.refl _ _).alloc (Nat.le_refl _) _, JP.more (fun b hb => ⟨hb.1, by simp; exact hb.2⟩) (hl.out _)⟩
  · have hv : v = .mk 5 0 ⟨#[]⟩ v.list [] [] := by
      have e1 := nh (by omega)
      have e2 := nt (by omega)
      have e3 := nk (by omega)
      have e4 := nv (by omega)
      cases v
      simp only [JV.kind, JV.half, JV.text, JV.list, JV.keys, JV.vals] at *
      subst hk e1 e2 e3 e4
      rfl
    obtain ⟨W0, hW0⟩ : ∃ W0, W0 = w.alloc (.cells #[.int .i64 0, .int .i64 0, .string ⟨#[]⟩, .slice none 0 0, .slice none 0 0, .slice none 0 0] 26) := ⟨_, rfl⟩
    have o0 : Only (fun _ => False) w W0 := by rw [hW0]; exact (Only.refl _ w).alloc _
    have b0 : Below w.heap.size w W0 := by rw [hW0]; exact Below.alloc (Below.refl _ _) (Nat.le_refl _) _
    have k0 : Blk W0 w.heap.size 26 #[.int .i64 0, .int .i64 0, .string ⟨#[]⟩, .slice none 0 0, .slice none 0 0, .slice none 0 0] := by rw [hW0]; exact Blk.new w _ _
    have hc := hide (hL W0 lo b o c v.list (by have := b0.size; omega) h3 h4 (fun i y hy => by
      obtain ⟨z, hz, hg⟩ := h5 i y hy
      exact ⟨z, (b0.cell h2).trans hz, GAt.only o0 (fun k hk => hk.elim) n _ _ hg⟩) hs12 hs10)
    have hs0 := k0.lt
    replace b0 := hide b0
    replace k0 := hide k0
    replace hv := hide hv
    replace hk := hide hk
    clear leaf nl nk nv nt nh hs3 hs4 hs5 hs6 hkv hs8 hs9 hs12 hs13 hs14 hs15 h5 o0
    go_enter Tryz.func45, Tryz.ntmps45
    go_wp2_with fail
    rw [← hW0]
    clear hW0
    refine hc.out.mono ?_
    rintro e W1 ⟨r, rfl, b1, hr⟩
    rw [← hv.out] at hr
    have hr' := hide hr
    obtain ⟨la, lc, ka, kc, va, vc, rfl, -⟩ := hr
    have k1 := hide (k0.out.below b1 hs0)
    have b2 := hide (b0.out.trans (b1.mono b0.out.size))
    replace b1 := hide b1
    go_wp2_with (refine wpList_store_blk rfl 26 (.tmp 2) (.tmp 50) rfl w.heap.size _ rfl rfl 26 _ k1.out val_size rfl (val_one _ _ _ _ _ _ _ _ _ _ _ _) ?_; intro W3 k3 o3 s3; have o3' := hide o3; have k3' := hide k3; have s3' := hide s3; clear o3 k3 s3)
    obtain ⟨q0, q1, q2, q3, q4, q5⟩ := blk_six k3'.out
    refine bodyPost_ret (v := .tuple #[.agg #[.int .i64 v.kind, .int .i64 v.half, .string v.text, .slice la v.list.length lc, .slice ka v.keys.length kc, .slice va v.vals.length vc], .bool true]) (by simp [results, Tryz.results45, go_sem, q0, q1, q2, q3, q4, q5]) rfl ⟨_, rfl, b2.out.trans (o3'.out.below (by intro k hk; omega) b2.out.size), ?_⟩
    refine JP.keep (fun p hp => ?_) (fun b hb => ⟨by have := hb.1; omega, by have := hb.2; rw [s3'.out]; exact this⟩) _ _ _ hr'.out
    have hp1 := hp.1
    have hp2 := hp.2
    exact World.cell?_of_block (o3'.out.block _ hp2 (by intro e; omega))
  · have hv : v = .mk 6 0 ⟨#[]⟩ [] v.keys v.vals := by
      have e1 := nh (by omega)
      have e2 := nt (by omega)
      have e3 := nl (by omega)
      cases v
      simp only [JV.kind, JV.half, JV.text, JV.list, JV.keys, JV.vals] at *
      subst hk e1 e2 e3
      rfl
    obtain ⟨W0, hW0⟩ : ∃ W0, W0 = w.alloc (.cells #[.int .i64 0, .int .i64 0, .string ⟨#[]⟩, .slice none 0 0, .slice none 0 0, .slice none 0 0] 26) := ⟨_, rfl⟩
    have o0 : Only (fun _ => False) w W0 := by rw [hW0]; exact (Only.refl _ w).alloc _
    have b0 : Below w.heap.size w W0 := by rw [hW0]; exact Below.alloc (Below.refl _ _) (Nat.le_refl _) _
    have k0 : Blk W0 w.heap.size 26 #[.int .i64 0, .int .i64 0, .string ⟨#[]⟩, .slice none 0 0, .slice none 0 0, .slice none 0 0] := by rw [hW0]; exact Blk.new w _ _
    have hc := hide (hM W0 lo b ents v.keys v.vals (by have := b0.size; omega) (h3.only o0 (fun h => h)) h4 (fun i y hy => by
      obtain ⟨z, hz, hg⟩ := h5 i y hy
      exact ⟨z, hz, GAt.only o0 (fun k hk => hk.elim) n _ _ hg⟩) hkv hs13 hs14 hs11 hs15)
    have hs0 := k0.lt
    replace b0 := hide b0
    replace k0 := hide k0
    replace hv := hide hv
    replace hk := hide hk
    clear leaf nl nk nv nt nh hs3 hs4 hs5 hs6 hkv hs8 hs9 hs12 hs13 hs14 hs15 h5 o0 h4 h3
    go_enter Tryz.func45, Tryz.ntmps45
    go_wp2_with fail
    rw [← hW0]
    clear hW0
    refine hc.out.mono ?_
    rintro e W1 ⟨r, rfl, b1, hr⟩
    rw [← hv.out] at hr
    have hr' := hide hr
    obtain ⟨la, lc, ka, kc, va, vc, rfl, -⟩ := hr
    have k1 := hide (k0.out.below b1 hs0)
    have b2 := hide (b0.out.trans (b1.mono b0.out.size))
    replace b1 := hide b1
    go_wp2_with (refine wpList_store_blk rfl 26 (.tmp 2) (.tmp 57) rfl w.heap.size _ rfl rfl 26 _ k1.out val_size rfl (val_one _ _ _ _ _ _ _ _ _ _ _ _) ?_; intro W3 k3 o3 s3; have o3' := hide o3; have k3' := hide k3; have s3' := hide s3; clear o3 k3 s3)
    obtain ⟨q0, q1, q2, q3, q4, q5⟩ := blk_six k3'.out
    refine bodyPost_ret (v := .tuple #[.agg #[.int .i64 v.kind, .int .i64 v.half, .string v.text, .slice la v.list.length lc, .slice ka v.keys.length kc, .slice va v.vals.length vc], .bool true]) (by simp [results, Tryz.results45, go_sem, q0, q1, q2, q3, q4, q5]) rfl ⟨_, rfl, b2.out.trans (o3'.out.below (by intro k hk; omega) b2.out.size), ?_⟩
    refine JP.keep (fun p hp => ?_) (fun b hb => ⟨by have := hb.1; omega, by have := hb.2; rw [s3'.out]; exact this⟩) _ _ _ hr'.out
    have hp1 := hp.1
    have hp2 := hp.2
    exact World.cell?_of_block (o3'.out.block _ hp2 (by intro e; omega))
end Go.Proofs.YtbnbemacljjimaaGreatDoor
