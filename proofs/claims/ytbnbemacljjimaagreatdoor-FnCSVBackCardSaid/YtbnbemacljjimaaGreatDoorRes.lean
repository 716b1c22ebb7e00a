/- result: what a function's answer is as plain data. -/
import Derived.Test.YtbnbemacljjimaaGreatDoorJP
namespace Go.Proofs.YtbnbemacljjimaaGreatDoor
open Go.RowKit
set_option linter.unusedVariables false

def FGat (n : Nat) (w : World) (x : Value) (v : JV) : Prop := Calls Tryz.prog 45 #[x] w fun e w' => ∃ r, e = .returned (.tuple #[r, .bool true]) ∧ Below w.heap.size w w' ∧ JP w' (Mid w.heap.size w'.heap.size) n r v

theorem JAt.form {w : World} {B n : Nat} {r : Value} {v : JV} (h : JAt w B (n + 1) r v) : ∃ c0 c1 c2 c3 c4 c5, r = .agg #[c0, c1, c2, c3, c4, c5] := by
  obtain ⟨la, lc, ka, kc, va, vc, rfl, -⟩ := h
  exact ⟨_, _, _, _, _, _, rfl⟩

theorem GAt.noerr {w : World} {lo n : Nat} {x : Value} {v : JV} (h : GAt w lo n x v) (W : World) : (Instr.typeAssert x 20 90 true).run Tryz.prog W = .ok (.tuple #[.nilIface, .bool false]) W := by
  cases n with
  | zero => exact absurd h (fun h => h)
  | succ n =>
    rcases h with h | h | h | h | h | h | h | h
    · rw [h.2]; exact as_nil_err W
    · rw [h.2]; exact as_bool_err _ W
    · rw [h.2]; exact as_bool_err _ W
    · rw [h.2.2]; exact as_int_err _ W
    · rw [h.2.2]; exact as_float_err _ W
    · rw [h.2]; exact as_str_err _ W
    · obtain ⟨-, b, o, c, h, -⟩ := h
      rw [h]; exact as_list_err _ W
    · obtain ⟨-, b, ents, h, -⟩ := h
      rw [h]; exact as_map_err _ W

set_option maxHeartbeats 1000000 in
set_option maxRecDepth 100000 in
theorem result_of (n : Nat) (w : World) (lo : Nat) (x : Value) (v : JV) (hx : GAt w lo (n + 1) x v) (hf : ∀ W, Below w.heap.size w W → FGat (n + 1) W x v) :
    Calls Tryz.prog 23 #[x] w fun e w' => ∃ la lc ka kc va vc, e = .returned (.agg #[.int .i64 v.kind, .int .i64 v.half, .string v.text, .slice la v.list.length lc, .slice ka v.keys.length kc, .slice va v.vals.length vc, .int .i64 0]) ∧ Below w.heap.size w w' ∧
      JP w' (Mid w.heap.size w'.heap.size) (n + 1) (.agg #[.int .i64 v.kind, .int .i64 v.half, .string v.text, .slice la v.list.length lc, .slice ka v.keys.length kc, .slice va v.vals.length vc]) v := by
  have hne := fun W => hx.noerr W
  have hform := hx.form
  replace hx := hide hx
  obtain ⟨W0, hW0⟩ : ∃ W0, W0 = w.alloc (.cells #[.int .i64 0, .int .i64 0, .string ⟨#[]⟩, .slice none 0 0, .slice none 0 0, .slice none 0 0, .int .i64 0] 35) := ⟨_, rfl⟩
  have b0 : Below w.heap.size w W0 := by rw [hW0]; exact Below.alloc (Below.refl _ _) (Nat.le_refl _) _
  have k0 : Blk W0 w.heap.size 35 #[.int .i64 0, .int .i64 0, .string ⟨#[]⟩, .slice none 0 0, .slice none 0 0, .slice none 0 0, .int .i64 0] := by rw [hW0]; exact Blk.new w _ _
  have hfc := hide (hf W0 b0)
  have hs0 := k0.lt
  replace b0 := hide b0
  replace k0 := hide k0
  clear hf
  rcases hform with rfl | ⟨ty, u, rfl⟩
  all_goals
    go_enter Tryz.func23, Tryz.ntmps23
    go_wp2_with fail
    rw [← hW0]
    clear hW0
    refine hfc.out.mono ?_
    rintro e W1 ⟨r, rfl, b1, hr⟩
    have hr' := hide hr
    obtain ⟨la, lc, ka, kc, va, vc, rfl, -⟩ := hr
    have k1 := k0.out.below b1 hs0
    have hs1 := k1.lt
    replace k1 := hide (k1.alloc (.cells #[.int .i64 v.kind, .int .i64 v.half, .string v.text, .slice la v.list.length lc, .slice ka v.keys.length kc, .slice va v.vals.length vc] 26))
    have b2 := hide (b0.out.trans (b1.mono b0.out.size))
    replace b1 := hide b1
    go_upto_region 7 with fail
    go_wp2_with (refine wpList_store_blk rfl 35 (.tmp 2) (.tmp 23) rfl w.heap.size _ rfl rfl 35 _ k1.out res_size rfl (res_one _ _ _ _ _ _ _ _ _ _ _ _ _) ?_; intro W3 k3 o3 s3)
    obtain ⟨q0, q1, q2, q3, q4, q5, q6⟩ := blk_seven k3
    have o3' := hide o3
    have s3' := hide s3
    clear o3 s3 k3
    refine bodyPost_ret (v := .agg #[.int .i64 v.kind, .int .i64 v.half, .string v.text, .slice la v.list.length lc, .slice ka v.keys.length kc, .slice va v.vals.length vc, .int .i64 0]) (by simp [results, Tryz.results23, go_sem, q0, q1, q2, q3, q4, q5, q6]) rfl ⟨_, _, _, _, _, _, rfl, ?_, ?_⟩
    · exact (b2.out.alloc b2.out.size _).trans (o3'.out.below (by intro k hk; omega) (by simp; omega))
    · refine JP.keep (fun p hp => ?_) (fun b hb => ⟨by have := hb.1; omega, by have := hb.2; rw [s3'.out]; simp; omega⟩) _ _ _ hr'.out
      have hp1 := hp.1
      have hp2 := hp.2
      refine (World.cell?_of_block (o3'.out.block _ (by simp; omega) (by intro e; omega))).trans ?_
      exact World.cell?_alloc_lt _ _ _ hp2
end Go.Proofs.YtbnbemacljjimaaGreatDoor
