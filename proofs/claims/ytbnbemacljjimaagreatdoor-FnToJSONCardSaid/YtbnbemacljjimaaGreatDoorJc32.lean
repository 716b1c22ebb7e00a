/- FnToJSON's law (printed by mklawj.py). -/
import Derived.Test.YtbnbemacljjimaaGreatDoorJc30
import Derived.Test.YtbnbemacljjimaaGreatDoorJc31
import Derived.Test.YtbnbemacljjimaaGreatDoorJc01
namespace Go.Proofs.YtbnbemacljjimaaGreatDoor
open Go.RowKit Go.Lib
set_option linter.unusedVariables false

theorem say_leaf {v : JV} (h1 : 0 ≤ v.kind ∧ v.kind ≤ 6) (h2 : v.kind = 3 ∨ v.half = 0) (h3 : v.kind = 4 ∨ v.text.toList = []) (h4 : v.list = []) (h5 : v.keys = []) (h6 : v.vals = []) (h7 : -18014398509481984 ≤ v.half ∧ v.half ≤ 18014398509481984) (h8 : v.half.tmod 2 = 0 ∨ -9007199254740992 < v.half ∧ v.half < 9007199254740992) (h9 : v.text.size ≤ 9223372036854775807) : Say 1 v := by
  obtain ⟨k, h, t, l, ks, vs⟩ := v
  have e4 : l = [] := h4
  have e5 : ks = [] := h5
  have e6 : vs = [] := h6
  subst e4 e5 e6
  refine ⟨h1, h2, h3, Or.inr rfl, Or.inr rfl, rfl, h7, h8, Nat.zero_le _, Nat.zero_le _, ?_, ?_, ?_, ?_, h9⟩
  · exact fun x hx => absurd hx List.not_mem_nil
  · intro i a b hi
    simp [JV.keys] at hi
  · exact fun x hx => absurd hx List.not_mem_nil
  · exact fun x hx => absurd hx List.not_mem_nil
theorem say_zero : Say 1 (.mk 0 0 ⟨#[]⟩ [] [] []) := say_leaf (by show (0 : Int) ≤ 0 ∧ (0 : Int) ≤ 6; decide) (Or.inr rfl) (Or.inr (Lib.toList_data _)) rfl rfl rfl (by show (-18014398509481984 : Int) ≤ 0 ∧ (0 : Int) ≤ 18014398509481984; decide) (Or.inl rfl) (by show (0 : Nat) ≤ _; exact Nat.zero_le _)
theorem say_of {op : ByteArray} {l : List QV} (hl : l.length ≤ 1000000) (h : ∀ k ∈ l, SayQ k) : SayQ (ofQ op l) := .mk say_zero hl h
theorem say_val {v : JV} (h : Say 1 v) : SayQ (valQ v) := .mk h (Nat.zero_le _) (fun k hk => by cases hk)
theorem say_txt {s : ByteArray} (h : s.size ≤ 2000) : SayQ (valQ (txtJ s)) := say_val (say_leaf (by show (0 : Int) ≤ 4 ∧ (4 : Int) ≤ 6; decide) (Or.inr rfl) (Or.inl rfl) rfl rfl rfl (by show (-18014398509481984 : Int) ≤ 0 ∧ (0 : Int) ≤ 18014398509481984; decide) (Or.inl rfl) (by show s.size ≤ _; omega))
theorem say_nqC : ∀ (xs : List QV) (x : QV), SayQ x → (∀ y ∈ xs, SayQ y) → SayQ (nqC x xs)
  | [], x, h, _ => h
  | y :: ys, x, h, h2 => say_of (by simp) (fun k hk => by
      simp only [List.mem_cons, List.not_mem_nil, or_false] at hk
      rcases hk with rfl | rfl
      · exact h
      · exact say_nqC ys y (h2 y List.mem_cons_self) (fun z hz => h2 z (List.mem_cons_of_mem _ hz)))
theorem say_kv : ∀ (ks : List ByteArray) (qs : List QV), (∀ s ∈ ks, s.size ≤ 2000) → (∀ q ∈ qs, SayQ q) → ∀ q ∈ kvQ ks qs, SayQ q
  | [], _, _, _, q, hq => by simp [kvQ] at hq
  | _ :: _, [], _, _, q, hq => by simp [kvQ] at hq
  | s :: ks, x :: qs, h1, h2, q, hq => by
    simp only [kvQ, List.mem_cons] at hq
    rcases hq with rfl | rfl | hq
    · exact say_txt (h1 s List.mem_cons_self)
    · exact h2 _ List.mem_cons_self
    · exact say_kv ks qs (fun s hs => h1 s (List.mem_cons_of_mem _ hs)) (fun q hq => h2 q (List.mem_cons_of_mem _ hq)) q hq

theorem say_nq : ∀ (n : Nat) (v : JV), Good n v → JV.bytes n v ≤ 2000 → SayQ (nq n v)
  | 0, v, h, _ => h.elim
  | n + 1, v, h, hb => by
    have hpart : ∀ y ∈ v.list ++ v.vals, SayQ (nq n y) := fun y hy => by
      obtain ⟨h1, h2, -⟩ := part_of h hy
      exact say_nq n y h1 (by omega)
    by_cases hk : v.kind = 3 ∧ v.half < 0
    · have e2 : nq (n + 1) v = ofQ opNeg [valQ (.mk 3 (-v.half) ⟨#[]⟩ [] [] [])] := by show (if _ then _ else _) = _; rw [if_pos hk]
      rw [e2]
      have hg := good_pos h hk.1 hk.2
      refine say_of (by simp) (fun k hk => ?_)
      simp only [List.mem_cons, List.not_mem_nil, or_false] at hk
      subst hk
      exact say_val (say_leaf hg.1 hg.2.1 hg.2.2.1 rfl rfl rfl hg.2.2.2.2.2.2.1 hg.2.2.2.2.2.2.2.1 (by show (0 : Nat) ≤ _; exact Nat.zero_le _))
    · by_cases h5 : v.kind = 5
      · have e1 : nq (n + 1) v = listQ nqC (v.list.map (nq n)) := by rw [nq, jq, if_neg hk, if_pos h5]
        rw [e1]
        have gen : ∀ l : List QV, (∀ k ∈ l, SayQ k) → SayQ (listQ nqC l) := by
          intro l hl
          rcases l with _ | ⟨x, xs⟩
          · exact say_of (by simp) (fun k hk => by cases hk)
          · refine say_of (by simp) (fun k hk => ?_)
            simp only [List.mem_cons, List.not_mem_nil, or_false] at hk
            subst hk
            exact say_nqC xs x (hl x List.mem_cons_self) (fun y hy => hl y (List.mem_cons_of_mem _ hy))
        refine gen _ (fun k hk => ?_)
        obtain ⟨y, hy, rfl⟩ := List.mem_map.1 hk
        exact hpart y (List.mem_append_left _ hy)
      · by_cases h6 : v.kind = 6
        · have e1 : nq (n + 1) v = ofQ opObj (kvQ v.keys (v.vals.map (nq n))) := by rw [nq, jq, if_neg hk, if_neg h5, if_pos h6]
          rw [e1]
          have hl2 := kvQ_len v.keys (v.vals.map (nq n)) (by rw [List.length_map]; exact h.2.2.2.2.2.1)
          refine say_of (by rw [hl2, h.2.2.2.2.2.1]; have := h.2.2.2.2.2.2.2.2.2.2.1; omega) (say_kv _ _ (fun s hs => ?_) (fun q hq => ?_))
          · have := key_small (n := n) hs
            omega
          · obtain ⟨y, hy, rfl⟩ := List.mem_map.1 hq
            exact hpart y (List.mem_append_right _ hy)
        · have e1 : nq (n + 1) v = valQ v := by rw [nq, jq, if_neg hk, if_neg h5, if_neg h6]
          rw [e1]
          obtain ⟨g1, g2, g3, g4, g5, g6, g7, g8, -⟩ := h
          have hke : v.keys = [] := g5.resolve_left h6
          refine say_val (say_leaf g1 g2 g3 (g4.resolve_left h5) hke ?_ g7 g8 ?_)
          · rw [hke] at g6
            exact List.eq_nil_of_length_eq_zero g6.symm
          · rw [JV.bytes] at hb
            omega

theorem wpList_load_rowG {P : Program} {ops : Array Oper} {rest : List Oper} {o : Oper} {a : Act} {w : World} {Q : Exit → Act → World → Prop} (hw : Region.wanted o (yielded ops a.tmps) = true) (ty : TypeId) (x : Operand) (ho : o.op = .load ty x)
    (g : Nat) (hx : a.eval x = .pointer (some ⟨g, 0, none⟩)) (t : TypeId) (cs : Array Value) (fr : Nat × Nat) (d : TypeDesc) (hg : w.heap[g]? = some (.cells cs t fr))
    (hu : P.underlying ty = some d) (hd : (match d with | .struct _ | .array _ _ => true | _ => false) = true) (hi : (P.info? ty).map (·.size) = some cs.size)
    (h : wpList P ops Q rest (a.put o.dst (.agg cs)) w) : wpList P ops Q (o :: rest) a w := by
  unfold wpList
  rw [if_pos hw]
  exact Or.inl (wp_load_row ty x ho g hx t cs fr d hg hu hd hi h)

set_option maxHeartbeats 1000000 in
set_option maxRecDepth 100000 in
theorem textJ_any (w : World) (s : ByteArray) (c1 : Int) (a3 a4 a5 : Option Addr) (l3 m3 l4 m4 l5 m5 : Nat) :
    Calls Tryz.prog 9 #[.agg #[.int .i64 4, .int .i64 c1, .string s, .slice a3 l3 m3, .slice a4 l4 m4, .slice a5 l5 m5, .int .i64 0]] w fun e w' => e = .returned (.tuple #[.string s, .bool true]) ∧ Below w.heap.size w w' := by
  obtain ⟨W, hW⟩ : ∃ W, W = w.alloc (.cells #[.int .i64 4, .int .i64 c1, .string s, .slice a3 l3 m3, .slice a4 l4 m4, .slice a5 l5 m5, .int .i64 0] 35) := ⟨_, rfl⟩
  have bW : Below w.heap.size w W := by rw [hW]; exact (Below.refl _ _).alloc (Nat.le_refl _) _
  have kW := Blk.new w 35 #[.int .i64 4, .int .i64 c1, .string s, .slice a3 l3 m3, .slice a4 l4 m4, .slice a5 l5 m5, .int .i64 0]
  rw [← hW] at kW
  obtain ⟨q0, q1, q2, q3, q4, q5, q6⟩ := blk_seven kW
  replace bW := hide bW
  replace kW := hide kW
  go_enter Tryz.func9, Tryz.ntmps9
  go_upto_region 1 with fail
  rw [← hW]
  clear hW
  go_wp2
  go_quiet (fail)
  go_wp2
  go_ret2
  exact ⟨rfl, below_drewN bW.out nq⟩

/-- Two queries made by two calls. -/
structure LwW (W : World) (q : QV) (listed : Array Bool) (w : World) (s40 s43 : Value) : Prop where
  onl : Only (fun _ => False) W w
  f6 : Up listed 6 → ∃ z, s40 = .agg z.toArray ∧ QAt w (· < w.heap.size) z q
  f9 : Up listed 9 → ∃ z, s43 = .agg z.toArray ∧ QAt w (· < w.heap.size) z q
section
variable {W w w2 : World} {q : QV} {listed : Array Bool} {s40 s43 : Value}
theorem q_more {z : List Value} (h : QAt w (· < w.heap.size) z q) (ho : Only (fun _ => False) w w2) : QAt w2 (· < w2.heap.size) z q := h.only ho (fun _ _ _ h => h) (fun b _ h => by have h' : b < w.heap.size := h; have := ho.size; show b < w2.heap.size; omega)
theorem LwW.start {n : Nat} : LwW W q (Array.replicate n false) W.drew s40 s43 := ⟨(Only.refl _ W).drew, fun h => (Up.start h).elim, fun h => (Up.start h).elim⟩
theorem LwW.put (H : LwW W q listed w s40 s43) (i : Nat) (h6 : (i == 6) = false) (h9 : (i == 9) = false) : LwW W q (listed.setIfInBounds i true) w s40 s43 := ⟨H.onl, fun h => H.f6 (Up.ne_put h6 h), fun h => H.f9 (Up.ne_put h9 h)⟩
theorem LwW.c6 (H : LwW W q listed w s40 s43) {z : List Value} (hz : QAt w2 (w.heap.size ≤ ·) z q) (hb : Below w.heap.size w w2) (hl : ∀ b, w.heap.size ≤ b → b < w2.heap.size → b < w2.heap.size) : LwW W q (listed.setIfInBounds 6 true) w2 (.agg z.toArray) s43 := by
  have ho := only_below hb
  refine ⟨H.onl.trans ho, fun _ => ⟨z, rfl, hz.only (Only.refl (fun _ => False) w2) (fun _ _ _ h => h) (fun b hb _ => hb)⟩, fun h => ?_⟩
  obtain ⟨z', e, hz'⟩ := H.f9 (Up.ne_put rfl h)
  exact ⟨z', e, q_more hz' ho⟩
theorem LwW.c9 (H : LwW W q listed w s40 s43) {z : List Value} (hz : QAt w2 (w.heap.size ≤ ·) z q) (hb : Below w.heap.size w w2) (hl : ∀ b, w.heap.size ≤ b → b < w2.heap.size → b < w2.heap.size) : LwW W q (listed.setIfInBounds 9 true) w2 s40 (.agg z.toArray) := by
  have ho := only_below hb
  refine ⟨H.onl.trans ho, fun h => ?_, fun _ => ⟨z, rfl, hz.only (Only.refl (fun _ => False) w2) (fun _ _ _ h => h) (fun b hb _ => hb)⟩⟩
  obtain ⟨z', e, hz'⟩ := H.f6 (Up.ne_put rfl h)
  exact ⟨z', e, q_more hz' ho⟩
theorem LwW.c10 (H : LwW W q listed w s40 s43) (hb : Below w.heap.size w w2) : LwW W q (listed.setIfInBounds 10 true) w2 s40 s43 := by
  have ho := only_below hb
  refine ⟨H.onl.trans ho, fun h => ?_, fun h => ?_⟩
  · obtain ⟨z', e, hz'⟩ := H.f6 (Up.ne_put rfl h)
    exact ⟨z', e, q_more hz' ho⟩
  · obtain ⟨z', e, hz'⟩ := H.f9 (Up.ne_put rfl h)
    exact ⟨z', e, q_more hz' ho⟩
end

set_option maxHeartbeats 16000000 in
set_option maxRecDepth 100000 in
theorem lawToJSON_any (w : World) (B : Nat) (x : Value) (v : JV) (hx : JAt w B 62 x v) (hli : Light 62 v) (hT : Tabs w B) (hB : B ≤ w.heap.size) :
    Calls Tryz.prog 3 #[x] w fun e w' => e = .returned (.bool true) ∧ Below w.heap.size w w' := by
  have hx' := hide hx
  obtain ⟨la, lc, ka, kc, va, vc, rfl, -, -, -, -, -, -, htx, -⟩ := hx
  obtain ⟨W, hW⟩ : ∃ W, W = w.alloc (.cells #[.int .i64 v.kind, .int .i64 v.half, .string v.text, .slice la v.list.length lc, .slice ka v.keys.length kc, .slice va v.vals.length vc] 26) := ⟨_, rfl⟩
  have bW : Below w.heap.size w W := by rw [hW]; exact Below.alloc (Below.refl _ _) (Nat.le_refl _) _
  have kW : Blk W w.heap.size 26 #[.int .i64 v.kind, .int .i64 v.half, .string v.text, .slice la v.list.length lc, .slice ka v.keys.length kc, .slice va v.vals.length vc] := by rw [hW]; exact Blk.new w _ _
  have hB1 : B ≤ w.heap.size + 1 := by omega
  have hxW : JAt W (w.heap.size + 1) 62 _ v := JAt.keep (fun p hp => bW.cell (by omega)) hB1 62 _ _ hx'.out
  have hTW : Tabs W (w.heap.size + 1) := (hT.keep (fun p hp => bW.cell (by omega))).more hB1
  have hlt := kW.lt
  have kx : ∀ W', Below W.heap.size W W' → JAt W' (w.heap.size + 1) 62 (.agg #[.int .i64 v.kind, .int .i64 v.half, .string v.text, .slice la v.list.length lc, .slice ka v.keys.length kc, .slice va v.vals.length vc]) v := fun W' h => JAt.keep (fun p hp => h.cell (by omega)) (Nat.le_refl _) 62 _ _ hxW
  have kT : ∀ W', Below W.heap.size W W' → Tabs W' (w.heap.size + 1) := fun W' h => hTW.keep (fun p hp => h.cell (by omega))
  have kk : ∀ W', Below W.heap.size W W' → Blk W' w.heap.size 26 #[.int .i64 v.kind, .int .i64 v.half, .string v.text, .slice la v.list.length lc, .slice ka v.keys.length kc, .slice va v.vals.length vc] := fun W' h => kW.below h hlt
  clear hx' hT hTW
  replace kx := hide kx
  replace kT := hide kT
  replace kk := hide kk
  replace bW := hide bW
  replace hxW := hide hxW
  replace hli := hide hli
  obtain ⟨q0, q1, q2, q3, q4, q5⟩ := blk_six kW
  replace kW := hide kW
  go_enter Tryz.func3, Tryz.ntmps3
  go_upto_region 1 with fail
  rw [← hW]
  clear hW
  go_wp2_with fail
  refine (zzfits_any W (w.heap.size + 1) 61 _ v hlt hxW.out).mono ?_
  rintro e W1 ⟨b, rfl, b1⟩
  cases b
  · replace b1 := hide b1
    go_wp2_with fail
    go_ret
    exact ⟨rfl, bW.out.trans (b1.out.mono bW.out.size)⟩
  obtain ⟨q0, q1, q2, q3, q4, q5⟩ := blk_six (kk.out W1 b1)
  obtain ⟨W2, hW2⟩ : ∃ W2, W2 = W1.alloc (.cells #[.int .i64 v.kind, .int .i64 v.half, .string v.text, .slice la v.list.length lc, .slice ka v.keys.length kc, .slice va v.vals.length vc] 26) := ⟨_, rfl⟩
  have b2 : Below W.heap.size W W2 := by rw [hW2]; exact Below.alloc b1 b1.size _
  have k2 : Blk W2 W1.heap.size 26 #[.int .i64 v.kind, .int .i64 v.half, .string v.text, .slice la v.list.length lc, .slice ka v.keys.length kc, .slice va v.vals.length vc] := by rw [hW2]; exact Blk.new W1 _ _
  have hf := hide (fine_any W2 W2.heap.size (some ⟨W1.heap.size, 0, none⟩) 1 [v] ((kT.out W2 b2).more (by have := b2.size; omega)) (Nat.le_refl _) (by simp) (by omega) (one_row k2 k2.lt (JAt.keep (fun p hp => rfl) (by have := b2.size; omega) 62 _ _ (kx.out W2 b2))) (by intro x hx; simp at hx; subst hx; exact hli.out))
  have hs12 := hide b1.size
  replace b1 := hide b1
  replace b2 := hide b2
  replace k2 := hide k2
  go_wp2_with fail
  rw [← hW2]
  clear hW2
  refine hf.out.mono ?_
  rintro e W3 ⟨b', rfl, b3, hgood⟩
  have b13 := hide (b2.out.trans (b3.mono b2.out.size))
  have s23 := hide b3.size
  clear b3
  cases b'
  · clear hgood
    go_wp2_with fail
    go_ret
    exact ⟨rfl, bW.out.trans (b13.out.mono bW.out.size)⟩
  obtain ⟨⟨hgd, hpt, hby⟩, -⟩ := hgood rfl v (by simp)
  have hsz : (jT 62 v).size ≤ 1000000 := by have := jT_size 62 v hgd; omega
  obtain ⟨q0, q1, q2, q3, q4, q5⟩ := blk_six (kk.out W3 b13.out)
  have hj := hide (json_any 62 W3 (w.heap.size + 1) _ v (kx.out W3 b13.out) hgd hby hpt (by have := b13.out.size; omega))
  have hsay := hide (say_nq 62 v hgd hby)
  replace hgd := hide hgd
  clear hgood hf hpt hby
  go_wp2_with fail
  refine hj.out.mono ?_
  rintro e W4 ⟨⟨s, how, rfl, hs⟩, b4⟩
  have b14 := hide (b13.out.trans (b4.mono b13.out.size))
  clear b4 hj
  obtain ⟨q0, q1, q2, q3, q4, q5⟩ := blk_six (kk.out W4 b14.out)
  rcases hs with ⟨rfl, rfl, hok⟩ | rfl
  rotate_left
  · go_wp2_with fail
    go_ret
    exact ⟨rfl, bW.out.trans (b14.out.mono bW.out.size)⟩
  have hl4 : w.heap.size < W4.heap.size := (kk.out W4 b14.out).lt
  have hd := hide (doorToJSON_any 61 W4 (w.heap.size + 1) _ v (kx.out W4 b14.out) hgd.out hok hsz (kT.out W4 b14.out) (by omega))
  have hread := hide (fun W' => read_any 62 v hgd.out W' hsz)
  obtain ⟨S, hS⟩ : ∃ S, jT 62 v = S := ⟨_, rfl⟩
  rw [hS] at hd hread ⊢
  replace hS := hide hS
  clear hok hsz
  go_wp2_with fail
  refine hd.out.mono ?_
  rintro e W5 ⟨r, rfl, b5, hres⟩
  obtain ⟨d0, d1, d2, d3, d4, d5, rfl, hjr⟩ := hres
  obtain ⟨la', lc', ka', kc', va', vc', e5, -⟩ := hjr
  have e6 : (#[d0, d1, d2, d3, d4, d5] : Array Value) = #[.int .i64 4, .int .i64 0, .string S, .slice la' 0 lc', .slice ka' 0 kc', .slice va' 0 vc'] := by injection e5
  simp at e6
  obtain ⟨rfl, rfl, rfl, rfl, rfl, rfl⟩ := e6
  have b15 := hide (b14.out.trans (b5.mono b14.out.size))
  have htext := hide (textJ_any W5 S 0 la' ka' va' 0 lc' 0 kc' 0 vc')
  clear b5 hd e5
  go_wp2_with (go_at_call 9; refine htext.out.mono ?_; rintro e W6 ⟨rfl, b6⟩; replace b6 := hide b6)
  have b16 := hide (b15.out.trans (b6.out.mono b15.out.size))
  refine (hread.out W6).mono ?_
  rintro e W7 ⟨y, rfl, hy, b7⟩
  have b17 := hide (b16.out.trans (b7.mono b16.out.size))
  have hys := hide hy.sz
  have hya := hide hy.all
  replace hy := hide hy
  clear b7 q0 q1 q2 q3 q4 q5
  go_upto_region 10 with (refine wpList_store_blk rfl _ _ _ rfl W7.heap.size y.toArray rfl rfl 41 _ (Blk.new W7 _ _) (by rw [hys.out]; exact q_size) (by rw [hys.out]; rfl) hya.out ?_; intro W8 k8 o8 s8; replace k8 := hide k8; replace o8 := hide (only_new o8); clear s8)
  obtain ⟨G, hG⟩ : ∃ G, W7.heap.size = G := ⟨_, rfl⟩
  rw [hG] at k8 ⊢
  have b18 := hide (b17.out.trans (o8.out.below (B := W.heap.size) (by intro k hk; exact hk.elim) b17.out.size))
  have hy8 := hide (hy.out.only o8.out (fun _ _ _ h => h) (P' := (· < W8.heap.size)) (fun b hb _ => by have := o8.out.size; show b < W8.heap.size; omega))
  have kV := hide (kk.out W8 b18.out)
  have jV := hide (kx.out W8 b18.out)
  have lV := kV.out.lt
  have lW8 := b18.out.size
  have lG := k8.out.lt
  replace hG := hide hG
  have hnm := hide (nm_all 62 v hgd.out)
  have hnv := hide (nv_all 62 v hgd.out)
  have hsm := hide (same_query (nq 62 v) hsay.out)
  refine wp_region_inv (by kernel_rfl) (fun listed a w' => ∃ (s34 s35 s36 s37 s38 s39 s40 s41 s42 s43 s44 s45 s46 s47 s48 s49 s50 s51 s52 s53 s54 s2 : Value), a = ⟨#[.agg #[.int .i64 v.kind, .int .i64 v.half, .string v.text, .slice la v.list.length lc, .slice ka v.keys.length kc, .slice va v.vals.length vc], .pointer (some ⟨w.heap.size, 0, none⟩), s2, .string S, .int .i64 0, .string S, .bool true, .pointer (some ⟨G, 0, none⟩), .bool true, .agg #[.int .i64 v.kind, .int .i64 v.half, .string v.text, .slice la v.list.length lc, .slice ka v.keys.length kc, .slice va v.vals.length vc], .bool true, .bool false, .agg #[.int .i64 v.kind, .int .i64 v.half, .string v.text, .slice la v.list.length lc, .slice ka v.keys.length kc, .slice va v.vals.length vc], .slice (some ⟨W1.heap.size, 0, none⟩) 1 1, .bool true, .bool false, .tuple #[.string S, .int .i64 0], .agg #[.int .i64 v.kind, .int .i64 v.half, .string v.text, .slice la v.list.length lc, .slice ka v.keys.length kc, .slice va v.vals.length vc], .tuple #[.string S, .int .i64 0], .string S, .int .i64 0, .int .i64 0, .bool false, .tuple #[.string S, .bool true], .agg #[.int .i64 v.kind, .int .i64 v.half, .string v.text, .slice la v.list.length lc, .slice ka v.keys.length kc, .slice va v.vals.length vc], .agg #[.int .i64 4, .int .i64 0, .string S, .slice la' 0 lc', .slice ka' 0 kc', .slice va' 0 vc', .int .i64 0], .tuple #[.string S, .bool true], .string S, .bool true, .tuple #[.agg y.toArray, .bool true], .string S, .tuple #[.agg y.toArray, .bool true], .agg y.toArray, .bool true, s34, s35, s36, s37, s38, s39, s40, s41, s42, s43, s44, s45, s46, s47, s48, s49, s50, s51, s52, s53, s54], []⟩ ∧ listed.size = 22 ∧ Lv listed [s34, s35, s36, s37, s38, s39, .bool true, s41, s42, .bool true, s44, s45, s46, s47, s48, s49, s50, .bool true, .bool true, s53, s54, s2] [.bool true, .bool true, .bool true, .bool true, .bool true, .agg y.toArray, .bool true, .agg #[.int .i64 v.kind, .int .i64 v.half, .string v.text, .slice la v.list.length lc, .slice ka v.keys.length kc, .slice va v.vals.length vc], .agg #[.string ⟨#[118, 97, 108]⟩, .string ⟨#[]⟩, .int .i64 v.kind, .int .i64 v.half, .string v.text, .slice la v.list.length lc, .slice ka v.keys.length kc, .slice va v.vals.length vc, .slice none 0 0, .slice none 0 0, .slice none 0 0, .slice none 0 0], .bool true, .bool true, .bool true, .bool true, .string S, .string S, .bool true, .bool true, .bool true, .bool true, .bool true, .bool true, .bool true] ∧ LwW W8 (nq 62 v) listed w' s40 s43) ?start ?step ?stop
  case start => exact ⟨_, _, _, _, _, _, _, _, _, _, _, _, _, _, _, _, _, _, _, _, _, _, rfl, rfl, Lv.start, LwW.start⟩
  case step =>
    rintro listed a w' i ⟨s34, s35, s36, s37, s38, s39, s40, s41, s42, s43, s44, s45, s46, s47, s48, s49, s50, s51, s52, s53, s54, s2, rfl, hsz, HL, H⟩ hi
    have hun := Up.un hi
    have hltn : i < 22 := by
      obtain ⟨-, o, ho, -⟩ := mem_ready.1 hi
      rcases Nat.lt_or_ge i 22 with h | h
      · exact h
      · rw [Array.getElem?_eq_none (by exact h)] at ho
        cases ho
    have hsz2 : ∀ i, (listed.setIfInBounds i true).size = 22 := fun i => by rw [Array.size_setIfInBounds]; exact hsz
    replace hsz2 := hide hsz2
    have hin : i = 0 ∨ i = 1 ∨ i = 2 ∨ i = 3 ∨ i = 4 ∨ i = 5 ∨ i = 6 ∨ i = 7 ∨ i = 8 ∨ i = 9 ∨ i = 10 ∨ i = 11 ∨ i = 12 ∨ i = 13 ∨ i = 14 ∨ i = 15 ∨ i = 16 ∨ i = 17 ∨ i = 18 ∨ i = 19 ∨ i = 20 ∨ i = 21 := by omega
    clear hltn
    rcases hin with rfl | rfl | rfl | rfl | rfl | rfl | rfl | rfl | rfl | rfl | rfl | rfl | rfl | rfl | rfl | rfl | rfl | rfl | rfl | rfl | rfl | rfl
    · replace H := hide H
      replace HL := hide HL
      replace hi := hide hi
      replace hun := hide hun
      replace hsz := hide hsz
      refine wpOp_of_list rfl ?_
      go_wp2_with fail
      exact Then.normal ⟨_, _, _, _, _, _, _, _, _, _, _, _, _, _, _, _, _, _, _, _, _, _, rfl, (by first | exact hsz2.out _ | exact hsz.out), HL.out.put 0 rfl, H.out.put 0 rfl rfl⟩
    · obtain rfl := HL.get 0 rfl rfl (Up.waits hi 0 (by kernel_rfl))
      replace H := hide H
      replace HL := hide HL
      replace hi := hide hi
      replace hun := hide hun
      replace hsz := hide hsz
      refine wpOp_of_list rfl ?_
      go_wp2_with fail
      exact Then.normal ⟨_, _, _, _, _, _, _, _, _, _, _, _, _, _, _, _, _, _, _, _, _, _, rfl, (by first | exact hsz2.out _ | exact hsz.out), HL.out.put 1 rfl, H.out.put 1 rfl rfl⟩
    · obtain rfl := HL.get 1 rfl rfl (Up.waits hi 1 (by kernel_rfl))
      replace H := hide H
      replace HL := hide HL
      replace hi := hide hi
      replace hun := hide hun
      replace hsz := hide hsz
      refine wpOp_of_list rfl ?_
      go_wp2_with fail
      exact Then.normal ⟨_, _, _, _, _, _, _, _, _, _, _, _, _, _, _, _, _, _, _, _, _, _, rfl, (by first | exact hsz2.out _ | exact hsz.out), HL.out.put 2 rfl, H.out.put 2 rfl rfl⟩
    · obtain rfl := HL.get 1 rfl rfl (Up.waits hi 1 (by kernel_rfl))
      obtain rfl := HL.get 2 rfl rfl (Up.waits hi 2 (by kernel_rfl))
      replace H := hide H
      replace HL := hide HL
      replace hi := hide hi
      replace hun := hide hun
      replace hsz := hide hsz
      refine wpOp_of_list rfl ?_
      go_wp2_with fail
      exact Then.normal ⟨_, _, _, _, _, _, _, _, _, _, _, _, _, _, _, _, _, _, _, _, _, _, rfl, (by first | exact hsz2.out _ | exact hsz.out), HL.out.put 3 rfl, H.out.put 3 rfl rfl⟩
    · obtain rfl := HL.get 3 rfl rfl (Up.waits hi 3 (by kernel_rfl))
      replace H := hide H
      replace HL := hide HL
      replace hi := hide hi
      replace hun := hide hun
      replace hsz := hide hsz
      refine wpOp_of_list rfl ?_
      go_wp2_with fail
      exact Then.normal ⟨_, _, _, _, _, _, _, _, _, _, _, _, _, _, _, _, _, _, _, _, _, _, rfl, (by first | exact hsz2.out _ | exact hsz.out), HL.out.put 4 rfl, H.out.put 4 rfl rfl⟩
    · obtain rfl := HL.get 4 rfl rfl (Up.waits hi 4 (by kernel_rfl))
      have kk8 := hide (H.onl.blk k8.out (fun h => h))
      replace H := hide H
      replace HL := hide HL
      replace hi := hide hi
      replace hun := hide hun
      replace hsz := hide hsz
      refine wpOp_of_list rfl ?_
      go_wp2_with (refine wpList_load_rowG rfl _ _ rfl G rfl 41 y.toArray (0, 0) _ kk8.out Tryz.underlying41 rfl (by rw [hys.out]; exact q_size) ?_)
      exact Then.normal ⟨_, _, _, _, _, _, _, _, _, _, _, _, _, _, _, _, _, _, _, _, _, _, rfl, (by first | exact hsz2.out _ | exact hsz.out), HL.out.put 5 rfl, H.out.put 5 rfl rfl⟩
    · obtain rfl := HL.get 5 rfl rfl (Up.waits hi 5 (by kernel_rfl))
      obtain rfl := HL.get 4 rfl rfl (Up.waits hi 4 (by kernel_rfl))
      have hyx := hide (q_more hy8.out H.onl)
      replace H := hide H
      replace HL := hide HL
      replace hi := hide hi
      replace hun := hide hun
      replace hsz := hide hsz
      refine wpOp_of_list rfl ?_
      go_wp2_with (go_at_call 13; refine (hnm.out w' y hyx.out).mono ?_; rintro e5 W5' ⟨z, rfl, hz, b5⟩)
      exact Then.normal ⟨_, _, _, _, _, _, _, _, _, _, _, _, _, _, _, _, _, _, _, _, _, _, rfl, (by first | exact hsz2.out _ | exact hsz.out), HL.out.put 6 rfl, H.out.c6 hz b5 (fun _ _ h => h)⟩
    · obtain rfl := HL.get 4 rfl rfl (Up.waits hi 4 (by kernel_rfl))
      obtain ⟨q0, q1, q2, q3, q4, q5⟩ := blk_six (H.onl.blk kV.out (fun h => h))
      replace H := hide H
      replace HL := hide HL
      replace hi := hide hi
      replace hun := hide hun
      replace hsz := hide hsz
      refine wpOp_of_list rfl ?_
      go_wp2_with fail
      exact Then.normal ⟨_, _, _, _, _, _, _, _, _, _, _, _, _, _, _, _, _, _, _, _, _, _, rfl, (by first | exact hsz2.out _ | exact hsz.out), HL.out.put 7 rfl, H.out.put 7 rfl rfl⟩
    · obtain rfl := HL.get 7 rfl rfl (Up.waits hi 7 (by kernel_rfl))
      obtain rfl := HL.get 4 rfl rfl (Up.waits hi 4 (by kernel_rfl))
      replace H := hide H
      replace HL := hide HL
      replace hi := hide hi
      replace hun := hide hun
      replace hsz := hide hsz
      refine wpOp_of_list rfl ?_
      go_wp2_with fail
      exact Then.normal ⟨_, _, _, _, _, _, _, _, _, _, _, _, _, _, _, _, _, _, _, _, _, _, rfl, (by first | exact hsz2.out _ | exact hsz.out), HL.out.put 8 rfl, H.out.put 8 rfl rfl⟩
    · obtain rfl := HL.get 8 rfl rfl (Up.waits hi 8 (by kernel_rfl))
      obtain rfl := HL.get 4 rfl rfl (Up.waits hi 4 (by kernel_rfl))
      have hjx := hide (JAt.keep (B := w.heap.size + 1) (w' := w') (fun p hp => only_cell H.onl p (fun h => h) (by omega)) (Nat.le_refl _) 62 _ _ jV.out)
      have hBw' : w.heap.size + 1 ≤ w'.heap.size := by have := H.onl.size; omega
      replace H := hide H
      replace HL := hide HL
      replace hi := hide hi
      replace hun := hide hun
      replace hsz := hide hsz
      refine wpOp_of_list rfl ?_
      go_wp2_with (go_at_call 13; refine (normal_val (n := 61) hnv.out w' (w.heap.size + 1) _ _ _ _ _ _ none 0 0 hBw' hjx.out).mono ?_; rintro e5 W5' ⟨z, rfl, hz, b5⟩)
      exact Then.normal ⟨_, _, _, _, _, _, _, _, _, _, _, _, _, _, _, _, _, _, _, _, _, _, rfl, (by first | exact hsz2.out _ | exact hsz.out), HL.out.put 9 rfl, H.out.c9 hz b5 (fun _ _ h => h)⟩
    · obtain rfl := HL.get 4 rfl rfl (Up.waits hi 4 (by kernel_rfl))
      obtain ⟨z6, rfl, hz6⟩ := H.f6 (Up.waits hi 6 (by kernel_rfl))
      obtain ⟨z9, rfl, hz9⟩ := H.f9 (Up.waits hi 9 (by kernel_rfl))
      replace hz6 := hide hz6
      replace hz9 := hide hz9
      replace H := hide H
      replace HL := hide HL
      replace hi := hide hi
      replace hun := hide hun
      replace hsz := hide hsz
      refine wpOp_of_list rfl ?_
      go_wp2_with (go_at_call 12; refine (hsm.out w' z6 z9 hz6.out hz9.out).mono ?_; rintro e5 W5' ⟨rfl, b5⟩)
      exact Then.normal ⟨_, _, _, _, _, _, _, _, _, _, _, _, _, _, _, _, _, _, _, _, _, _, rfl, (by first | exact hsz2.out _ | exact hsz.out), HL.out.put 10 rfl, H.out.c10 b5⟩
    · obtain rfl := HL.get 4 rfl rfl (Up.waits hi 4 (by kernel_rfl))
      obtain rfl := HL.get 10 rfl rfl (Up.waits hi 10 (by kernel_rfl))
      replace H := hide H
      replace HL := hide HL
      replace hi := hide hi
      replace hun := hide hun
      replace hsz := hide hsz
      refine wpOp_of_list rfl ?_
      go_wp2_with fail
      exact Then.normal ⟨_, _, _, _, _, _, _, _, _, _, _, _, _, _, _, _, _, _, _, _, _, _, rfl, (by first | exact hsz2.out _ | exact hsz.out), HL.out.put 11 rfl, H.out.put 11 rfl rfl⟩
    · obtain rfl := HL.get 11 rfl rfl (Up.waits hi 11 (by kernel_rfl))
      replace H := hide H
      replace HL := hide HL
      replace hi := hide hi
      replace hun := hide hun
      replace hsz := hide hsz
      refine wpOp_of_list rfl ?_
      go_wp2_with fail
      exact Then.normal ⟨_, _, _, _, _, _, _, _, _, _, _, _, _, _, _, _, _, _, _, _, _, _, rfl, (by first | exact hsz2.out _ | exact hsz.out), HL.out.put 12 rfl, H.out.put 12 rfl rfl⟩
    · obtain rfl := HL.get 12 rfl rfl (Up.waits hi 12 (by kernel_rfl))
      replace H := hide H
      replace HL := hide HL
      replace hi := hide hi
      replace hun := hide hun
      replace hsz := hide hsz
      refine wpOp_of_list rfl ?_
      go_wp2_with fail
      exact Then.normal ⟨_, _, _, _, _, _, _, _, _, _, _, _, _, _, _, _, _, _, _, _, _, _, rfl, (by first | exact hsz2.out _ | exact hsz.out), HL.out.put 13 rfl, H.out.put 13 rfl rfl⟩
    · obtain rfl := HL.get 12 rfl rfl (Up.waits hi 12 (by kernel_rfl))
      replace H := hide H
      replace HL := hide HL
      replace hi := hide hi
      replace hun := hide hun
      replace hsz := hide hsz
      refine wpOp_of_list rfl ?_
      go_wp2_with fail
      exact Then.normal ⟨_, _, _, _, _, _, _, _, _, _, _, _, _, _, _, _, _, _, _, _, _, _, rfl, (by first | exact hsz2.out _ | exact hsz.out), HL.out.put 14 rfl, H.out.put 14 rfl rfl⟩
    · obtain rfl := HL.get 13 rfl rfl (Up.waits hi 13 (by kernel_rfl))
      obtain rfl := HL.get 14 rfl rfl (Up.waits hi 14 (by kernel_rfl))
      obtain rfl := HL.get 12 rfl rfl (Up.waits hi 12 (by kernel_rfl))
      replace H := hide H
      replace HL := hide HL
      replace hi := hide hi
      replace hun := hide hun
      replace hsz := hide hsz
      refine wpOp_of_list rfl ?_
      go_wp2_with fail
      exact Then.normal ⟨_, _, _, _, _, _, _, _, _, _, _, _, _, _, _, _, _, _, _, _, _, _, rfl, (by first | exact hsz2.out _ | exact hsz.out), HL.out.put 15 rfl, H.out.put 15 rfl rfl⟩
    · obtain rfl := HL.get 15 rfl rfl (Up.waits hi 15 (by kernel_rfl))
      obtain rfl := HL.get 12 rfl rfl (Up.waits hi 12 (by kernel_rfl))
      replace H := hide H
      replace HL := hide HL
      replace hi := hide hi
      replace hun := hide hun
      replace hsz := hide hsz
      refine wpOp_of_list rfl ?_
      go_wp2_with fail
      exact Then.normal ⟨_, _, _, _, _, _, _, _, _, _, _, _, _, _, _, _, _, _, _, _, _, _, rfl, (by first | exact hsz2.out _ | exact hsz.out), HL.out.put 16 rfl, H.out.put 16 rfl rfl⟩
    · obtain rfl := HL.get 16 rfl rfl (Up.waits hi 16 (by kernel_rfl))
      replace H := hide H
      replace HL := hide HL
      replace hi := hide hi
      replace hun := hide hun
      replace hsz := hide hsz
      refine wpOp_of_list rfl ?_
      go_wp2_with fail
      exact Then.normal ⟨_, _, _, _, _, _, _, _, _, _, _, _, _, _, _, _, _, _, _, _, _, _, rfl, (by first | exact hsz2.out _ | exact hsz.out), HL.out.put 17 rfl, H.out.put 17 rfl rfl⟩
    · obtain rfl := HL.get 16 rfl rfl (Up.waits hi 16 (by kernel_rfl))
      replace H := hide H
      replace HL := hide HL
      replace hi := hide hi
      replace hun := hide hun
      replace hsz := hide hsz
      refine wpOp_of_list rfl ?_
      go_wp2_with fail
      exact Then.normal ⟨_, _, _, _, _, _, _, _, _, _, _, _, _, _, _, _, _, _, _, _, _, _, rfl, (by first | exact hsz2.out _ | exact hsz.out), HL.out.put 18 rfl, H.out.put 18 rfl rfl⟩
    · obtain rfl := HL.get 16 rfl rfl (Up.waits hi 16 (by kernel_rfl))
      obtain rfl := HL.get 12 rfl rfl (Up.waits hi 12 (by kernel_rfl))
      replace H := hide H
      replace HL := hide HL
      replace hi := hide hi
      replace hun := hide hun
      replace hsz := hide hsz
      refine wpOp_of_list rfl ?_
      go_wp2_with fail
      exact Then.normal ⟨_, _, _, _, _, _, _, _, _, _, _, _, _, _, _, _, _, _, _, _, _, _, rfl, (by first | exact hsz2.out _ | exact hsz.out), HL.out.put 19 rfl, H.out.put 19 rfl rfl⟩
    · obtain rfl := HL.get 12 rfl rfl (Up.waits hi 12 (by kernel_rfl))
      obtain rfl := HL.get 19 rfl rfl (Up.waits hi 19 (by kernel_rfl))
      replace H := hide H
      replace HL := hide HL
      replace hi := hide hi
      replace hun := hide hun
      replace hsz := hide hsz
      refine wpOp_of_list rfl ?_
      go_wp2_with fail
      exact Then.normal ⟨_, _, _, _, _, _, _, _, _, _, _, _, _, _, _, _, _, _, _, _, _, _, rfl, (by first | exact hsz2.out _ | exact hsz.out), HL.out.put 20 rfl, H.out.put 20 rfl rfl⟩
    · obtain rfl := HL.get 20 rfl rfl (Up.waits hi 20 (by kernel_rfl))
      replace H := hide H
      replace HL := hide HL
      replace hi := hide hi
      replace hun := hide hun
      replace hsz := hide hsz
      refine wpOp_of_list rfl ?_
      go_wp2_with fail
      exact Then.normal ⟨_, _, _, _, _, _, _, _, _, _, _, _, _, _, _, _, _, _, _, _, _, _, rfl, (by first | exact hsz2.out _ | exact hsz.out), HL.out.put 21 rfl, H.out.put 21 rfl rfl⟩
  case stop =>
    rintro listed a w' ⟨s34, s35, s36, s37, s38, s39, s40, s41, s42, s43, s44, s45, s46, s47, s48, s49, s50, s51, s52, s53, s54, s2, rfl, hsz, HL, H⟩ hi
    have hall := Up.all hsz (by kernel_rfl) hi
    obtain rfl := HL.get 21 rfl rfl (hall 21 (by decide))
    have ho9 := hide H.onl
    clear H HL hall hi
    go_wp2_with fail
    go_ret
    exact ⟨rfl, bW.out.trans ((b18.out.trans (ho9.out.below (B := W.heap.size) (by intro k hk; exact hk.elim) lW8)).mono bW.out.size)⟩
end Go.Proofs.YtbnbemacljjimaaGreatDoor
