/- What a type assertion says of the types that a value can have. -/
import Derived.Test.YtbnbemacljjimaaGreatDoorJc02
import Derived.Stop.Asserts
import Derived.Laws.Tables
import Derived.Test.YtbnbemacljjimaaGreatDoorJc01
import Derived.Laws.Externs
namespace Go.Proofs.YtbnbemacljjimaaGreatDoor
open Go.RowKit
set_option linter.unusedVariables false
@[go_sem] theorem as_bool_bool (v : Value) (w : World) : (Instr.typeAssert (.iface 4 v) 20 4 true).run Tryz.prog w = .ok (.tuple #[v, .bool true]) w := by kernel_rfl
@[go_sem] theorem as_bool_int (v : Value) (w : World) : (Instr.typeAssert (.iface 4 v) 20 3 true).run Tryz.prog w = .ok (.tuple #[(.int .i64 0), .bool false]) w := by kernel_rfl
@[go_sem] theorem as_bool_float (v : Value) (w : World) : (Instr.typeAssert (.iface 4 v) 20 82 true).run Tryz.prog w = .ok (.tuple #[(.float .f64 0), .bool false]) w := by kernel_rfl
@[go_sem] theorem as_bool_str (v : Value) (w : World) : (Instr.typeAssert (.iface 4 v) 20 9 true).run Tryz.prog w = .ok (.tuple #[(.string ByteArray.empty), .bool false]) w := by kernel_rfl
@[go_sem] theorem as_bool_list (v : Value) (w : World) : (Instr.typeAssert (.iface 4 v) 20 83 true).run Tryz.prog w = .ok (.tuple #[(.slice none 0 0), .bool false]) w := by kernel_rfl
@[go_sem] theorem as_bool_map (v : Value) (w : World) : (Instr.typeAssert (.iface 4 v) 20 86 true).run Tryz.prog w = .ok (.tuple #[(.map none), .bool false]) w := by kernel_rfl
@[go_sem] theorem as_bool_big (v : Value) (w : World) : (Instr.typeAssert (.iface 4 v) 20 156 true).run Tryz.prog w = .ok (.tuple #[(.pointer none), .bool false]) w := by kernel_rfl
@[go_sem] theorem as_bool_num (v : Value) (w : World) : (Instr.typeAssert (.iface 4 v) 20 158 true).run Tryz.prog w = .ok (.tuple #[(.string ByteArray.empty), .bool false]) w := by kernel_rfl
@[go_sem] theorem as_int_bool (v : Value) (w : World) : (Instr.typeAssert (.iface 3 v) 20 4 true).run Tryz.prog w = .ok (.tuple #[(.bool false), .bool false]) w := by kernel_rfl
@[go_sem] theorem as_int_int (v : Value) (w : World) : (Instr.typeAssert (.iface 3 v) 20 3 true).run Tryz.prog w = .ok (.tuple #[v, .bool true]) w := by kernel_rfl
@[go_sem] theorem as_int_float (v : Value) (w : World) : (Instr.typeAssert (.iface 3 v) 20 82 true).run Tryz.prog w = .ok (.tuple #[(.float .f64 0), .bool false]) w := by kernel_rfl
@[go_sem] theorem as_int_str (v : Value) (w : World) : (Instr.typeAssert (.iface 3 v) 20 9 true).run Tryz.prog w = .ok (.tuple #[(.string ByteArray.empty), .bool false]) w := by kernel_rfl
@[go_sem] theorem as_int_list (v : Value) (w : World) : (Instr.typeAssert (.iface 3 v) 20 83 true).run Tryz.prog w = .ok (.tuple #[(.slice none 0 0), .bool false]) w := by kernel_rfl
@[go_sem] theorem as_int_map (v : Value) (w : World) : (Instr.typeAssert (.iface 3 v) 20 86 true).run Tryz.prog w = .ok (.tuple #[(.map none), .bool false]) w := by kernel_rfl
@[go_sem] theorem as_int_big (v : Value) (w : World) : (Instr.typeAssert (.iface 3 v) 20 156 true).run Tryz.prog w = .ok (.tuple #[(.pointer none), .bool false]) w := by kernel_rfl
@[go_sem] theorem as_int_num (v : Value) (w : World) : (Instr.typeAssert (.iface 3 v) 20 158 true).run Tryz.prog w = .ok (.tuple #[(.string ByteArray.empty), .bool false]) w := by kernel_rfl
@[go_sem] theorem as_float_bool (v : Value) (w : World) : (Instr.typeAssert (.iface 82 v) 20 4 true).run Tryz.prog w = .ok (.tuple #[(.bool false), .bool false]) w := by kernel_rfl
@[go_sem] theorem as_float_int (v : Value) (w : World) : (Instr.typeAssert (.iface 82 v) 20 3 true).run Tryz.prog w = .ok (.tuple #[(.int .i64 0), .bool false]) w := by kernel_rfl
@[go_sem] theorem as_float_float (v : Value) (w : World) : (Instr.typeAssert (.iface 82 v) 20 82 true).run Tryz.prog w = .ok (.tuple #[v, .bool true]) w := by kernel_rfl
@[go_sem] theorem as_float_str (v : Value) (w : World) : (Instr.typeAssert (.iface 82 v) 20 9 true).run Tryz.prog w = .ok (.tuple #[(.string ByteArray.empty), .bool false]) w := by kernel_rfl
@[go_sem] theorem as_float_list (v : Value) (w : World) : (Instr.typeAssert (.iface 82 v) 20 83 true).run Tryz.prog w = .ok (.tuple #[(.slice none 0 0), .bool false]) w := by kernel_rfl
@[go_sem] theorem as_float_map (v : Value) (w : World) : (Instr.typeAssert (.iface 82 v) 20 86 true).run Tryz.prog w = .ok (.tuple #[(.map none), .bool false]) w := by kernel_rfl
@[go_sem] theorem as_float_big (v : Value) (w : World) : (Instr.typeAssert (.iface 82 v) 20 156 true).run Tryz.prog w = .ok (.tuple #[(.pointer none), .bool false]) w := by kernel_rfl
@[go_sem] theorem as_float_num (v : Value) (w : World) : (Instr.typeAssert (.iface 82 v) 20 158 true).run Tryz.prog w = .ok (.tuple #[(.string ByteArray.empty), .bool false]) w := by kernel_rfl
@[go_sem] theorem as_str_bool (v : Value) (w : World) : (Instr.typeAssert (.iface 9 v) 20 4 true).run Tryz.prog w = .ok (.tuple #[(.bool false), .bool false]) w := by kernel_rfl
@[go_sem] theorem as_str_int (v : Value) (w : World) : (Instr.typeAssert (.iface 9 v) 20 3 true).run Tryz.prog w = .ok (.tuple #[(.int .i64 0), .bool false]) w := by kernel_rfl
@[go_sem] theorem as_str_float (v : Value) (w : World) : (Instr.typeAssert (.iface 9 v) 20 82 true).run Tryz.prog w = .ok (.tuple #[(.float .f64 0), .bool false]) w := by kernel_rfl
@[go_sem] theorem as_str_str (v : Value) (w : World) : (Instr.typeAssert (.iface 9 v) 20 9 true).run Tryz.prog w = .ok (.tuple #[v, .bool true]) w := by kernel_rfl
@[go_sem] theorem as_str_list (v : Value) (w : World) : (Instr.typeAssert (.iface 9 v) 20 83 true).run Tryz.prog w = .ok (.tuple #[(.slice none 0 0), .bool false]) w := by kernel_rfl
@[go_sem] theorem as_str_map (v : Value) (w : World) : (Instr.typeAssert (.iface 9 v) 20 86 true).run Tryz.prog w = .ok (.tuple #[(.map none), .bool false]) w := by kernel_rfl
@[go_sem] theorem as_str_big (v : Value) (w : World) : (Instr.typeAssert (.iface 9 v) 20 156 true).run Tryz.prog w = .ok (.tuple #[(.pointer none), .bool false]) w := by kernel_rfl
@[go_sem] theorem as_str_num (v : Value) (w : World) : (Instr.typeAssert (.iface 9 v) 20 158 true).run Tryz.prog w = .ok (.tuple #[(.string ByteArray.empty), .bool false]) w := by kernel_rfl
@[go_sem] theorem as_list_bool (v : Value) (w : World) : (Instr.typeAssert (.iface 83 v) 20 4 true).run Tryz.prog w = .ok (.tuple #[(.bool false), .bool false]) w := by kernel_rfl
@[go_sem] theorem as_list_int (v : Value) (w : World) : (Instr.typeAssert (.iface 83 v) 20 3 true).run Tryz.prog w = .ok (.tuple #[(.int .i64 0), .bool false]) w := by kernel_rfl
@[go_sem] theorem as_list_float (v : Value) (w : World) : (Instr.typeAssert (.iface 83 v) 20 82 true).run Tryz.prog w = .ok (.tuple #[(.float .f64 0), .bool false]) w := by kernel_rfl
@[go_sem] theorem as_list_str (v : Value) (w : World) : (Instr.typeAssert (.iface 83 v) 20 9 true).run Tryz.prog w = .ok (.tuple #[(.string ByteArray.empty), .bool false]) w := by kernel_rfl
@[go_sem] theorem as_list_list (v : Value) (w : World) : (Instr.typeAssert (.iface 83 v) 20 83 true).run Tryz.prog w = .ok (.tuple #[v, .bool true]) w := by kernel_rfl
@[go_sem] theorem as_list_map (v : Value) (w : World) : (Instr.typeAssert (.iface 83 v) 20 86 true).run Tryz.prog w = .ok (.tuple #[(.map none), .bool false]) w := by kernel_rfl
@[go_sem] theorem as_list_big (v : Value) (w : World) : (Instr.typeAssert (.iface 83 v) 20 156 true).run Tryz.prog w = .ok (.tuple #[(.pointer none), .bool false]) w := by kernel_rfl
@[go_sem] theorem as_list_num (v : Value) (w : World) : (Instr.typeAssert (.iface 83 v) 20 158 true).run Tryz.prog w = .ok (.tuple #[(.string ByteArray.empty), .bool false]) w := by kernel_rfl
@[go_sem] theorem as_map_bool (v : Value) (w : World) : (Instr.typeAssert (.iface 86 v) 20 4 true).run Tryz.prog w = .ok (.tuple #[(.bool false), .bool false]) w := by kernel_rfl
@[go_sem] theorem as_map_int (v : Value) (w : World) : (Instr.typeAssert (.iface 86 v) 20 3 true).run Tryz.prog w = .ok (.tuple #[(.int .i64 0), .bool false]) w := by kernel_rfl
@[go_sem] theorem as_map_float (v : Value) (w : World) : (Instr.typeAssert (.iface 86 v) 20 82 true).run Tryz.prog w = .ok (.tuple #[(.float .f64 0), .bool false]) w := by kernel_rfl
@[go_sem] theorem as_map_str (v : Value) (w : World) : (Instr.typeAssert (.iface 86 v) 20 9 true).run Tryz.prog w = .ok (.tuple #[(.string ByteArray.empty), .bool false]) w := by kernel_rfl
@[go_sem] theorem as_map_list (v : Value) (w : World) : (Instr.typeAssert (.iface 86 v) 20 83 true).run Tryz.prog w = .ok (.tuple #[(.slice none 0 0), .bool false]) w := by kernel_rfl
@[go_sem] theorem as_map_map (v : Value) (w : World) : (Instr.typeAssert (.iface 86 v) 20 86 true).run Tryz.prog w = .ok (.tuple #[v, .bool true]) w := by kernel_rfl
@[go_sem] theorem as_map_big (v : Value) (w : World) : (Instr.typeAssert (.iface 86 v) 20 156 true).run Tryz.prog w = .ok (.tuple #[(.pointer none), .bool false]) w := by kernel_rfl
@[go_sem] theorem as_map_num (v : Value) (w : World) : (Instr.typeAssert (.iface 86 v) 20 158 true).run Tryz.prog w = .ok (.tuple #[(.string ByteArray.empty), .bool false]) w := by kernel_rfl
@[go_sem] theorem as_nil_bool (w : World) : (Instr.typeAssert .nilIface 20 4 true).run Tryz.prog w = .ok (.tuple #[(.bool false), .bool false]) w := by kernel_rfl
@[go_sem] theorem as_nil_int (w : World) : (Instr.typeAssert .nilIface 20 3 true).run Tryz.prog w = .ok (.tuple #[(.int .i64 0), .bool false]) w := by kernel_rfl
@[go_sem] theorem as_nil_float (w : World) : (Instr.typeAssert .nilIface 20 82 true).run Tryz.prog w = .ok (.tuple #[(.float .f64 0), .bool false]) w := by kernel_rfl
@[go_sem] theorem as_nil_str (w : World) : (Instr.typeAssert .nilIface 20 9 true).run Tryz.prog w = .ok (.tuple #[(.string ByteArray.empty), .bool false]) w := by kernel_rfl
@[go_sem] theorem as_nil_list (w : World) : (Instr.typeAssert .nilIface 20 83 true).run Tryz.prog w = .ok (.tuple #[(.slice none 0 0), .bool false]) w := by kernel_rfl
@[go_sem] theorem as_nil_map (w : World) : (Instr.typeAssert .nilIface 20 86 true).run Tryz.prog w = .ok (.tuple #[(.map none), .bool false]) w := by kernel_rfl
@[go_sem] theorem as_nil_big (w : World) : (Instr.typeAssert .nilIface 20 156 true).run Tryz.prog w = .ok (.tuple #[(.pointer none), .bool false]) w := by kernel_rfl
@[go_sem] theorem as_nil_num (w : World) : (Instr.typeAssert .nilIface 20 158 true).run Tryz.prog w = .ok (.tuple #[(.string ByteArray.empty), .bool false]) w := by kernel_rfl
@[go_sem] theorem as_bool_err (v : Value) (w : World) : (Instr.typeAssert (.iface 4 v) 20 90 true).run Tryz.prog w = .ok (.tuple #[.nilIface, .bool false]) w := run_typeAssert_lacksB Tryz.underlying90 (by kernel_rfl) (by kernel_rfl) v 20 w
@[go_sem] theorem as_int_err (v : Value) (w : World) : (Instr.typeAssert (.iface 3 v) 20 90 true).run Tryz.prog w = .ok (.tuple #[.nilIface, .bool false]) w := run_typeAssert_lacksB Tryz.underlying90 (by kernel_rfl) (by kernel_rfl) v 20 w
@[go_sem] theorem as_float_err (v : Value) (w : World) : (Instr.typeAssert (.iface 82 v) 20 90 true).run Tryz.prog w = .ok (.tuple #[.nilIface, .bool false]) w := run_typeAssert_lacksB Tryz.underlying90 (by kernel_rfl) (by kernel_rfl) v 20 w
@[go_sem] theorem as_str_err (v : Value) (w : World) : (Instr.typeAssert (.iface 9 v) 20 90 true).run Tryz.prog w = .ok (.tuple #[.nilIface, .bool false]) w := run_typeAssert_lacksB Tryz.underlying90 (by kernel_rfl) (by kernel_rfl) v 20 w
@[go_sem] theorem as_list_err (v : Value) (w : World) : (Instr.typeAssert (.iface 83 v) 20 90 true).run Tryz.prog w = .ok (.tuple #[.nilIface, .bool false]) w := run_typeAssert_lacksB Tryz.underlying90 (by kernel_rfl) (by kernel_rfl) v 20 w
@[go_sem] theorem as_map_err (v : Value) (w : World) : (Instr.typeAssert (.iface 86 v) 20 90 true).run Tryz.prog w = .ok (.tuple #[.nilIface, .bool false]) w := run_typeAssert_lacksB Tryz.underlying90 (by kernel_rfl) (by kernel_rfl) v 20 w
@[go_sem] theorem as_nil_err (w : World) : (Instr.typeAssert .nilIface 20 90 true).run Tryz.prog w = .ok (.tuple #[.nilIface, .bool false]) w := by kernel_rfl
@[go_sem] theorem as_func0TypeError_err (v : Value) (w : World) : (Instr.typeAssert (.iface 136 v) 20 90 true).run Tryz.prog w = .ok (.tuple #[.iface 136 v, .bool true]) w := run_typeAssert_hasB Tryz.underlying90 (by kernel_rfl) v 20 w
@[go_sem] theorem as_formatRowError_err (v : Value) (w : World) : (Instr.typeAssert (.iface 139 v) 20 90 true).run Tryz.prog w = .ok (.tuple #[.iface 139 v, .bool true]) w := run_typeAssert_hasB Tryz.underlying90 (by kernel_rfl) v 20 w
end Go.Proofs.YtbnbemacljjimaaGreatDoor

namespace Go.Proofs.YtbnbemacljjimaaGreatDoor
open Go.RowKit
set_option linter.unusedVariables false

theorem setRow_blk {w : World} {g : Nat} {t : TypeId} {old cells : Array Value} (h : Blk w g t old) : Blk (w.setRow g cells) g t cells := by
  unfold Blk at h ⊢
  simp [World.setRow, Array.getElem?_modify, h]
theorem setRow_only (w : World) (g : Nat) (cells : Array Value) : Only (· = g) w (w.setRow g cells) := by
  refine ⟨rfl, rfl, rfl, by simp [World.setRow], fun i _ hi => ?_⟩
  simp [World.setRow, Array.getElem?_modify]
  intro e
  exact absurd e.symm hi

theorem wpList_store_blk {P : Program} {ops : Array Oper} {rest : List Oper} {o : Oper} {a : Act} {w : World} {Q : Exit → Act → World → Prop} (hgd : o.guard = none) (ty : TypeId) (x y : Operand) (ho : o.op = .store ty x y)
    (g : Nat) (cells : Array Value) (hx : a.eval x = .pointer (some ⟨g, 0, none⟩)) (hy : a.eval y = .agg cells)
    (t : TypeId) (old : Array Value) (hg : Blk w g t old) (hi : (P.info? ty).map (·.size) = some cells.size)
    (hold : old.size = cells.size) (h1 : cells.all (·.oneCell') = true)
    (h : ∀ w', Blk w' g t cells → Only (· = g) w w' → w'.heap.size = w.heap.size → wpList P ops Q rest (a.put o.dst undef) w') : wpList P ops Q (o :: rest) a w :=
  wpList_store_row hgd ty x y ho g cells hx hy t old hg hi hold h1 (h _ (setRow_blk hg) (setRow_only w g cells) (by simp [World.setRow]))

theorem val_one (k h : Int) (s : ByteArray) (la ka va : Option Addr) (l lc m kc p vc : Nat) : (#[.int .i64 k, .int .i64 h, .string s, .slice la l lc, .slice ka m kc, .slice va p vc] : Array Value).all (·.oneCell') = true := by simp [Value.oneCell']
theorem res_one (k h z : Int) (s : ByteArray) (la ka va : Option Addr) (l lc m kc p vc : Nat) : (#[.int .i64 k, .int .i64 h, .string s, .slice la l lc, .slice ka m kc, .slice va p vc, .int .i64 z] : Array Value).all (·.oneCell') = true := by simp [Value.oneCell']
theorem val_size : (Tryz.prog.info? 26).map (·.size) = some 6 := by kernel_rfl
theorem res_size : (Tryz.prog.info? 35).map (·.size) = some 7 := by kernel_rfl

/-- The seven cells of a block of answers. -/
theorem blk_seven {w : World} {g : Nat} {t : TypeId} {a0 a1 a2 a3 a4 a5 a6 : Value} (h : Blk w g t #[a0, a1, a2, a3, a4, a5, a6]) :
    w.cell? ⟨g, 0, none⟩ = some a0 ∧ w.cell? ⟨g, 1, none⟩ = some a1 ∧ w.cell? ⟨g, 2, none⟩ = some a2 ∧ w.cell? ⟨g, 3, none⟩ = some a3 ∧ w.cell? ⟨g, 4, none⟩ = some a4 ∧ w.cell? ⟨g, 5, none⟩ = some a5 ∧ w.cell? ⟨g, 6, none⟩ = some a6 :=
  ⟨h.cell 0, h.cell 1, h.cell 2, h.cell 3, h.cell 4, h.cell 5, h.cell 6⟩
theorem blk_six {w : World} {g : Nat} {t : TypeId} {a0 a1 a2 a3 a4 a5 : Value} (h : Blk w g t #[a0, a1, a2, a3, a4, a5]) :
    w.cell? ⟨g, 0, none⟩ = some a0 ∧ w.cell? ⟨g, 1, none⟩ = some a1 ∧ w.cell? ⟨g, 2, none⟩ = some a2 ∧ w.cell? ⟨g, 3, none⟩ = some a3 ∧ w.cell? ⟨g, 4, none⟩ = some a4 ∧ w.cell? ⟨g, 5, none⟩ = some a5 :=
  ⟨h.cell 0, h.cell 1, h.cell 2, h.cell 3, h.cell 4, h.cell 5⟩
end Go.Proofs.YtbnbemacljjimaaGreatDoor

namespace Go.Proofs.YtbnbemacljjimaaGreatDoor
open Go.RowKit
set_option linter.unusedVariables false

def StrsP (w : World) (P : Nat → Prop) (A : Option Addr) (xs : List ByteArray) : Prop :=
  (∀ s ∈ xs, s.size ≤ 9223372036854775807) ∧ (0 < xs.length → ∃ b o, A = some ⟨b, o, none⟩ ∧ P b ∧ ∀ i s, xs[i]? = some s → w.cell? ⟨b, o + i, none⟩ = some (.string s))

def VecP (R : Value → JV → Prop) (w : World) (P : Nat → Prop) (A : Option Addr) (xs : List JV) : Prop :=
  0 < xs.length → ∃ b o, A = some ⟨b, o, none⟩ ∧ P b ∧ ∀ i x, xs[i]? = some x → ∃ c0 c1 c2 c3 c4 c5, w.cell? ⟨b, o + i * 6, none⟩ = some c0 ∧ w.cell? ⟨b, o + i * 6 + 1, none⟩ = some c1 ∧
    w.cell? ⟨b, o + i * 6 + 2, none⟩ = some c2 ∧ w.cell? ⟨b, o + i * 6 + 3, none⟩ = some c3 ∧ w.cell? ⟨b, o + i * 6 + 4, none⟩ = some c4 ∧ w.cell? ⟨b, o + i * 6 + 5, none⟩ = some c5 ∧ R (.agg #[c0, c1, c2, c3, c4, c5]) x

def JP (w : World) (P : Nat → Prop) : Nat → Value → JV → Prop
  | 0, _, _ => True
  | n + 1, x, v => ∃ la lc ka kc va vc, x = .agg #[.int .i64 v.kind, .int .i64 v.half, .string v.text, .slice la v.list.length lc, .slice ka v.keys.length kc, .slice va v.vals.length vc] ∧
      v.list.length ≤ lc ∧ v.keys.length ≤ kc ∧ v.vals.length ≤ vc ∧ lc ≤ 9223372036854775807 ∧ kc ≤ 9223372036854775807 ∧ vc ≤ 9223372036854775807 ∧ v.text.size ≤ 9223372036854775807 ∧
      (-9223372036854775808 ≤ v.kind ∧ v.kind ≤ 9223372036854775807) ∧ (-9223372036854775808 ≤ v.half ∧ v.half ≤ 9223372036854775807) ∧
      VecP (JP w P n) w P la v.list ∧ StrsP w P ka v.keys ∧ VecP (JP w P n) w P va v.vals

section
variable {w w' : World} {P Q : Nat → Prop}
theorem StrsP.keep {A xs} (h : StrsP w P A xs) (hk : ∀ p : Addr, P p.block → w'.cell? p = w.cell? p) (hB : ∀ b, P b → Q b) : StrsP w' Q A xs :=
  ⟨h.1, fun hl => by
    obtain ⟨b, o, e, hb, hc⟩ := h.2 hl
    exact ⟨b, o, e, hB b hb, fun i s hs => (hk _ hb).trans (hc i s hs)⟩⟩
theorem VecP.keep {R R' : Value → JV → Prop} {A xs} (h : VecP R w P A xs) (hk : ∀ p : Addr, P p.block → w'.cell? p = w.cell? p) (hB : ∀ b, P b → Q b) (hR : ∀ x v, R x v → R' x v) : VecP R' w' Q A xs := fun hl => by
  obtain ⟨b, o, e, hb, hc⟩ := h hl
  refine ⟨b, o, e, hB b hb, fun i x hx => ?_⟩
  obtain ⟨c0, c1, c2, c3, c4, c5, h0, h1, h2, h3, h4, h5, hr⟩ := hc i x hx
  exact ⟨c0, c1, c2, c3, c4, c5, (hk _ hb).trans h0, (hk _ hb).trans h1, (hk _ hb).trans h2, (hk _ hb).trans h3, (hk _ hb).trans h4, (hk _ hb).trans h5, hR _ _ hr⟩
theorem JP.keep (hk : ∀ p : Addr, P p.block → w'.cell? p = w.cell? p) (hB : ∀ b, P b → Q b) : ∀ (n : Nat) (x : Value) (v : JV), JP w P n x v → JP w' Q n x v
  | 0, _, _, _ => trivial
  | n + 1, x, v, h => by
    obtain ⟨la, lc, ka, kc, va, vc, e, h1, h2, h3, h4, h5, h6, h7, h8, h9, hl, hs, hv⟩ := h
    exact ⟨la, lc, ka, kc, va, vc, e, h1, h2, h3, h4, h5, h6, h7, h8, h9, hl.keep hk hB (JP.keep hk hB n), hs.keep hk hB, hv.keep hk hB (JP.keep hk hB n)⟩
theorem JP.more (hB : ∀ b, P b → Q b) {n x v} (h : JP w P n x v) : JP w Q n x v := JP.keep (fun _ _ => rfl) hB n x v h
theorem JP.jat : ∀ (n : Nat) {B : Nat} {x : Value} {v : JV}, (∀ b, P b → b < B) → JP w P n x v → JAt w B n x v
  | 0, _, _, _, _, _ => trivial
  | n + 1, B, x, v, hB, h => by
    obtain ⟨la, lc, ka, kc, va, vc, e, h1, h2, h3, h4, h5, h6, h7, h8, h9, hl, hs, hv⟩ := h
    refine ⟨la, lc, ka, kc, va, vc, e, h1, h2, h3, h4, h5, h6, h7, h8, h9, fun hp => ?_, ⟨hs.1, fun hp => ?_⟩, fun hp => ?_⟩
    · obtain ⟨b, o, e, hb, hc⟩ := hl hp
      refine ⟨b, o, e, hB b hb, fun i x hx => ?_⟩
      obtain ⟨c0, c1, c2, c3, c4, c5, g0, g1, g2, g3, g4, g5, hr⟩ := hc i x hx
      exact ⟨c0, c1, c2, c3, c4, c5, g0, g1, g2, g3, g4, g5, JP.jat n hB hr⟩
    · obtain ⟨b, o, e, hb, hc⟩ := hs.2 hp
      exact ⟨b, o, e, hB b hb, hc⟩
    · obtain ⟨b, o, e, hb, hc⟩ := hv hp
      refine ⟨b, o, e, hB b hb, fun i x hx => ?_⟩
      obtain ⟨c0, c1, c2, c3, c4, c5, g0, g1, g2, g3, g4, g5, hr⟩ := hc i x hx
      exact ⟨c0, c1, c2, c3, c4, c5, g0, g1, g2, g3, g4, g5, JP.jat n hB hr⟩
theorem JP.of_jat : ∀ (n : Nat) {B : Nat} {x : Value} {v : JV}, JAt w B n x v → JP w (· < B) n x v
  | 0, _, _, _, _ => trivial
  | n + 1, B, x, v, h => by
    obtain ⟨la, lc, ka, kc, va, vc, e, h1, h2, h3, h4, h5, h6, h7, h8, h9, hl, hs, hv⟩ := h
    refine ⟨la, lc, ka, kc, va, vc, e, h1, h2, h3, h4, h5, h6, h7, h8, h9, fun hp => ?_, ⟨hs.1, fun hp => ?_⟩, fun hp => ?_⟩
    · obtain ⟨b, o, e, hb, hc⟩ := hl hp
      refine ⟨b, o, e, hb, fun i x hx => ?_⟩
      obtain ⟨c0, c1, c2, c3, c4, c5, g0, g1, g2, g3, g4, g5, hr⟩ := hc i x hx
      exact ⟨c0, c1, c2, c3, c4, c5, g0, g1, g2, g3, g4, g5, JP.of_jat n hr⟩
    · obtain ⟨b, o, e, hb, hc⟩ := hs.2 hp
      exact ⟨b, o, e, hb, hc⟩
    · obtain ⟨b, o, e, hb, hc⟩ := hv hp
      refine ⟨b, o, e, hb, fun i x hx => ?_⟩
      obtain ⟨c0, c1, c2, c3, c4, c5, g0, g1, g2, g3, g4, g5, hr⟩ := hc i x hx
      exact ⟨c0, c1, c2, c3, c4, c5, g0, g1, g2, g3, g4, g5, JP.of_jat n hr⟩
end

/-- The blocks that a call has made. -/
def Mid (lo hi : Nat) (b : Nat) : Prop := lo ≤ b ∧ b < hi
end Go.Proofs.YtbnbemacljjimaaGreatDoor

namespace Go.Proofs.YtbnbemacljjimaaGreatDoor
open Go.RowKit
set_option linter.unusedVariables false

def FGat (n : Nat) (w : World) (x : Value) (v : JV) : Prop := Calls Tryz.prog 45 #[x] w fun e w' => ∃ r, e = .returned (.tuple #[r, .bool true]) ∧ Below w.heap.size w w' ∧ JP w' (Mid w.heap.size w'.heap.size) n r v

theorem JAt.form {w : World} {B n : Nat} {r : Value} {v : JV} (h : JAt w B (n + 1) r v) : ∃ c0 c1 c2 c3 c4 c5, r = .agg #[c0, c1, c2, c3, c4, c5] := by
  obtain ⟨la, lc, ka, kc, va, vc, rfl, -⟩ := h
  exact ⟨_, _, _, _, _, _, rfl⟩

theorem GAt.noerr {w : World} {lo n : Nat} {x : Value} {v : JV} (h : GAt w lo n x v) (W : World) : (Instr.typeAssert x 20 90 true).run Tryz.prog W = .ok (.tuple #[.nilIface, .bool false]) W := by
  cases n with
  | zero => exact absurd h (fun h => h)
  | succ n =>
    rcases h with h | h | h | h | h | h | h | h
    · rw [h.2]; exact as_nil_err W
    · rw [h.2]; exact as_bool_err _ W
    · rw [h.2]; exact as_bool_err _ W
    · rw [h.2.2]; exact as_int_err _ W
    · rw [h.2.2]; exact as_float_err _ W
    · rw [h.2]; exact as_str_err _ W
    · obtain ⟨-, b, o, c, h, -⟩ := h
      rw [h]; exact as_list_err _ W
    · obtain ⟨-, b, ents, h, -⟩ := h
      rw [h]; exact as_map_err _ W

set_option maxHeartbeats 1000000 in
set_option maxRecDepth 100000 in
theorem result_of (n : Nat) (w : World) (lo : Nat) (x : Value) (v : JV) (hx : GAt w lo (n + 1) x v) (hf : ∀ W, Below w.heap.size w W → FGat (n + 1) W x v) :
    Calls Tryz.prog 23 #[x] w fun e w' => ∃ la lc ka kc va vc, e = .returned (.agg #[.int .i64 v.kind, .int .i64 v.half, .string v.text, .slice la v.list.length lc, .slice ka v.keys.length kc, .slice va v.vals.length vc, .int .i64 0]) ∧ Below w.heap.size w w' ∧
      JP w' (Mid w.heap.size w'.heap.size) (n + 1) (.agg #[.int .i64 v.kind, .int .i64 v.half, .string v.text, .slice la v.list.length lc, .slice ka v.keys.length kc, .slice va v.vals.length vc]) v := by
  have hne := fun W => hx.noerr W
  have hform := hx.form
  replace hx := hide hx
  obtain ⟨W0, hW0⟩ : ∃ W0, W0 = w.alloc (.cells #[.int .i64 0, .int .i64 0, .string ⟨#[]⟩, .slice none 0 0, .slice none 0 0, .slice none 0 0, .int .i64 0] 35) := ⟨_, rfl⟩
  have b0 : Below w.heap.size w W0 := by rw [hW0]; exact Below.alloc (Below.refl _ _) (Nat.le_refl _) _
  have k0 : Blk W0 w.heap.size 35 #[.int .i64 0, .int .i64 0, .string ⟨#[]⟩, .slice none 0 0, .slice none 0 0, .slice none 0 0, .int .i64 0] := by rw [hW0]; exact Blk.new w _ _
  have hfc := hide (hf W0 b0)
  have hs0 := k0.lt
  replace b0 := hide b0
  replace k0 := hide k0
  clear hf
  rcases hform with rfl | ⟨ty, u, rfl⟩
  all_goals
    go_enter Tryz.func23, Tryz.ntmps23
    go_wp2_with fail
    rw [← hW0]
    clear hW0
    refine hfc.out.mono ?_
    rintro e W1 ⟨r, rfl, b1, hr⟩
    have hr' := hide hr
    obtain ⟨la, lc, ka, kc, va, vc, rfl, -⟩ := hr
    have k1 := k0.out.below b1 hs0
    have hs1 := k1.lt
    replace k1 := hide (k1.alloc (.cells #[.int .i64 v.kind, .int .i64 v.half, .string v.text, .slice la v.list.length lc, .slice ka v.keys.length kc, .slice va v.vals.length vc] 26))
    have b2 := hide (b0.out.trans (b1.mono b0.out.size))
    replace b1 := hide b1
    go_upto_region 7 with fail
    go_wp2_with (refine wpList_store_blk rfl 35 (.tmp 2) (.tmp 23) rfl w.heap.size _ rfl rfl 35 _ k1.out res_size rfl (res_one _ _ _ _ _ _ _ _ _ _ _ _ _) ?_; intro W3 k3 o3 s3)
    obtain ⟨q0, q1, q2, q3, q4, q5, q6⟩ := blk_seven k3
    have o3' := hide o3
    have s3' := hide s3
    clear o3 s3 k3
    refine bodyPost_ret (v := .agg #[.int .i64 v.kind, .int .i64 v.half, .string v.text, .slice la v.list.length lc, .slice ka v.keys.length kc, .slice va v.vals.length vc, .int .i64 0]) (by simp [results, Tryz.results23, go_sem, q0, q1, q2, q3, q4, q5, q6]) rfl ⟨_, _, _, _, _, _, rfl, ?_, ?_⟩
    · exact (b2.out.alloc b2.out.size _).trans (o3'.out.below (by intro k hk; omega) (by simp; omega))
    · refine JP.keep (fun p hp => ?_) (fun b hb => ⟨by have := hb.1; omega, by have := hb.2; rw [s3'.out]; simp; omega⟩) _ _ _ hr'.out
      have hp1 := hp.1
      have hp2 := hp.2
      refine (World.cell?_of_block (o3'.out.block _ (by simp; omega) (by intro e; omega))).trans ?_
      exact World.cell?_alloc_lt _ _ _ hp2
end Go.Proofs.YtbnbemacljjimaaGreatDoor

namespace Go.Proofs.YtbnbemacljjimaaGreatDoor
open Ieee

def sgnw (neg : Bool) (r sig : Nat) : Nat := double.word neg (r * 4503599627370496 + sig)

theorem d_sw : double.signWeight = 9223372036854775808 := by decide
theorem d_bin : double.binade = 4503599627370496 := by decide
theorem d_inf : double.infRung = 9218868437227405312 := by decide
theorem d_lp : double.leastPlace = -1074 := by decide
theorem d_fb : double.fractionBits = 52 := rfl

theorem read_word (neg : Bool) (r sig : Nat) (h1 : 4503599627370496 ≤ sig) (h2 : sig < 9007199254740992) (hr : r ≤ 2000) : double.read (sgnw neg r sig) = .number neg sig ((r : Int) - 1074) := by
  have e1 : sgnw neg r sig % double.signWeight = r * 4503599627370496 + sig := by
    unfold sgnw Format.word
    rw [d_sw]
    split <;> omega
  have e2 : (sgnw neg r sig / double.signWeight % 2 == 1) = neg := by
    unfold sgnw Format.word
    rw [d_sw]
    cases neg
    · simp
      omega
    · simp
      omega
  unfold Format.read
  simp only [e1, e2, d_bin, d_inf, d_lp]
  rw [if_neg (by omega), if_pos (by omega)]
  have e3 : (r * 4503599627370496 + sig) % 4503599627370496 = sig - 4503599627370496 := by omega
  have e4 : (r * 4503599627370496 + sig) / 4503599627370496 = r + 1 := by omega
  rw [e3, e4]
  have e5 : 4503599627370496 + (sig - 4503599627370496) = sig := by omega
  rw [e5]
  have e6 : (-1074 : Int) + ((r + 1 - 1 : Nat) : Int) = (r : Int) - 1074 := by omega
  rw [e6]

theorem min_word (r sig : Nat) (hr : r ≤ 2000) (hs : sig < 9007199254740992) : min (r * 4503599627370496 + sig) 9218868437227405312 = r * 4503599627370496 + sig := by omega

theorem log2_bounds {m k : Nat} (h1 : 2 ^ k ≤ m) (h2 : m < 2 ^ (k + 1)) : m.log2 = k := by
  have hm : m ≠ 0 := by have := Nat.two_pow_pos k; omega
  have a := Nat.log2_lt hm (k := k + 1)
  have b := Nat.le_log2 hm (k := k)
  have := a.2 h2
  have := b.2 h1
  omega

theorem cut_exact (neg : Bool) (sig k : Nat) (hk : k ≤ (sig * 2 ^ k).log2 + 2) (way : Toward) (hw : way = .even ∨ way = .zero) : way.cut neg (sig * 2 ^ k) k = sig := by
  unfold Toward.cut
  have e : min k ((sig * 2 ^ k).log2 + 2) = k := by omega
  have hp := Nat.two_pow_pos k
  simp only [e, Nat.one_shiftLeft, Nat.mul_div_cancel _ hp, Nat.mul_mod_left]
  rcases hw with rfl | rfl
  · have h1 : decide (2 ^ k < 2 * 0) = false := by simp
    have h2 : ((2 ^ k == 2 * 0) && sig % 2 == 1) = false := by
      have : (2 ^ k == 2 * 0) = false := by simp
      rw [this]; rfl
    simp
  · simp

theorem log2_sig (sig k : Nat) (h1 : 4503599627370496 ≤ sig) (h2 : sig < 9007199254740992) : (sig * 2 ^ k).log2 = 52 + k := by
  refine log2_bounds ?_ ?_
  · rw [Nat.pow_add]
    exact Nat.mul_le_mul_right _ h1
  · rw [show 52 + k + 1 = 53 + k by omega, Nat.pow_add]
    exact (Nat.mul_lt_mul_right (Nat.two_pow_pos k)).2 h2

theorem nearest_exact (neg : Bool) (sig k : Nat) (place : Int) (h1 : 4503599627370496 ≤ sig) (h2 : sig < 9007199254740992) (p1 : -1000 ≤ place + k) (p2 : place + k ≤ 900) :
    double.nearest neg (sig * 2 ^ k) place = sgnw neg (place + k + 1074).toNat sig := by
  have hl := log2_sig sig k h1 h2
  have hm : sig * 2 ^ k ≠ 0 := by have := Nat.two_pow_pos k; exact Nat.mul_ne_zero (by omega) (by omega)
  unfold Format.nearest
  rw [if_neg hm]
  simp only [hl, d_fb, d_lp, d_bin, d_inf]
  have e1 : max (place + ((52 + k : Nat) : Int) - (52 : Nat)) (-1074) = place + k := by omega
  rw [e1]
  have e2 : (place - (place + (k : Int))).toNat = 0 := by omega
  have e3 : (place + (k : Int) - place).toNat = k := by omega
  have e4 : place + (k : Int) - -1074 = place + k + 1074 := by omega
  rw [e2, e3, Nat.shiftLeft_zero, cut_exact neg sig k (by rw [hl]; omega) .even (Or.inl rfl), e4]
  have e5 : min ((place + (k : Int) + 1074).toNat * 4503599627370496 + sig) 9218868437227405312 = (place + (k : Int) + 1074).toNat * 4503599627370496 + sig := by omega
  rw [e5, sgnw]

/-- The digits of a small whole number, and where they stand. -/
def sigOf (m : Nat) : Nat := m * 2 ^ (52 - m.log2)
def upOf (m : Nat) : Nat := 52 - m.log2

theorem log2_le {m : Nat} (h0 : 0 < m) (h : m < 9007199254740992) : m.log2 ≤ 52 := by
  have := (Nat.log2_lt (by omega) (k := 53)).2 h
  omega

theorem sigOf_bounds {m : Nat} (h0 : 0 < m) (h : m < 9007199254740992) : 4503599627370496 ≤ sigOf m ∧ sigOf m < 9007199254740992 := by
  have hl := log2_le h0 h
  have h1 : 2 ^ m.log2 ≤ m := Nat.log2_self_le (by omega)
  have h2 : m < 2 ^ (m.log2 + 1) := Nat.lt_log2_self
  have hp := Nat.two_pow_pos (52 - m.log2)
  have e1 : 2 ^ m.log2 * 2 ^ (52 - m.log2) = 4503599627370496 := by rw [← Nat.pow_add, show m.log2 + (52 - m.log2) = 52 by omega]
  have e2 : 2 ^ (m.log2 + 1) * 2 ^ (52 - m.log2) = 9007199254740992 := by rw [← Nat.pow_add, show m.log2 + 1 + (52 - m.log2) = 53 by omega]
  unfold sigOf
  refine ⟨?_, ?_⟩
  · rw [← e1]; exact Nat.mul_le_mul_right _ h1
  · rw [← e2]; exact (Nat.mul_lt_mul_right hp).2 h2

theorem small_last (m : Nat) (hl : m.log2 ≤ 52) : max ((0 : Int) + (m.log2 : Int) - ((52 : Nat) : Int)) (-1074) = (m.log2 : Int) - 52 := by omega
theorem small_up (m : Nat) (hl : m.log2 ≤ 52) : ((0 : Int) - ((m.log2 : Int) - 52)).toNat = 52 - m.log2 := by omega
theorem small_drop (m : Nat) (hl : m.log2 ≤ 52) : ((m.log2 : Int) - 52 - 0).toNat = 0 := by omega
theorem small_place (m : Nat) (hl : m.log2 ≤ 52) : ((m.log2 : Int) - 52 - -1074).toNat = 1074 - upOf m := by unfold upOf; omega
theorem nearest_small (neg : Bool) {m : Nat} (h0 : 0 < m) (h : m < 9007199254740992) : double.nearest neg m 0 = sgnw neg (1074 - upOf m) (sigOf m) := by
  have hl := log2_le h0 h
  have hb := sigOf_bounds h0 h
  have e6 := cut_exact neg (sigOf m) 0 (Nat.zero_le _) .even (Or.inl rfl)
  rw [Nat.pow_zero, Nat.mul_one] at e6
  have e7 : m <<< (52 - m.log2) = sigOf m := by rw [sigOf, Nat.shiftLeft_eq]
  have e5 := min_word (1074 - upOf m) (sigOf m) (by omega) hb.2
  unfold Format.nearest
  rw [if_neg (by omega)]
  simp only [d_fb, d_lp, d_bin, d_inf, small_last m hl, small_up m hl, small_drop m hl, small_place m hl, e7, e6, e5]
  rw [sgnw]

theorem read_small' (neg : Bool) {m : Nat} (h0 : 0 < m) (h : m < 9007199254740992) : double.read (double.nearest neg m 0) = .number neg (sigOf m) (-(upOf m : Int)) := by
  have hb := sigOf_bounds h0 h
  have hl := log2_le h0 h
  rw [nearest_small neg h0 h, read_word neg _ _ hb.1 hb.2 (by omega)]
  have e7 : ((1074 - upOf m : Nat) : Int) - 1074 = -(upOf m : Int) := by unfold upOf; omega
  rw [e7]

theorem quot_two (neg : Bool) (sig : Nat) (e : Int) (h1 : 4503599627370496 ≤ sig) (h2 : sig < 9007199254740992) : (Datum.number neg sig e).quotient 54 (.number false 4503599627370496 (-51)) = some (.number neg (sig * 2 ^ 3) (e - 4)) := by
  have hlog : sig.log2 = 52 := by have := log2_sig sig 0 h1 h2; simpa using this
  have hlog2 : (4503599627370496 : Nat).log2 = 52 := by decide
  have e1 : sig <<< 54 = (sig * 4) * 4503599627370496 := by rw [Nat.shiftLeft_eq]; omega
  have e2 : sig * 4 * 4503599627370496 / 4503599627370496 = sig * 4 := Nat.mul_div_cancel _ (by decide)
  have e3 : sig * 4 * 4503599627370496 % 4503599627370496 = 0 := Nat.mul_mod_left _ _
  have e4 : (54 + 52 - 52 : Nat) = 54 := by decide
  simp only [Datum.quotient, hlog, hlog2, e4, e1, e2, e3]
  rw [if_neg (by decide)]
  have e5 : 2 * (sig * 4) + (0 != 0).toNat = sig * 2 ^ 3 := by simp; omega
  have e6 : e - -51 - ((54 : Nat) : Int) - 1 = e - 4 := by omega
  rw [e5, e6, Bool.xor_false]

/-- A half's digits stand one place lower. -/
theorem half_word (neg : Bool) {m : Nat} (h0 : 0 < m) (h : m < 9007199254740992) : double.div (double.nearest neg m 0) 4611686018427387904 = some (sgnw neg (1073 - upOf m) (sigOf m)) := by
  have hb := sigOf_bounds h0 h
  have hl := log2_le h0 h
  unfold Format.div
  rw [read_small' neg h0 h, two_read, show double.fractionBits + 2 = 54 from rfl, quot_two neg _ _ hb.1 hb.2]
  simp only [Option.map_some, Format.write]
  rw [nearest_exact neg (sigOf m) 3 _ hb.1 hb.2 (by unfold upOf; omega) (by unfold upOf; omega)]
  have e7 : (-(upOf m : Int) - 4 + (3 : Nat) + 1074).toNat = 1073 - upOf m := by unfold upOf; omega
  rw [e7]

theorem twice_word (neg : Bool) {m : Nat} (h0 : 0 < m) (h : m < 9007199254740992) : double.mul 4611686018427387904 (sgnw neg (1073 - upOf m) (sigOf m)) = some (double.nearest neg m 0) := by
  have hb := sigOf_bounds h0 h
  have hl := log2_le h0 h
  unfold Format.mul
  rw [two_read, read_word neg _ _ hb.1 hb.2 (by omega)]
  simp only [Datum.product, Option.map_some, Format.write, Bool.false_xor]
  have e4 : 4503599627370496 * sigOf m = sigOf m * 2 ^ 52 := by omega
  rw [e4, nearest_exact neg (sigOf m) 52 _ hb.1 hb.2 (by unfold upOf; omega) (by unfold upOf; omega), nearest_small neg h0 h]
  have e7 : ((-51 : Int) + (((1073 - upOf m : Nat) : Int) - 1074) + (52 : Nat) + 1074).toNat = 1074 - upOf m := by unfold upOf; omega
  rw [e7]

/-- A small number that is not nought. -/
def Sml (h : Int) : Prop := h ≠ 0 ∧ -9007199254740992 < h ∧ h < 9007199254740992

theorem Sml.pos {h : Int} (hs : Sml h) : 0 < h.natAbs ∧ h.natAbs < 9007199254740992 := by
  obtain ⟨h0, h1, h2⟩ := hs
  omega

theorem floatOfInt_eq (h : Int) : floatOfInt .f64 h = double.nearest (h < 0) h.natAbs 0 := rfl

theorem halfBits_eq {h : Int} (hs : Sml h) : halfBits h = sgnw (decide (h < 0)) (1073 - upOf h.natAbs) (sigOf h.natAbs) := by
  have e := half_eq h
  have := half_word (decide (h < 0)) hs.pos.1 hs.pos.2
  have e2 : floatBits .quo .f64 (floatOfInt .f64 h) 4611686018427387904 = double.div (double.nearest (h < 0) h.natAbs 0) 4611686018427387904 := rfl
  rw [e2, this] at e
  exact (Option.some.inj e).symm

theorem twice_half {h : Int} (hs : Sml h) : floatBits .mul .f64 4611686018427387904 (halfBits h) = some (floatOfInt .f64 h) := by
  rw [halfBits_eq hs]
  exact twice_word _ hs.pos.1 hs.pos.2

theorem read_int {h : Int} (hs : Sml h) : double.read (floatOfInt .f64 h) = .number (decide (h < 0)) (sigOf h.natAbs) (-(upOf h.natAbs : Int)) := read_small' _ hs.pos.1 hs.pos.2

theorem integral_int {h : Int} (hs : Sml h) : (double.read (floatOfInt .f64 h)).integral .zero = .number (decide (h < 0)) h.natAbs 0 := by
  rw [read_int hs]
  have hl := log2_le hs.pos.1 hs.pos.2
  simp only [Datum.integral]
  have e1 : (-(upOf h.natAbs : Int)).toNat = 0 := by omega
  have e2 : (- -(upOf h.natAbs : Int)).toNat = upOf h.natAbs := by omega
  rw [e1, e2, Nat.shiftLeft_zero]
  have e3 := cut_exact (decide (h < 0)) h.natAbs (upOf h.natAbs) (by
    have := (log2_sig (sigOf h.natAbs) 0 (sigOf_bounds hs.pos.1 hs.pos.2).1 (sigOf_bounds hs.pos.1 hs.pos.2).2)
    have e : h.natAbs * 2 ^ upOf h.natAbs = sigOf h.natAbs * 2 ^ 0 := by simp [sigOf, upOf]
    rw [e, this]; unfold upOf; omega) .zero (Or.inr rfl)
  have e4 : sigOf h.natAbs = h.natAbs * 2 ^ upOf h.natAbs := rfl
  rw [e4, e3]

theorem trunc_int {h : Int} (hs : Sml h) : FloatKind.f64.encode ((double.read (floatOfInt .f64 h)).integral .zero) = floatOfInt .f64 h := by
  rw [integral_int hs]
  rfl

theorem toInt_int {h : Int} (hs : Sml h) : floatToIntVal .f64 (floatOfInt .f64 h) .i64 = some h := by
  have e : (FloatKind.f64.decode (floatOfInt .f64 h)).toInt .zero = some h := by
    show (double.read (floatOfInt .f64 h)).toInt .zero = some h
    unfold Datum.toInt
    rw [integral_int hs]
    simp only [signed, Nat.shiftLeft_zero]
    obtain ⟨h0, h1, h2⟩ := hs
    by_cases hn : h < 0
    · simp [hn]; omega
    · simp [hn]; omega
  unfold floatToIntVal
  rw [e]
  obtain ⟨h0, h1, h2⟩ := hs
  have m1 : IntKind.i64.min = -9223372036854775808 := by decide
  have m2 : IntKind.i64.max = 9223372036854775807 := by decide
  simp only [m1, m2]
  rw [if_pos (by omega)]

theorem order_self {h : Int} (hs : Sml h) : FloatKind.f64.format.order (floatOfInt .f64 h) (floatOfInt .f64 h) = some .eq := by
  show (double.read (floatOfInt .f64 h)).order (double.read (floatOfInt .f64 h)) = some .eq
  rw [read_int hs]
  simp [Datum.order]

theorem big_read : double.read 4886405595696988160 = .number false 4503599627370496 10 := by decide
theorem low_read : double.read 14109777632551763968 = .number true 4503599627370496 10 := by decide

theorem sig_small {h : Int} (hs : Sml h) (neg : Bool) (k : Nat) : signed neg (sigOf h.natAbs) 0 < (4503599627370496 <<< (10 + k) : Nat) ∧ -((4503599627370496 <<< (10 + k) : Nat) : Int) < signed neg (sigOf h.natAbs) 0 := by
  have hb := sigOf_bounds hs.pos.1 hs.pos.2
  have hp := Nat.two_pow_pos k
  have e : (4503599627370496 <<< (10 + k) : Nat) = 4611686018427387904 * 2 ^ k := by rw [Nat.shiftLeft_eq, Nat.pow_add, ← Nat.mul_assoc]
  have hge : 4611686018427387904 ≤ 4611686018427387904 * 2 ^ k := Nat.le_mul_of_pos_right _ hp
  rw [e]
  unfold signed
  rw [Nat.shiftLeft_zero]
  split <;> omega

theorem order_big {h : Int} (hs : Sml h) : FloatKind.f64.format.order (floatOfInt .f64 h) 4886405595696988160 = some .lt := by
  show (double.read (floatOfInt .f64 h)).order (double.read 4886405595696988160) = some .lt
  rw [read_int hs, big_read]
  simp only [Datum.order]
  have e0 : min (-(upOf h.natAbs : Int)) 10 = -(upOf h.natAbs : Int) := by omega
  rw [e0]
  have e1 : (-(upOf h.natAbs : Int) - -(upOf h.natAbs : Int)).toNat = 0 := by omega
  have e2 : ((10 : Int) - -(upOf h.natAbs : Int)).toNat = 10 + upOf h.natAbs := by omega
  rw [e1, e2]
  have := (sig_small hs (decide (h < 0)) (upOf h.natAbs)).1
  have e3 : signed false 4503599627370496 (10 + upOf h.natAbs) = ((4503599627370496 <<< (10 + upOf h.natAbs) : Nat) : Int) := rfl
  rw [e3]
  have : compare (signed (decide (h < 0)) (sigOf h.natAbs) 0) ((4503599627370496 <<< (10 + upOf h.natAbs) : Nat) : Int) = .lt := by
    rw [Int.compare_eq_lt]; exact this
  rw [this]

theorem order_low {h : Int} (hs : Sml h) : FloatKind.f64.format.order (floatOfInt .f64 h) 14109777632551763968 = some .gt := by
  show (double.read (floatOfInt .f64 h)).order (double.read 14109777632551763968) = some .gt
  rw [read_int hs, low_read]
  simp only [Datum.order]
  have e0 : min (-(upOf h.natAbs : Int)) 10 = -(upOf h.natAbs : Int) := by omega
  rw [e0]
  have e1 : (-(upOf h.natAbs : Int) - -(upOf h.natAbs : Int)).toNat = 0 := by omega
  have e2 : ((10 : Int) - -(upOf h.natAbs : Int)).toNat = 10 + upOf h.natAbs := by omega
  rw [e1, e2]
  have := (sig_small hs (decide (h < 0)) (upOf h.natAbs)).2
  have e3 : signed true 4503599627370496 (10 + upOf h.natAbs) = -((4503599627370496 <<< (10 + upOf h.natAbs) : Nat) : Int) := rfl
  rw [e3]
  have : compare (signed (decide (h < 0)) (sigOf h.natAbs) 0) (-((4503599627370496 <<< (10 + upOf h.natAbs) : Nat) : Int)) = .gt := by
    rw [Int.compare_eq_gt]; exact this
  rw [this]
end Go.Proofs.YtbnbemacljjimaaGreatDoor

namespace Go.Proofs.YtbnbemacljjimaaGreatDoor
open Go.RowKit
set_option linter.unusedVariables false

theorem trunc_form : ∃ f : Nat → Bool → Nat → Sem Value, ∀ x : Nat, Extern.MathFloor.toIntegral "math.archTrunc" .zero #[.float .f64 x] =
    (match FloatKind.f64.decode x with
      | .nan s r => f x s r
      | d => pure (.float .f64 (FloatKind.f64.encode (d.integral .zero)))) := ⟨_, fun x => rfl⟩

theorem trunc_entry {P : Program} (w : World) (h : Int) (hs : Sml h) : (Extern.MathFloor.toIntegral "math.archTrunc" .zero #[.float .f64 (floatOfInt .f64 h)]).run P w = .ok (.float .f64 (floatOfInt .f64 h)) w := by
  have e1 : FloatKind.f64.decode (floatOfInt .f64 h) = .number (decide (h < 0)) (sigOf h.natAbs) (-(upOf h.natAbs : Int)) := read_int hs
  have e2 : FloatKind.f64.encode ((Ieee.Datum.number (decide (h < 0)) (sigOf h.natAbs) (-(upOf h.natAbs : Int))).integral .zero) = floatOfInt .f64 h := by
    rw [← e1]; exact trunc_int hs
  obtain ⟨f, hf⟩ := trunc_form
  rw [hf, e1]
  show Sem.run P (pure (Value.float .f64 (FloatKind.f64.encode ((Ieee.Datum.number (decide (h < 0)) (sigOf h.natAbs) (-(upOf h.natAbs : Int))).integral .zero)))) w = _
  rw [e2]
  rfl

theorem archTrunc_run (w : World) (h : Int) (hs : Sml h) : (callFunc 97 #[.float .f64 (floatOfInt .f64 h)]).run Tryz.prog w = .ok (.value (.float .f64 (floatOfInt .f64 h))) w := by
  rw [run_callFunc_extern (e := Extern.MathFloor.toIntegral "math.archTrunc" .zero) Tryz.func97 (by kernel_rfl) (by kernel_rfl) (by kernel_rfl) (by kernel_rfl), trunc_entry w h hs]
  rfl

theorem trunc_any (w : World) (h : Int) (hs : Sml h) : Calls Tryz.prog 89 #[.float .f64 (floatOfInt .f64 h)] w fun e w' => e = .returned (.float .f64 (floatOfInt .f64 h)) ∧ w = w' := by
  have hr := fun w => archTrunc_run w h hs
  go_enter Tryz.func89, Tryz.ntmps89
  go_wp2
  go_ret
  exact ⟨rfl, rfl⟩

set_option maxHeartbeats 1000000 in
set_option maxRecDepth 100000 in
theorem half_any (w : World) (h : Int) (hs : Sml h) : Calls Tryz.prog 67 #[.float .f64 (floatOfInt .f64 h)] w fun e w' => e = .returned (.tuple #[.agg #[.int .i64 3, .int .i64 h, .string ⟨#[]⟩, .slice none 0 0, .slice none 0 0, .slice none 0 0], .bool true]) ∧ Below w.heap.size w w' := by
  have h1 := order_self hs
  have h2 := order_big hs
  have h3 := order_low hs
  have hc : ∀ W : World, (convert 82 3 (.float .f64 (floatOfInt .f64 h))).run Tryz.prog W = .ok (.int .i64 h) W := fun W => run_convert_float_int W 82 3 .f64 .i64 _ h (by kernel_rfl) Tryz.underlying3 (toInt_int hs)
  obtain ⟨x, hx⟩ : ∃ x, x = floatOfInt .f64 h := ⟨_, rfl⟩
  have ht : ∀ W, Calls Tryz.prog 89 #[.float .f64 x] W fun e w' => e = .returned (.float .f64 x) ∧ W = w' := by rw [hx]; exact fun W => trunc_any W h hs
  rw [← hx] at h1 h2 h3 hc ⊢
  clear hx
  replace hs := hide hs
  replace ht := hide ht
  go_enter Tryz.func67, Tryz.ntmps67
  go_wp2_with (go_at_call 89; refine (ht.out _).mono ?_; rintro e W2 ⟨rfl, rfl⟩)
  exact bodyPost_ret (v := .tuple #[.agg #[.int .i64 3, .int .i64 h, .string ⟨#[]⟩, .slice none 0 0, .slice none 0 0, .slice none 0 0], .bool true]) (by simp [results, Tryz.results67, go_sem]) rfl ⟨rfl, (Below.refl _ _).alloc (Nat.le_refl _) _⟩
end Go.Proofs.YtbnbemacljjimaaGreatDoor
