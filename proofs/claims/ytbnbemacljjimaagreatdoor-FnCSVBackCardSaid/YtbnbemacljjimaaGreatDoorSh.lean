/-
  DERIVED: THE SHELF's CONTRACTS AT THIS DUMP, IN PLAIN WORDS (tools/lay-plain.mjs out of 'YtbnbemacljjimaaGreatDoorSh.lean', which tools/lay-shelf.mjs wrote): THE SAME DECLARATIONS UNDER THE SAME NAMES: 'import', 'namespace', 'open', 'def', 'theorem' AND NOTHING ELSE: no command of the shelf's: FOR A HAND-IN. Each laying: the table of numbers ('.._ren') and one theorem, a field a fact of the dump's own or the kernel's comparison; each contract: ONE APPLICATION.
-/
import Derived.Shelf.Lays
import Derived.Shelf.Strings.Builder1
import Derived.Shelf.Strings.OnBuilder
import Derived.Shelf.Strings.BuilderF
import Derived.Shelf.Strings.BuilderK
import Derived.Test.YtbnbemacljjimaaGreatDoorProg
namespace Go.Proofs
open Go.Shelf
def Tryz.lays196_ren : Go.Shelf.Ren := ⟨fun | 196 => 88 | 259 => 96 | n => n, fun | 9 => 9 | 4 => 4 | 3 => 3 | 5 => 5 | 12 => 12 | 119 => 145 | 0 => 0 | 46 => 149 | 139 => 148 | 138 => 147 | 53 => 165 | n => n, fun | 3 => 0 | 4 => 1 | n => n⟩
theorem Tryz.lays196 : Go.Proofs.Lays.n196 Tryz.prog Tryz.lays196_ren := {
  mixed := by kernel_rfl
  f196 := Tryz.func88.trans (congrArg some (by kernel_rfl))
  f259 := Tryz.func96.trans (congrArg some (by kernel_rfl))
  t0 := Tryz.underlying0
  a0 := Tryz.isAgg0
  z0 := Tryz.sizeOf0
  v0 := Tryz.zeroValue0
  t3 := Tryz.underlying3
  a3 := Tryz.isAgg3
  z3 := Tryz.sizeOf3
  v3 := Tryz.zeroValue3
  t4 := Tryz.underlying4
  a4 := Tryz.isAgg4
  z4 := Tryz.sizeOf4
  v4 := Tryz.zeroValue4
  t5 := Tryz.underlying5
  a5 := Tryz.isAgg5
  z5 := Tryz.sizeOf5
  v5 := Tryz.zeroValue5
  t9 := Tryz.underlying9
  a9 := Tryz.isAgg9
  z9 := Tryz.sizeOf9
  v9 := Tryz.zeroValue9
  t12 := Tryz.underlying12
  a12 := Tryz.isAgg12
  z12 := Tryz.sizeOf12
  v12 := Tryz.zeroValue12
  t46 := Tryz.underlying149
  a46 := Tryz.isAgg149
  z46 := Tryz.sizeOf149
  v46 := Tryz.zeroValue149
  t53 := Tryz.underlying165
  a53 := Tryz.isAgg165
  z53 := Tryz.sizeOf165
  v53 := Tryz.zeroValue165
  t119 := Tryz.underlying145
  a119 := Tryz.isAgg145
  z119 := Tryz.sizeOf145
  t138 := Tryz.underlying147
  a138 := Tryz.isAgg147
  z138 := Tryz.sizeOf147
  v138 := Tryz.zeroValue147
  t139 := Tryz.underlying148
  a139 := Tryz.isAgg148
  z139 := Tryz.sizeOf148
  v139 := Tryz.zeroValue148
  g3 := by kernel_rfl
  g4 := by kernel_rfl }
def Tryz.lays169_ren : Go.Shelf.Ren := ⟨fun | 169 => 93 | n => n, fun | 70 => 126 | 9 => 9 | 0 => 0 | 72 => 128 | 37 => 119 | 127 => 161 | 3 => 3 | 5 => 5 | n => n, fun | n => n⟩
theorem Tryz.lays169 : Go.Proofs.Lays.n169 Tryz.prog Tryz.lays169_ren := {
  mixed := by kernel_rfl
  f169 := Tryz.func93.trans (congrArg some (by kernel_rfl))
  t0 := Tryz.underlying0
  a0 := Tryz.isAgg0
  z0 := Tryz.sizeOf0
  v0 := Tryz.zeroValue0
  t3 := Tryz.underlying3
  a3 := Tryz.isAgg3
  z3 := Tryz.sizeOf3
  v3 := Tryz.zeroValue3
  t9 := Tryz.underlying9
  a9 := Tryz.isAgg9
  z9 := Tryz.sizeOf9
  v9 := Tryz.zeroValue9
  t37 := Tryz.underlying119
  a37 := Tryz.isAgg119
  z37 := Tryz.sizeOf119
  v37 := Tryz.zeroValue119
  t70 := Tryz.underlying126
  a70 := Tryz.isAgg126
  z70 := Tryz.sizeOf126
  v70 := Tryz.zeroValue126
  t72 := Tryz.underlying128
  a72 := Tryz.isAgg128
  z72 := Tryz.sizeOf128
  v72 := Tryz.zeroValue128
  t127 := Tryz.underlying161
  a127 := Tryz.isAgg161
  z127 := Tryz.sizeOf161
  v127 := Tryz.zeroValue161 }
theorem Tryz.Builder_Extra_169 : Builder.Extra Tryz.prog Tryz.lays169_ren := {
  sizeBuilder := by kernel_rfl
  liesBuilder := by kernel_rfl
  t5 := Tryz.underlying5
  a5 := Tryz.isAgg5
  z5 := Tryz.sizeOf5
  v5 := Tryz.zeroValue5
  infoByte := by kernel_rfl
  cellsByte := by kernel_rfl
  sizeByte := by kernel_rfl
  neB5 := by decide }
def Tryz.lays156_ren : Go.Shelf.Ren := ⟨fun | 156 => 95 | 165 => 112 | 166 => 113 | 169 => 93 | 240 => 130 | 241 => 131 | 276 => 155 | 277 => 156 | n => n, fun | 31 => 24 | 9 => 9 | 3 => 3 | 4 => 4 | 0 => 0 | 20 => 20 | 72 => 128 | 76 => 151 | 70 => 126 | 37 => 119 | 75 => 90 | 127 => 161 | 164 => 202 | 5 => 5 | 80 => 110 | n => n, fun | n => n⟩
theorem Tryz.lays156 : Go.Proofs.Lays.n156 Tryz.prog Tryz.lays156_ren := {
  mixed := by kernel_rfl
  f156 := Tryz.func95.trans (congrArg some (by kernel_rfl))
  f165 := Tryz.func112.trans (congrArg some (by kernel_rfl))
  f166 := Tryz.func113.trans (congrArg some (by kernel_rfl))
  f169 := Tryz.func93.trans (congrArg some (by kernel_rfl))
  f240 := Tryz.func130.trans (congrArg some (by kernel_rfl))
  f241 := Tryz.func131.trans (congrArg some (by kernel_rfl))
  f276 := Tryz.func155.trans (congrArg some (by kernel_rfl))
  f277 := Tryz.func156.trans (congrArg some (by kernel_rfl))
  t0 := Tryz.underlying0
  a0 := Tryz.isAgg0
  z0 := Tryz.sizeOf0
  v0 := Tryz.zeroValue0
  t3 := Tryz.underlying3
  a3 := Tryz.isAgg3
  z3 := Tryz.sizeOf3
  v3 := Tryz.zeroValue3
  t4 := Tryz.underlying4
  a4 := Tryz.isAgg4
  z4 := Tryz.sizeOf4
  v4 := Tryz.zeroValue4
  t9 := Tryz.underlying9
  a9 := Tryz.isAgg9
  z9 := Tryz.sizeOf9
  v9 := Tryz.zeroValue9
  t20 := Tryz.underlying20
  a20 := Tryz.isAgg20
  z20 := Tryz.sizeOf20
  v20 := Tryz.zeroValue20
  t31 := Tryz.underlying24
  a31 := Tryz.isAgg24
  z31 := Tryz.sizeOf24
  v31 := Tryz.zeroValue24
  t37 := Tryz.underlying119
  a37 := Tryz.isAgg119
  z37 := Tryz.sizeOf119
  v37 := Tryz.zeroValue119
  t70 := Tryz.underlying126
  a70 := Tryz.isAgg126
  z70 := Tryz.sizeOf126
  v70 := Tryz.zeroValue126
  t72 := Tryz.underlying128
  a72 := Tryz.isAgg128
  z72 := Tryz.sizeOf128
  v72 := Tryz.zeroValue128
  t75 := Tryz.underlying90
  a75 := Tryz.isAgg90
  z75 := Tryz.sizeOf90
  v75 := Tryz.zeroValue90
  t76 := Tryz.underlying151
  a76 := Tryz.isAgg151
  z76 := Tryz.sizeOf151
  v76 := Tryz.zeroValue151
  t127 := Tryz.underlying161
  a127 := Tryz.isAgg161
  z127 := Tryz.sizeOf161
  v127 := Tryz.zeroValue161
  t164 := Tryz.underlying202
  a164 := Tryz.isAgg202
  z164 := Tryz.sizeOf202
  v164 := Tryz.zeroValue202 }
theorem Tryz.Builder_Extra_156 : Builder.Extra Tryz.prog Tryz.lays156_ren := {
  sizeBuilder := by kernel_rfl
  liesBuilder := by kernel_rfl
  t5 := Tryz.underlying5
  a5 := Tryz.isAgg5
  z5 := Tryz.sizeOf5
  v5 := Tryz.zeroValue5
  infoByte := by kernel_rfl
  cellsByte := by kernel_rfl
  sizeByte := by kernel_rfl
  neB5 := by decide }
open Go.RowKit in
/-- (*strings.Builder).String: "String returns the accumulated string.": WHATEVER THE BUILDER HOLDS; THE FORM '_k': OVER 'Lib.IsBuilderF' (a builder that 'String()' may have read), AND WITH THE FRAME THAT REACHES ABOVE THE BUILDER: 'Lib.OthersKept': every block that is not b and is no row of uint8's stands as it stood: the iterator of a range among them. (LAID: no walk: one application.) -/
theorem Tryz.Builder_String_any_k (B b : Nat) (l : List UInt8) (w : World) (h : Lib.IsBuilderF 128 5 B b (Lib.byteCells l) w) (hBw : B ≤ w.heap.size) :
    Calls Tryz.prog 93 #[.pointer (some ⟨b, 0, none⟩)] w fun e w' => e = .returned (.string ⟨l.toArray⟩) ∧ (Lib.IsBuilderF 128 5 B b (Lib.byteCells l) w' ∧ Below B w w' ∧ Lib.OthersKept 5 (some b) w w') := Any.Builder_String_any_k Tryz.lays169 Tryz.Builder_Extra_169 B b l w h hBw
open Go.RowKit in
/-- strings.Join: "Join concatenates the elements of its first argument to create a single string. The separator string sep is placed between elements in the resulting string.": HOWEVER MANY ELEMENTS. Below the heap's end the world is as it was. (LAID: no walk: one application.) -/
theorem Tryz.strings_Join (bk o c : Nat) (xs : List ByteArray) (sep : ByteArray) (w : World) (hcells : ∀ (j : Nat) x, xs[j]? = some x → w.cell? ⟨bk, o + j, none⟩ = some (.string x)) (hbk : bk < w.heap.size) (hN : xs.length ≤ 140737488355328) (hcap : xs.length ≤ c) (hlen : (Lib.join (xs.map (·.data.toList)) sep.data.toList).length ≤ 140737488355328) :
    Calls Tryz.prog 95 #[.slice (some ⟨bk, o, none⟩) xs.length c, .string sep] w fun e w' => e = .returned (.string ⟨(Lib.join (xs.map (·.data.toList)) sep.data.toList).toArray⟩) ∧ Below w.heap.size w w' := Any.strings_Join Tryz.lays156 Tryz.Builder_Extra_156 bk o c xs sep w hcells hbk hN hcap hlen
open Go.RowKit in
/-- No element: the empty string; the world is as it was. (Whatever the slice's address and capacity: a nil slice too.) (LAID: no walk: one application.) -/
theorem Tryz.strings_Join_none (a : Option Addr) (c : Nat) (sep : ByteArray) (w : World) :
    Calls Tryz.prog 95 #[.slice a 0 c, .string sep] w fun e w' => e = .returned (.string ⟨#[]⟩) ∧ w' = w := Any.strings_Join_none Tryz.lays156 Tryz.Builder_Extra_156 a c sep w
end Go.Proofs
