/-
  DERIVED: THE SHELF's CONTRACTS AT THIS DUMP, IN PLAIN WORDS (tools/lay-plain.mjs out of 'TrydIt.lean', which tools/lay-shelf.mjs wrote): THE SAME DECLARATIONS UNDER THE SAME NAMES: 'import', 'namespace', 'open', 'def', 'theorem' AND NOTHING ELSE: no command of the shelf's: FOR A HAND-IN. Each laying: the table of numbers ('.._ren') and one theorem, a field a fact of the dump's own or the kernel's comparison; each contract: ONE APPLICATION.
-/
import Derived.Shelf.SlIter.Nil
import Derived.Shelf.SortM.Plain
import Derived.Shelf.SortM.SortNone
import Derived.Ground.GgzProg
import Derived.Ground.SlgmProg
import Derived.Shelf.SlGeneric
import Derived.Test.YtmkdkcbkgngfdaaDoorProg
namespace Go.Proofs
open Go.Shelf
def Tryd.keys101_ren : Go.Shelf.Ren := ⟨fun | 7 => 101 | 10 => 115 | n => n, fun | 23 => 55 | 26 => 9 | 3 => 20 | 28 => 120 | 0 => 0 | 27 => 119 | 33 => 117 | 4 => 4 | n => n, fun | n => n⟩
theorem Tryd.keys101 : Go.Proofs.SlLaysZ.n7 Tryd.prog Tryd.keys101_ren := {
  mixed := by kernel_rfl
  f7 := ⟨Tryd.f101.name, by decide, Tryd.func101.trans (congrArg some (by kernel_rfl))⟩
  f10 := ⟨Tryd.f115.name, by decide, Tryd.func115.trans (congrArg some (by kernel_rfl))⟩
  t0 := Tryd.underlying0
  a0 := Tryd.isAgg0
  z0 := Tryd.sizeOf0
  v0 := Tryd.zeroValue0
  t4 := Tryd.underlying4
  a4 := Tryd.isAgg4
  z4 := Tryd.sizeOf4
  v4 := Tryd.zeroValue4
  t23 := Tryd.underlying55
  a23 := Tryd.isAgg55
  z23 := Tryd.sizeOf55
  v23 := Tryd.zeroValue55
  t26 := Tryd.underlying9
  a26 := Tryd.isAgg9
  z26 := Tryd.sizeOf9
  v26 := Tryd.zeroValue9
  t27 := Tryd.underlying119
  a27 := Tryd.isAgg119
  z27 := Tryd.sizeOf119
  v27 := Tryd.zeroValue119
  t28 := Tryd.underlying120
  a28 := Tryd.isAgg120
  z28 := Tryd.sizeOf120
  v28 := Tryd.zeroValue120
  t33 := Tryd.underlying117
  a33 := Tryd.isAgg117
  z33 := Tryd.sizeOf117
  v33 := Tryd.zeroValue117 }
def Tryd.sorted100_ren : Go.Shelf.Ren := ⟨fun | 6 => 100 | 8 => 113 | 9 => 114 | 11 => 120 | 13 => 122 | 12 => 121 | 23 => 134 | 24 => 135 | 14 => 125 | 15 => 126 | 16 => 127 | 17 => 128 | 18 => 129 | 19 => 130 | 20 => 131 | 21 => 132 | 22 => 133 | 25 => 137 | 26 => 138 | 27 => 139 | 28 => 140 | 29 => 141 | 30 => 142 | 31 => 143 | n => n, fun | 26 => 9 | 28 => 120 | 24 => 24 | 0 => 0 | 3 => 3 | 37 => 135 | 48 => 149 | 50 => 125 | 4 => 4 | 40 => 143 | 39 => 142 | 45 => 78 | 5 => 5 | 9 => 9 | 51 => 152 | 55 => 156 | 57 => 158 | 58 => 159 | 33 => 117 | n => n, fun | n => n⟩
theorem Tryd.sorted100 : Go.Proofs.SlLaysZ.n6 Tryd.prog Tryd.sorted100_ren := {
  mixed := by kernel_rfl
  f6 := ⟨Tryd.f100.name, by decide, Tryd.func100.trans (congrArg some (by kernel_rfl))⟩
  f8 := ⟨Tryd.f113.name, by decide, Tryd.func113.trans (congrArg some (by kernel_rfl))⟩
  f11 := ⟨Tryd.f120.name, by decide, Tryd.func120.trans (congrArg some (by kernel_rfl))⟩
  t0 := Tryd.underlying0
  a0 := Tryd.isAgg0
  z0 := Tryd.sizeOf0
  v0 := Tryd.zeroValue0
  t24 := Tryd.underlying24
  a24 := Tryd.isAgg24
  z24 := Tryd.sizeOf24
  v24 := Tryd.zeroValue24
  t26 := Tryd.underlying9
  a26 := Tryd.isAgg9
  z26 := Tryd.sizeOf9
  v26 := Tryd.zeroValue9
  t28 := Tryd.underlying120
  a28 := Tryd.isAgg120
  z28 := Tryd.sizeOf120
  v28 := Tryd.zeroValue120
  i26 := by kernel_rfl }
def Tryd.sort114_ren : Go.Shelf.Ren := ⟨fun | 6 => 114 | 8 => 122 | 9 => 121 | 19 => 134 | 20 => 135 | 21 => 125 | 22 => 126 | 23 => 127 | 24 => 128 | 25 => 129 | 26 => 130 | 27 => 131 | 28 => 132 | 29 => 133 | 36 => 137 | 31 => 138 | 32 => 139 | 37 => 140 | 38 => 141 | 39 => 142 | 41 => 143 | n => n, fun | 27 => 24 | 29 => 9 | 3 => 3 | 32 => 135 | 26 => 24 | 0 => 0 | 44 => 149 | 46 => 125 | 4 => 4 | 36 => 143 | 35 => 142 | 41 => 78 | 5 => 5 | 9 => 9 | 53 => 152 | 57 => 156 | 63 => 158 | 64 => 159 | n => n, fun | n => n⟩
theorem Tryd.sort114 : Go.Proofs.SlLaysM.n6 Tryd.prog Tryd.sort114_ren := {
  mixed := by kernel_rfl
  f6 := ⟨Tryd.f114.name, by decide, Tryd.func114.trans (congrArg some (by kernel_rfl))⟩
  f8 := Tryd.func122.trans (congrArg some (by kernel_rfl))
  f9 := ⟨Tryd.f121.name, by decide, Tryd.func121.trans (congrArg some (by kernel_rfl))⟩
  f19 := Tryd.func134.trans (congrArg some (by kernel_rfl))
  f20 := Tryd.func135.trans (congrArg some (by kernel_rfl))
  f21 := ⟨Tryd.f125.name, by decide, Tryd.func125.trans (congrArg some (by kernel_rfl))⟩
  f22 := ⟨Tryd.f126.name, by decide, Tryd.func126.trans (congrArg some (by kernel_rfl))⟩
  f23 := ⟨Tryd.f127.name, by decide, Tryd.func127.trans (congrArg some (by kernel_rfl))⟩
  f24 := ⟨Tryd.f128.name, by decide, Tryd.func128.trans (congrArg some (by kernel_rfl))⟩
  f25 := ⟨Tryd.f129.name, by decide, Tryd.func129.trans (congrArg some (by kernel_rfl))⟩
  f26 := ⟨Tryd.f130.name, by decide, Tryd.func130.trans (congrArg some (by kernel_rfl))⟩
  f27 := ⟨Tryd.f131.name, by decide, Tryd.func131.trans (congrArg some (by kernel_rfl))⟩
  f28 := ⟨Tryd.f132.name, by decide, Tryd.func132.trans (congrArg some (by kernel_rfl))⟩
  f29 := ⟨Tryd.f133.name, by decide, Tryd.func133.trans (congrArg some (by kernel_rfl))⟩
  f31 := Tryd.func138.trans (congrArg some (by kernel_rfl))
  f32 := Tryd.func139.trans (congrArg some (by kernel_rfl))
  f36 := ⟨Tryd.f137.name, by decide, Tryd.func137.trans (congrArg some (by kernel_rfl))⟩
  f37 := ⟨Tryd.f140.name, by decide, Tryd.func140.trans (congrArg some (by kernel_rfl))⟩
  f38 := ⟨Tryd.f141.name, by decide, Tryd.func141.trans (congrArg some (by kernel_rfl))⟩
  f39 := ⟨Tryd.f142.name, by decide, Tryd.func142.trans (congrArg some (by kernel_rfl))⟩
  f41 := ⟨Tryd.f143.name, by decide, Tryd.func143.trans (congrArg some (by kernel_rfl))⟩
  t0 := Tryd.underlying0
  a0 := Tryd.isAgg0
  z0 := Tryd.sizeOf0
  v0 := Tryd.zeroValue0
  t3 := Tryd.underlying3
  a3 := Tryd.isAgg3
  z3 := Tryd.sizeOf3
  v3 := Tryd.zeroValue3
  t4 := Tryd.underlying4
  a4 := Tryd.isAgg4
  z4 := Tryd.sizeOf4
  v4 := Tryd.zeroValue4
  t5 := Tryd.underlying5
  a5 := Tryd.isAgg5
  z5 := Tryd.sizeOf5
  v5 := Tryd.zeroValue5
  t9 := Tryd.underlying9
  a9 := Tryd.isAgg9
  z9 := Tryd.sizeOf9
  v9 := Tryd.zeroValue9
  t26 := Tryd.underlying24
  a26 := Tryd.isAgg24
  z26 := Tryd.sizeOf24
  v26 := Tryd.zeroValue24
  t27 := Tryd.underlying24
  a27 := Tryd.isAgg24
  z27 := Tryd.sizeOf24
  v27 := Tryd.zeroValue24
  t29 := Tryd.underlying9
  a29 := Tryd.isAgg9
  z29 := Tryd.sizeOf9
  v29 := Tryd.zeroValue9
  t32 := Tryd.underlying135
  a32 := Tryd.isAgg135
  z32 := Tryd.sizeOf135
  v32 := Tryd.zeroValue135
  t35 := Tryd.underlying142
  a35 := Tryd.isAgg142
  z35 := Tryd.sizeOf142
  v35 := Tryd.zeroValue142
  t36 := Tryd.underlying143
  a36 := Tryd.isAgg143
  z36 := Tryd.sizeOf143
  v36 := Tryd.zeroValue143
  t41 := Tryd.underlying78
  a41 := Tryd.isAgg78
  z41 := Tryd.sizeOf78
  v41 := Tryd.zeroValue78
  t44 := Tryd.underlying149
  a44 := Tryd.isAgg149
  z44 := Tryd.sizeOf149
  v44 := Tryd.zeroValue149
  t46 := Tryd.underlying125
  a46 := Tryd.isAgg125
  z46 := Tryd.sizeOf125
  v46 := Tryd.zeroValue125
  t53 := Tryd.underlying152
  a53 := Tryd.isAgg152
  z53 := Tryd.sizeOf152
  v53 := Tryd.zeroValue152
  t57 := Tryd.underlying156
  a57 := Tryd.isAgg156
  z57 := Tryd.sizeOf156
  v57 := Tryd.zeroValue156
  t63 := Tryd.underlying158
  a63 := Tryd.isAgg158
  z63 := Tryd.sizeOf158
  v63 := Tryd.zeroValue158
  t64 := Tryd.underlying159
  a64 := Tryd.isAgg159
  z64 := Tryd.sizeOf159
  v64 := Tryd.zeroValue159 }
end Go.Proofs
