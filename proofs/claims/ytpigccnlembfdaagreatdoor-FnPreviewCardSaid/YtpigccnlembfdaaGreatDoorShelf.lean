/-
  DERIVED: THE SHELF's CONTRACTS AT THIS DUMP, IN PLAIN WORDS (tools/lay-plain.mjs out of 'YtpigccnlembfdaaGreatDoorShelf0.lean', which tools/lay-shelf.mjs wrote): THE SAME DECLARATIONS UNDER THE SAME NAMES: 'import', 'namespace', 'open', 'def', 'theorem' AND NOTHING ELSE: no command of the shelf's: FOR A HAND-IN. Each laying: the table of numbers ('.._ren') and one theorem, a field a fact of the dump's own or the kernel's comparison; each contract: ONE APPLICATION.
-/
import Derived.Ground.NamesProg
import Derived.Shelf.Unicode.ValidAny
import Derived.Shelf.Strings.OnBuilder
import Derived.Test.YtpigccnlembfdaaGreatDoorProg
namespace Go.Proofs
open Go.Shelf
def Tryz.laysValid_ren : Go.Shelf.Ren := ⟨fun | 196 => 14 | 259 => 28 | n => n, fun | 9 => 9 | 4 => 4 | 3 => 3 | 5 => 5 | 12 => 12 | 119 => 56 | 0 => 0 | 46 => 60 | 139 => 59 | 138 => 58 | 53 => 85 | n => n, fun | 3 => 0 | 4 => 1 | n => n⟩
theorem Tryz.laysValid : Go.Proofs.Lays.n196 Tryz.prog Tryz.laysValid_ren := {
  mixed := by kernel_rfl
  f196 := Tryz.func14.trans (congrArg some (by kernel_rfl))
  f259 := Tryz.func28.trans (congrArg some (by kernel_rfl))
  t0 := Tryz.underlying0
  a0 := Tryz.isAgg0
  z0 := Tryz.sizeOf0
  v0 := Tryz.zeroValue0
  t3 := Tryz.underlying3
  a3 := Tryz.isAgg3
  z3 := Tryz.sizeOf3
  v3 := Tryz.zeroValue3
  t4 := Tryz.underlying4
  a4 := Tryz.isAgg4
  z4 := Tryz.sizeOf4
  v4 := Tryz.zeroValue4
  t5 := Tryz.underlying5
  a5 := Tryz.isAgg5
  z5 := Tryz.sizeOf5
  v5 := Tryz.zeroValue5
  t9 := Tryz.underlying9
  a9 := Tryz.isAgg9
  z9 := Tryz.sizeOf9
  v9 := Tryz.zeroValue9
  t12 := Tryz.underlying12
  a12 := Tryz.isAgg12
  z12 := Tryz.sizeOf12
  v12 := Tryz.zeroValue12
  t46 := Tryz.underlying60
  a46 := Tryz.isAgg60
  z46 := Tryz.sizeOf60
  v46 := Tryz.zeroValue60
  t53 := Tryz.underlying85
  a53 := Tryz.isAgg85
  z53 := Tryz.sizeOf85
  v53 := Tryz.zeroValue85
  t119 := Tryz.underlying56
  a119 := Tryz.isAgg56
  z119 := Tryz.sizeOf56
  t138 := Tryz.underlying58
  a138 := Tryz.isAgg58
  z138 := Tryz.sizeOf58
  v138 := Tryz.zeroValue58
  t139 := Tryz.underlying59
  a139 := Tryz.isAgg59
  z139 := Tryz.sizeOf59
  v139 := Tryz.zeroValue59
  g3 := by kernel_rfl
  g4 := by kernel_rfl }
def Tryz.laysJoin_ren : Go.Shelf.Ren := ⟨fun | 156 => 80 | 165 => 95 | 166 => 96 | 169 => 94 | 240 => 111 | 241 => 112 | 276 => 151 | 277 => 152 | n => n, fun | 31 => 24 | 9 => 9 | 3 => 3 | 4 => 4 | 0 => 0 | 20 => 20 | 72 => 146 | 76 => 105 | 70 => 144 | 37 => 72 | 75 => 81 | 127 => 172 | 164 => 157 | 5 => 5 | 80 => 113 | n => n, fun | n => n⟩
theorem Tryz.laysJoin : Go.Proofs.Lays.n156 Tryz.prog Tryz.laysJoin_ren := {
  mixed := by kernel_rfl
  f156 := Tryz.func80.trans (congrArg some (by kernel_rfl))
  f165 := Tryz.func95.trans (congrArg some (by kernel_rfl))
  f166 := Tryz.func96.trans (congrArg some (by kernel_rfl))
  f169 := Tryz.func94.trans (congrArg some (by kernel_rfl))
  f240 := Tryz.func111.trans (congrArg some (by kernel_rfl))
  f241 := Tryz.func112.trans (congrArg some (by kernel_rfl))
  f276 := Tryz.func151.trans (congrArg some (by kernel_rfl))
  f277 := Tryz.func152.trans (congrArg some (by kernel_rfl))
  t0 := Tryz.underlying0
  a0 := Tryz.isAgg0
  z0 := Tryz.sizeOf0
  v0 := Tryz.zeroValue0
  t3 := Tryz.underlying3
  a3 := Tryz.isAgg3
  z3 := Tryz.sizeOf3
  v3 := Tryz.zeroValue3
  t4 := Tryz.underlying4
  a4 := Tryz.isAgg4
  z4 := Tryz.sizeOf4
  v4 := Tryz.zeroValue4
  t9 := Tryz.underlying9
  a9 := Tryz.isAgg9
  z9 := Tryz.sizeOf9
  v9 := Tryz.zeroValue9
  t20 := Tryz.underlying20
  a20 := Tryz.isAgg20
  z20 := Tryz.sizeOf20
  v20 := Tryz.zeroValue20
  t31 := Tryz.underlying24
  a31 := Tryz.isAgg24
  z31 := Tryz.sizeOf24
  v31 := Tryz.zeroValue24
  t37 := Tryz.underlying72
  a37 := Tryz.isAgg72
  z37 := Tryz.sizeOf72
  v37 := Tryz.zeroValue72
  t70 := Tryz.underlying144
  a70 := Tryz.isAgg144
  z70 := Tryz.sizeOf144
  v70 := Tryz.zeroValue144
  t72 := Tryz.underlying146
  a72 := Tryz.isAgg146
  z72 := Tryz.sizeOf146
  v72 := Tryz.zeroValue146
  t75 := Tryz.underlying81
  a75 := Tryz.isAgg81
  z75 := Tryz.sizeOf81
  v75 := Tryz.zeroValue81
  t76 := Tryz.underlying105
  a76 := Tryz.isAgg105
  z76 := Tryz.sizeOf105
  v76 := Tryz.zeroValue105
  t127 := Tryz.underlying172
  a127 := Tryz.isAgg172
  z127 := Tryz.sizeOf172
  v127 := Tryz.zeroValue172
  t164 := Tryz.underlying157
  a164 := Tryz.isAgg157
  z164 := Tryz.sizeOf157
  v164 := Tryz.zeroValue157 }
end Go.Proofs
