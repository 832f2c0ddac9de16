/-
  DERIVED: THE SHELF's CONTRACTS AT THIS DUMP, IN PLAIN WORDS (tools/lay-plain.mjs out of 'YtpigccnlembfdaaDoorLay0.lean', which tools/lay-shelf.mjs wrote): THE SAME DECLARATIONS UNDER THE SAME NAMES: 'import', 'namespace', 'open', 'def', 'theorem' AND NOTHING ELSE: no command of the shelf's: FOR A HAND-IN. Each laying: the table of numbers ('.._ren') and one theorem, a field a fact of the dump's own or the kernel's comparison; each contract: ONE APPLICATION.
-/
import Derived.Shelf.SlGeneric
import Derived.Shelf.SlIter.Nil
import Derived.Shelf.SortM.Plain
import Derived.Shelf.SortM.SortNone
import Derived.Shelf.SlMaps.Copy
import Derived.Ground.GgzProg
import Derived.Ground.SlgmProg
import Derived.Ground.SlmpProg
import Derived.Test.YtpigccnlembfdaaDoorProg
namespace Go.Proofs
open Go.Shelf
def Tryd.keys44_ren : Go.Shelf.Ren := ⟨fun | 7 => 44 | 10 => 50 | n => n, fun | 23 => 42 | 26 => 9 | 3 => 20 | 28 => 84 | 0 => 0 | 27 => 83 | 33 => 80 | 4 => 4 | n => n, fun | n => n⟩
theorem Tryd.keys44 : Go.Proofs.SlLaysZ.n7 Tryd.prog Tryd.keys44_ren := {
  mixed := by kernel_rfl
  f7 := ⟨Tryd.f44.name, by decide, Tryd.func44.trans (congrArg some (by kernel_rfl))⟩
  f10 := ⟨Tryd.f50.name, by decide, Tryd.func50.trans (congrArg some (by kernel_rfl))⟩
  t0 := Tryd.underlying0
  a0 := Tryd.isAgg0
  z0 := Tryd.sizeOf0
  v0 := Tryd.zeroValue0
  t4 := Tryd.underlying4
  a4 := Tryd.isAgg4
  z4 := Tryd.sizeOf4
  v4 := Tryd.zeroValue4
  t23 := Tryd.underlying42
  a23 := Tryd.isAgg42
  z23 := Tryd.sizeOf42
  v23 := Tryd.zeroValue42
  t26 := Tryd.underlying9
  a26 := Tryd.isAgg9
  z26 := Tryd.sizeOf9
  v26 := Tryd.zeroValue9
  t27 := Tryd.underlying83
  a27 := Tryd.isAgg83
  z27 := Tryd.sizeOf83
  v27 := Tryd.zeroValue83
  t28 := Tryd.underlying84
  a28 := Tryd.isAgg84
  z28 := Tryd.sizeOf84
  v28 := Tryd.zeroValue84
  t33 := Tryd.underlying80
  a33 := Tryd.isAgg80
  z33 := Tryd.sizeOf80
  v33 := Tryd.zeroValue80 }
def Tryd.sorted43_ren : Go.Shelf.Ren := ⟨fun | 6 => 43 | 8 => 48 | 9 => 49 | 11 => 55 | 13 => 57 | 12 => 56 | 23 => 67 | 24 => 68 | 14 => 58 | 15 => 59 | 16 => 60 | 17 => 61 | 18 => 62 | 19 => 63 | 20 => 64 | 21 => 65 | 22 => 66 | 25 => 69 | 26 => 70 | 27 => 71 | 28 => 72 | 29 => 73 | 30 => 74 | 31 => 75 | n => n, fun | 26 => 9 | 28 => 84 | 24 => 24 | 0 => 0 | 3 => 3 | 37 => 94 | 48 => 113 | 50 => 96 | 4 => 4 | 40 => 105 | 39 => 104 | 45 => 110 | 5 => 5 | 9 => 9 | 51 => 115 | 55 => 119 | 57 => 121 | 58 => 122 | 33 => 80 | n => n, fun | n => n⟩
theorem Tryd.sorted43 : Go.Proofs.SlLaysZ.n6 Tryd.prog Tryd.sorted43_ren := {
  mixed := by kernel_rfl
  f6 := ⟨Tryd.f43.name, by decide, Tryd.func43.trans (congrArg some (by kernel_rfl))⟩
  f8 := ⟨Tryd.f48.name, by decide, Tryd.func48.trans (congrArg some (by kernel_rfl))⟩
  f11 := ⟨Tryd.f55.name, by decide, Tryd.func55.trans (congrArg some (by kernel_rfl))⟩
  t0 := Tryd.underlying0
  a0 := Tryd.isAgg0
  z0 := Tryd.sizeOf0
  v0 := Tryd.zeroValue0
  t24 := Tryd.underlying24
  a24 := Tryd.isAgg24
  z24 := Tryd.sizeOf24
  v24 := Tryd.zeroValue24
  t26 := Tryd.underlying9
  a26 := Tryd.isAgg9
  z26 := Tryd.sizeOf9
  v26 := Tryd.zeroValue9
  t28 := Tryd.underlying84
  a28 := Tryd.isAgg84
  z28 := Tryd.sizeOf84
  v28 := Tryd.zeroValue84
  i26 := by kernel_rfl }
def Tryd.sort49_ren : Go.Shelf.Ren := ⟨fun | 6 => 49 | 8 => 57 | 9 => 56 | 19 => 67 | 20 => 68 | 21 => 58 | 22 => 59 | 23 => 60 | 24 => 61 | 25 => 62 | 26 => 63 | 27 => 64 | 28 => 65 | 29 => 66 | 36 => 69 | 31 => 70 | 32 => 71 | 37 => 72 | 38 => 73 | 39 => 74 | 41 => 75 | n => n, fun | 27 => 24 | 29 => 9 | 3 => 3 | 32 => 94 | 26 => 24 | 0 => 0 | 44 => 113 | 46 => 96 | 4 => 4 | 36 => 105 | 35 => 104 | 41 => 110 | 5 => 5 | 9 => 9 | 53 => 115 | 57 => 119 | 63 => 121 | 64 => 122 | n => n, fun | n => n⟩
theorem Tryd.sort49 : Go.Proofs.SlLaysM.n6 Tryd.prog Tryd.sort49_ren := {
  mixed := by kernel_rfl
  f6 := ⟨Tryd.f49.name, by decide, Tryd.func49.trans (congrArg some (by kernel_rfl))⟩
  f8 := Tryd.func57.trans (congrArg some (by kernel_rfl))
  f9 := ⟨Tryd.f56.name, by decide, Tryd.func56.trans (congrArg some (by kernel_rfl))⟩
  f19 := Tryd.func67.trans (congrArg some (by kernel_rfl))
  f20 := Tryd.func68.trans (congrArg some (by kernel_rfl))
  f21 := ⟨Tryd.f58.name, by decide, Tryd.func58.trans (congrArg some (by kernel_rfl))⟩
  f22 := ⟨Tryd.f59.name, by decide, Tryd.func59.trans (congrArg some (by kernel_rfl))⟩
  f23 := ⟨Tryd.f60.name, by decide, Tryd.func60.trans (congrArg some (by kernel_rfl))⟩
  f24 := ⟨Tryd.f61.name, by decide, Tryd.func61.trans (congrArg some (by kernel_rfl))⟩
  f25 := ⟨Tryd.f62.name, by decide, Tryd.func62.trans (congrArg some (by kernel_rfl))⟩
  f26 := ⟨Tryd.f63.name, by decide, Tryd.func63.trans (congrArg some (by kernel_rfl))⟩
  f27 := ⟨Tryd.f64.name, by decide, Tryd.func64.trans (congrArg some (by kernel_rfl))⟩
  f28 := ⟨Tryd.f65.name, by decide, Tryd.func65.trans (congrArg some (by kernel_rfl))⟩
  f29 := ⟨Tryd.f66.name, by decide, Tryd.func66.trans (congrArg some (by kernel_rfl))⟩
  f31 := Tryd.func70.trans (congrArg some (by kernel_rfl))
  f32 := Tryd.func71.trans (congrArg some (by kernel_rfl))
  f36 := ⟨Tryd.f69.name, by decide, Tryd.func69.trans (congrArg some (by kernel_rfl))⟩
  f37 := ⟨Tryd.f72.name, by decide, Tryd.func72.trans (congrArg some (by kernel_rfl))⟩
  f38 := ⟨Tryd.f73.name, by decide, Tryd.func73.trans (congrArg some (by kernel_rfl))⟩
  f39 := ⟨Tryd.f74.name, by decide, Tryd.func74.trans (congrArg some (by kernel_rfl))⟩
  f41 := ⟨Tryd.f75.name, by decide, Tryd.func75.trans (congrArg some (by kernel_rfl))⟩
  t0 := Tryd.underlying0
  a0 := Tryd.isAgg0
  z0 := Tryd.sizeOf0
  v0 := Tryd.zeroValue0
  t3 := Tryd.underlying3
  a3 := Tryd.isAgg3
  z3 := Tryd.sizeOf3
  v3 := Tryd.zeroValue3
  t4 := Tryd.underlying4
  a4 := Tryd.isAgg4
  z4 := Tryd.sizeOf4
  v4 := Tryd.zeroValue4
  t5 := Tryd.underlying5
  a5 := Tryd.isAgg5
  z5 := Tryd.sizeOf5
  v5 := Tryd.zeroValue5
  t9 := Tryd.underlying9
  a9 := Tryd.isAgg9
  z9 := Tryd.sizeOf9
  v9 := Tryd.zeroValue9
  t26 := Tryd.underlying24
  a26 := Tryd.isAgg24
  z26 := Tryd.sizeOf24
  v26 := Tryd.zeroValue24
  t27 := Tryd.underlying24
  a27 := Tryd.isAgg24
  z27 := Tryd.sizeOf24
  v27 := Tryd.zeroValue24
  t29 := Tryd.underlying9
  a29 := Tryd.isAgg9
  z29 := Tryd.sizeOf9
  v29 := Tryd.zeroValue9
  t32 := Tryd.underlying94
  a32 := Tryd.isAgg94
  z32 := Tryd.sizeOf94
  v32 := Tryd.zeroValue94
  t35 := Tryd.underlying104
  a35 := Tryd.isAgg104
  z35 := Tryd.sizeOf104
  v35 := Tryd.zeroValue104
  t36 := Tryd.underlying105
  a36 := Tryd.isAgg105
  z36 := Tryd.sizeOf105
  v36 := Tryd.zeroValue105
  t41 := Tryd.underlying110
  a41 := Tryd.isAgg110
  z41 := Tryd.sizeOf110
  v41 := Tryd.zeroValue110
  t44 := Tryd.underlying113
  a44 := Tryd.isAgg113
  z44 := Tryd.sizeOf113
  v44 := Tryd.zeroValue113
  t46 := Tryd.underlying96
  a46 := Tryd.isAgg96
  z46 := Tryd.sizeOf96
  v46 := Tryd.zeroValue96
  t53 := Tryd.underlying115
  a53 := Tryd.isAgg115
  z53 := Tryd.sizeOf115
  v53 := Tryd.zeroValue115
  t57 := Tryd.underlying119
  a57 := Tryd.isAgg119
  z57 := Tryd.sizeOf119
  v57 := Tryd.zeroValue119
  t63 := Tryd.underlying121
  a63 := Tryd.isAgg121
  z63 := Tryd.sizeOf121
  v63 := Tryd.zeroValue121
  t64 := Tryd.underlying122
  a64 := Tryd.isAgg122
  z64 := Tryd.sizeOf122
  v64 := Tryd.zeroValue122 }
def Tryd.copy40_ren : Go.Shelf.Ren := ⟨fun | 5 => 40 | n => n, fun | 23 => 42 | 24 => 42 | 26 => 9 | 27 => 20 | 0 => 0 | 4 => 4 | n => n, fun | n => n⟩
theorem Tryd.copy40 : Go.Proofs.SlLaysX.n5 Tryd.prog Tryd.copy40_ren := {
  mixed := by kernel_rfl
  f5 := ⟨Tryd.f40.name, by decide, Tryd.func40.trans (congrArg some (by kernel_rfl))⟩
  t0 := Tryd.underlying0
  a0 := Tryd.isAgg0
  z0 := Tryd.sizeOf0
  v0 := Tryd.zeroValue0
  t4 := Tryd.underlying4
  a4 := Tryd.isAgg4
  z4 := Tryd.sizeOf4
  v4 := Tryd.zeroValue4
  t23 := Tryd.underlying42
  a23 := Tryd.isAgg42
  z23 := Tryd.sizeOf42
  v23 := Tryd.zeroValue42
  t24 := Tryd.underlying42
  a24 := Tryd.isAgg42
  z24 := Tryd.sizeOf42
  v24 := Tryd.zeroValue42
  a26 := Tryd.isAgg9
  z26 := Tryd.sizeOf9
  a27 := Tryd.isAgg20
  z27 := Tryd.sizeOf20 }
end Go.Proofs
