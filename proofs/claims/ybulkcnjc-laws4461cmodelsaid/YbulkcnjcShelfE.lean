/-
  DERIVED: THE SHELF's CONTRACTS AT THIS DUMP, IN PLAIN WORDS (tools/lay-plain.mjs out of 'YbaShelfE.lean', which tools/lay-shelf.mjs wrote): THE SAME DECLARATIONS UNDER THE SAME NAMES: 'import', 'namespace', 'open', 'def', 'theorem' AND NOTHING ELSE: no command of the shelf's: FOR A HAND-IN. Each laying: the table of numbers ('.._ren') and one theorem, a field a fact of the dump's own or the kernel's comparison; each contract: ONE APPLICATION.
-/
import Derived.Shelf.SlSortCmp.WholeK
import Derived.Shelf.SlicesE.Clone
import Derived.Ground.SlsfProg
import Derived.Ground.SlgnProg
import Derived.Test.YbulkcnjcProg
namespace Go.Proofs
open Go.Shelf
def Yba.sortEd_ren : Go.Shelf.Ren := ⟨fun | 6 => 25 | 15 => 21 | 14 => 45 | 28 => 41 | 29 => 42 | 20 => 53 | 21 => 54 | 22 => 55 | 23 => 56 | 24 => 57 | 25 => 58 | 26 => 59 | 27 => 60 | 46 => 62 | 47 => 48 | 48 => 49 | 49 => 63 | 50 => 64 | 57 => 65 | n => n, fun | 22 => 47 | 24 => 52 | 25 => 82 | 3 => 3 | 39 => 73 | 0 => 0 | 53 => 102 | 55 => 104 | 4 => 4 | 46 => 94 | 45 => 93 | 50 => 99 | 5 => 5 | 9 => 9 | 66 => 107 | 70 => 111 | 76 => 119 | 77 => 120 | n => n, fun | n => n⟩
theorem Yba.sortEd : Go.Proofs.SlLaysF0.n6 Yba.prog Yba.sortEd_ren := {
  mixed := by kernel_rfl
  f6 := ⟨Yba.f25.name, by decide, Yba.func25.trans (congrArg some (by kernel_rfl))⟩
  f14 := ⟨Yba.f45.name, by decide, Yba.func45.trans (congrArg some (by kernel_rfl))⟩
  f15 := Yba.func21.trans (congrArg some (by kernel_rfl))
  f20 := ⟨Yba.f53.name, by decide, Yba.func53.trans (congrArg some (by kernel_rfl))⟩
  f21 := ⟨Yba.f54.name, by decide, Yba.func54.trans (congrArg some (by kernel_rfl))⟩
  f22 := ⟨Yba.f55.name, by decide, Yba.func55.trans (congrArg some (by kernel_rfl))⟩
  f23 := ⟨Yba.f56.name, by decide, Yba.func56.trans (congrArg some (by kernel_rfl))⟩
  f24 := ⟨Yba.f57.name, by decide, Yba.func57.trans (congrArg some (by kernel_rfl))⟩
  f25 := ⟨Yba.f58.name, by decide, Yba.func58.trans (congrArg some (by kernel_rfl))⟩
  f26 := ⟨Yba.f59.name, by decide, Yba.func59.trans (congrArg some (by kernel_rfl))⟩
  f27 := ⟨Yba.f60.name, by decide, Yba.func60.trans (congrArg some (by kernel_rfl))⟩
  f28 := Yba.func41.trans (congrArg some (by kernel_rfl))
  f29 := Yba.func42.trans (congrArg some (by kernel_rfl))
  f46 := ⟨Yba.f62.name, by decide, Yba.func62.trans (congrArg some (by kernel_rfl))⟩
  f47 := Yba.func48.trans (congrArg some (by kernel_rfl))
  f48 := Yba.func49.trans (congrArg some (by kernel_rfl))
  f49 := ⟨Yba.f63.name, by decide, Yba.func63.trans (congrArg some (by kernel_rfl))⟩
  f50 := ⟨Yba.f64.name, by decide, Yba.func64.trans (congrArg some (by kernel_rfl))⟩
  f57 := ⟨Yba.f65.name, by decide, Yba.func65.trans (congrArg some (by kernel_rfl))⟩
  t0 := Yba.underlying0
  a0 := Yba.isAgg0
  z0 := Yba.sizeOf0
  v0 := Yba.zeroValue0
  t3 := Yba.underlying3
  a3 := Yba.isAgg3
  z3 := Yba.sizeOf3
  v3 := Yba.zeroValue3
  t4 := Yba.underlying4
  a4 := Yba.isAgg4
  z4 := Yba.sizeOf4
  v4 := Yba.zeroValue4
  t5 := Yba.underlying5
  a5 := Yba.isAgg5
  z5 := Yba.sizeOf5
  v5 := Yba.zeroValue5
  t9 := Yba.underlying9
  a9 := Yba.isAgg9
  z9 := Yba.sizeOf9
  v9 := Yba.zeroValue9
  t22 := Yba.underlying47
  a22 := Yba.isAgg47
  z22 := Yba.sizeOf47
  v22 := Yba.zeroValue47
  t25 := Yba.underlying82
  a25 := Yba.isAgg82
  z25 := Yba.sizeOf82
  v25 := Yba.zeroValue82
  t39 := Yba.underlying73
  a39 := Yba.isAgg73
  z39 := Yba.sizeOf73
  v39 := Yba.zeroValue73
  t45 := Yba.underlying93
  a45 := Yba.isAgg93
  z45 := Yba.sizeOf93
  v45 := Yba.zeroValue93
  t46 := Yba.underlying94
  a46 := Yba.isAgg94
  z46 := Yba.sizeOf94
  v46 := Yba.zeroValue94
  t50 := Yba.underlying99
  a50 := Yba.isAgg99
  z50 := Yba.sizeOf99
  v50 := Yba.zeroValue99
  t53 := Yba.underlying102
  a53 := Yba.isAgg102
  z53 := Yba.sizeOf102
  v53 := Yba.zeroValue102
  t55 := Yba.underlying104
  a55 := Yba.isAgg104
  z55 := Yba.sizeOf104
  v55 := Yba.zeroValue104
  t66 := Yba.underlying107
  a66 := Yba.isAgg107
  z66 := Yba.sizeOf107
  v66 := Yba.zeroValue107
  t70 := Yba.underlying111
  a70 := Yba.isAgg111
  z70 := Yba.sizeOf111
  v70 := Yba.zeroValue111
  t76 := Yba.underlying119
  a76 := Yba.isAgg119
  z76 := Yba.sizeOf119
  v76 := Yba.zeroValue119
  t77 := Yba.underlying120
  a77 := Yba.isAgg120
  z77 := Yba.sizeOf120
  v77 := Yba.zeroValue120 }
def Yba.cloneEd_ren : Go.Shelf.Ren := ⟨fun | 41 => 24 | n => n, fun | 22 => 47 | 23 => 52 | 4 => 4 | n => n, fun | n => n⟩
theorem Yba.cloneEd : Go.Proofs.SlLaysE0.n41 Yba.prog Yba.cloneEd_ren := {
  mixed := by kernel_rfl
  f41 := ⟨Yba.f24.name, by decide, Yba.func24.trans (congrArg some (by kernel_rfl))⟩
  t4 := Yba.underlying4
  a4 := Yba.isAgg4
  z4 := Yba.sizeOf4
  v4 := Yba.zeroValue4
  t22 := Yba.underlying47
  a22 := Yba.isAgg47
  z22 := Yba.sizeOf47
  v22 := Yba.zeroValue47 }
end Go.Proofs
