/-
  DERIVED: THE SHELF's CONTRACTS AT THIS DUMP, IN PLAIN WORDS (tools/lay-plain.mjs out of 'YbulkexpecFmtLays.lean', which tools/lay-shelf.mjs wrote): THE SAME DECLARATIONS UNDER THE SAME NAMES: 'import', 'namespace', 'open', 'def', 'theorem' AND NOTHING ELSE: no command of the shelf's: FOR A HAND-IN. Each laying: the table of numbers ('.._ren') and one theorem, a field a fact of the dump's own or the kernel's comparison; each contract: ONE APPLICATION.
-/
import Derived.Shelf.SlGeneric
import Derived.Shelf.SlicesQ.IndexFunc
import Derived.Shelf.SlSortCmp.WholeK
import Derived.Ground.SlgfProg
import Derived.Ground.SlsfProg
import Derived.Test.YbulkexpecFmtProg
namespace Go.Proofs
open Go.Shelf
def Ybaf.conK_ren : Go.Shelf.Ren := ⟨fun | 8 => 18 | 6 => 29 | n => n, fun | 22 => 43 | 23 => 49 | 25 => 50 | 4 => 4 | 3 => 3 | 0 => 0 | n => n, fun | n => n⟩
theorem Ybaf.conK : Go.Proofs.SlLaysH0.n8 Ybaf.prog Ybaf.conK_ren := {
  mixed := by kernel_rfl
  f6 := ⟨Ybaf.f29.name, by decide, Ybaf.func29.trans (congrArg some (by kernel_rfl))⟩
  f8 := ⟨Ybaf.f18.name, by decide, Ybaf.func18.trans (congrArg some (by kernel_rfl))⟩
  t0 := Ybaf.underlying0
  a0 := Ybaf.isAgg0
  z0 := Ybaf.sizeOf0
  v0 := Ybaf.zeroValue0
  t3 := Ybaf.underlying3
  a3 := Ybaf.isAgg3
  z3 := Ybaf.sizeOf3
  v3 := Ybaf.zeroValue3
  t4 := Ybaf.underlying4
  a4 := Ybaf.isAgg4
  z4 := Ybaf.sizeOf4
  v4 := Ybaf.zeroValue4
  t22 := Ybaf.underlying43
  a22 := Ybaf.isAgg43
  z22 := Ybaf.sizeOf43
  v22 := Ybaf.zeroValue43
  t25 := Ybaf.underlying50
  a25 := Ybaf.isAgg50
  z25 := Ybaf.sizeOf50
  v25 := Ybaf.zeroValue50 }
def Ybaf.idxTag_ren : Go.Shelf.Ren := ⟨fun | 6 => 9 | n => n, fun | 22 => 23 | 23 => 34 | 25 => 39 | 4 => 4 | 3 => 3 | 0 => 0 | n => n, fun | n => n⟩
set_option maxRecDepth 100000 in
theorem Ybaf.idxTag : Go.Proofs.SlLaysH0.n6 Ybaf.prog Ybaf.idxTag_ren := {
  mixed := by kernel_rfl
  f6 := ⟨Ybaf.f9.name, by decide, Ybaf.func9.trans (congrArg some (by kernel_rfl))⟩
  t0 := Ybaf.underlying0
  a0 := Ybaf.isAgg0
  z0 := Ybaf.sizeOf0
  v0 := Ybaf.zeroValue0
  t3 := Ybaf.underlying3
  a3 := Ybaf.isAgg3
  z3 := Ybaf.sizeOf3
  v3 := Ybaf.zeroValue3
  t4 := Ybaf.underlying4
  a4 := Ybaf.isAgg4
  z4 := Ybaf.sizeOf4
  v4 := Ybaf.zeroValue4
  t22 := Ybaf.underlying23
  a22 := Ybaf.isAgg23
  z22 := Ybaf.sizeOf23
  v22 := Ybaf.zeroValue23
  t25 := Ybaf.underlying39
  a25 := Ybaf.isAgg39
  z25 := Ybaf.sizeOf39
  v25 := Ybaf.zeroValue39 }
def Ybaf.sortK_ren : Go.Shelf.Ren := ⟨fun | 6 => 21 | 15 => 32 | 14 => 31 | 28 => 49 | 29 => 50 | 20 => 41 | 21 => 42 | 22 => 43 | 23 => 44 | 24 => 45 | 25 => 46 | 26 => 47 | 27 => 48 | 46 => 56 | 47 => 57 | 48 => 58 | 49 => 59 | 50 => 60 | 57 => 62 | n => n, fun | 22 => 43 | 24 => 49 | 25 => 56 | 3 => 3 | 39 => 67 | 0 => 0 | 53 => 86 | 55 => 88 | 4 => 4 | 46 => 79 | 45 => 78 | 50 => 83 | 5 => 5 | 9 => 9 | 66 => 92 | 70 => 96 | 76 => 100 | 77 => 101 | n => n, fun | n => n⟩
theorem Ybaf.sortK : Go.Proofs.SlLaysF0.n6 Ybaf.prog Ybaf.sortK_ren := {
  mixed := by kernel_rfl
  f6 := ⟨Ybaf.f21.name, by decide, Ybaf.func21.trans (congrArg some (by kernel_rfl))⟩
  f14 := ⟨Ybaf.f31.name, by decide, Ybaf.func31.trans (congrArg some (by kernel_rfl))⟩
  f15 := Ybaf.func32.trans (congrArg some (by kernel_rfl))
  f20 := ⟨Ybaf.f41.name, by decide, Ybaf.func41.trans (congrArg some (by kernel_rfl))⟩
  f21 := ⟨Ybaf.f42.name, by decide, Ybaf.func42.trans (congrArg some (by kernel_rfl))⟩
  f22 := ⟨Ybaf.f43.name, by decide, Ybaf.func43.trans (congrArg some (by kernel_rfl))⟩
  f23 := ⟨Ybaf.f44.name, by decide, Ybaf.func44.trans (congrArg some (by kernel_rfl))⟩
  f24 := ⟨Ybaf.f45.name, by decide, Ybaf.func45.trans (congrArg some (by kernel_rfl))⟩
  f25 := ⟨Ybaf.f46.name, by decide, Ybaf.func46.trans (congrArg some (by kernel_rfl))⟩
  f26 := ⟨Ybaf.f47.name, by decide, Ybaf.func47.trans (congrArg some (by kernel_rfl))⟩
  f27 := ⟨Ybaf.f48.name, by decide, Ybaf.func48.trans (congrArg some (by kernel_rfl))⟩
  f28 := Ybaf.func49.trans (congrArg some (by kernel_rfl))
  f29 := Ybaf.func50.trans (congrArg some (by kernel_rfl))
  f46 := ⟨Ybaf.f56.name, by decide, Ybaf.func56.trans (congrArg some (by kernel_rfl))⟩
  f47 := Ybaf.func57.trans (congrArg some (by kernel_rfl))
  f48 := Ybaf.func58.trans (congrArg some (by kernel_rfl))
  f49 := ⟨Ybaf.f59.name, by decide, Ybaf.func59.trans (congrArg some (by kernel_rfl))⟩
  f50 := ⟨Ybaf.f60.name, by decide, Ybaf.func60.trans (congrArg some (by kernel_rfl))⟩
  f57 := ⟨Ybaf.f62.name, by decide, Ybaf.func62.trans (congrArg some (by kernel_rfl))⟩
  t0 := Ybaf.underlying0
  a0 := Ybaf.isAgg0
  z0 := Ybaf.sizeOf0
  v0 := Ybaf.zeroValue0
  t3 := Ybaf.underlying3
  a3 := Ybaf.isAgg3
  z3 := Ybaf.sizeOf3
  v3 := Ybaf.zeroValue3
  t4 := Ybaf.underlying4
  a4 := Ybaf.isAgg4
  z4 := Ybaf.sizeOf4
  v4 := Ybaf.zeroValue4
  t5 := Ybaf.underlying5
  a5 := Ybaf.isAgg5
  z5 := Ybaf.sizeOf5
  v5 := Ybaf.zeroValue5
  t9 := Ybaf.underlying9
  a9 := Ybaf.isAgg9
  z9 := Ybaf.sizeOf9
  v9 := Ybaf.zeroValue9
  t22 := Ybaf.underlying43
  a22 := Ybaf.isAgg43
  z22 := Ybaf.sizeOf43
  v22 := Ybaf.zeroValue43
  t25 := Ybaf.underlying56
  a25 := Ybaf.isAgg56
  z25 := Ybaf.sizeOf56
  v25 := Ybaf.zeroValue56
  t39 := Ybaf.underlying67
  a39 := Ybaf.isAgg67
  z39 := Ybaf.sizeOf67
  v39 := Ybaf.zeroValue67
  t45 := Ybaf.underlying78
  a45 := Ybaf.isAgg78
  z45 := Ybaf.sizeOf78
  v45 := Ybaf.zeroValue78
  t46 := Ybaf.underlying79
  a46 := Ybaf.isAgg79
  z46 := Ybaf.sizeOf79
  v46 := Ybaf.zeroValue79
  t50 := Ybaf.underlying83
  a50 := Ybaf.isAgg83
  z50 := Ybaf.sizeOf83
  v50 := Ybaf.zeroValue83
  t53 := Ybaf.underlying86
  a53 := Ybaf.isAgg86
  z53 := Ybaf.sizeOf86
  v53 := Ybaf.zeroValue86
  t55 := Ybaf.underlying88
  a55 := Ybaf.isAgg88
  z55 := Ybaf.sizeOf88
  v55 := Ybaf.zeroValue88
  t66 := Ybaf.underlying92
  a66 := Ybaf.isAgg92
  z66 := Ybaf.sizeOf92
  v66 := Ybaf.zeroValue92
  t70 := Ybaf.underlying96
  a70 := Ybaf.isAgg96
  z70 := Ybaf.sizeOf96
  v70 := Ybaf.zeroValue96
  t76 := Ybaf.underlying100
  a76 := Ybaf.isAgg100
  z76 := Ybaf.sizeOf100
  v76 := Ybaf.zeroValue100
  t77 := Ybaf.underlying101
  a77 := Ybaf.isAgg101
  z77 := Ybaf.sizeOf101
  v77 := Ybaf.zeroValue101 }
end Go.Proofs
