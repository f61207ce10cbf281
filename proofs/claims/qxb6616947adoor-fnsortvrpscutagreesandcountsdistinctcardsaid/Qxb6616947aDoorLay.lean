/-
  DERIVED: THE SHELF's CONTRACTS AT THIS DUMP, IN PLAIN WORDS (tools/lay-plain.mjs out of 'Qxb6616947aDoorLayS.lean', which tools/lay-shelf.mjs wrote): THE SAME DECLARATIONS UNDER THE SAME NAMES: 'import', 'namespace', 'open', 'def', 'theorem' AND NOTHING ELSE: no command of the shelf's: FOR A HAND-IN. Each laying: the table of numbers ('.._ren') and one theorem, a field a fact of the dump's own or the kernel's comparison; each contract: ONE APPLICATION.
-/
import Derived.Shelf.SlSortCmp.WholeK
import Derived.Ground.SlsfProg
import Derived.Test.Qxb6616947aDoorProg
namespace Go.Proofs
open Go.Shelf
def Tryd.sortV_ren : Go.Shelf.Ren := ⟨fun | 6 => 21 | 15 => 29 | 14 => 28 | 28 => 46 | 29 => 47 | 20 => 38 | 21 => 39 | 22 => 40 | 23 => 41 | 24 => 42 | 25 => 43 | 26 => 44 | 27 => 45 | 46 => 52 | 47 => 53 | 48 => 54 | 49 => 55 | 50 => 56 | 57 => 58 | n => n, fun | 22 => 25 | 24 => 41 | 25 => 57 | 3 => 3 | 39 => 61 | 0 => 0 | 53 => 29 | 55 => 30 | 4 => 4 | 46 => 71 | 45 => 70 | 50 => 75 | 5 => 5 | 9 => 9 | 66 => 83 | 70 => 87 | 76 => 92 | 77 => 93 | n => n, fun | n => n⟩
theorem Tryd.sortV : Go.Proofs.SlLaysF0.n6 Tryd.prog Tryd.sortV_ren := {
  mixed := by kernel_rfl
  f6 := ⟨Tryd.f21.name, by decide, Tryd.func21.trans (congrArg some (by kernel_rfl))⟩
  f14 := ⟨Tryd.f28.name, by decide, Tryd.func28.trans (congrArg some (by kernel_rfl))⟩
  f15 := Tryd.func29.trans (congrArg some (by kernel_rfl))
  f20 := ⟨Tryd.f38.name, by decide, Tryd.func38.trans (congrArg some (by kernel_rfl))⟩
  f21 := ⟨Tryd.f39.name, by decide, Tryd.func39.trans (congrArg some (by kernel_rfl))⟩
  f22 := ⟨Tryd.f40.name, by decide, Tryd.func40.trans (congrArg some (by kernel_rfl))⟩
  f23 := ⟨Tryd.f41.name, by decide, Tryd.func41.trans (congrArg some (by kernel_rfl))⟩
  f24 := ⟨Tryd.f42.name, by decide, Tryd.func42.trans (congrArg some (by kernel_rfl))⟩
  f25 := ⟨Tryd.f43.name, by decide, Tryd.func43.trans (congrArg some (by kernel_rfl))⟩
  f26 := ⟨Tryd.f44.name, by decide, Tryd.func44.trans (congrArg some (by kernel_rfl))⟩
  f27 := ⟨Tryd.f45.name, by decide, Tryd.func45.trans (congrArg some (by kernel_rfl))⟩
  f28 := Tryd.func46.trans (congrArg some (by kernel_rfl))
  f29 := Tryd.func47.trans (congrArg some (by kernel_rfl))
  f46 := ⟨Tryd.f52.name, by decide, Tryd.func52.trans (congrArg some (by kernel_rfl))⟩
  f47 := Tryd.func53.trans (congrArg some (by kernel_rfl))
  f48 := Tryd.func54.trans (congrArg some (by kernel_rfl))
  f49 := ⟨Tryd.f55.name, by decide, Tryd.func55.trans (congrArg some (by kernel_rfl))⟩
  f50 := ⟨Tryd.f56.name, by decide, Tryd.func56.trans (congrArg some (by kernel_rfl))⟩
  f57 := ⟨Tryd.f58.name, by decide, Tryd.func58.trans (congrArg some (by kernel_rfl))⟩
  t0 := Tryd.underlying0
  a0 := Tryd.isAgg0
  z0 := Tryd.sizeOf0
  v0 := Tryd.zeroValue0
  t3 := Tryd.underlying3
  a3 := Tryd.isAgg3
  z3 := Tryd.sizeOf3
  v3 := Tryd.zeroValue3
  t4 := Tryd.underlying4
  a4 := Tryd.isAgg4
  z4 := Tryd.sizeOf4
  v4 := Tryd.zeroValue4
  t5 := Tryd.underlying5
  a5 := Tryd.isAgg5
  z5 := Tryd.sizeOf5
  v5 := Tryd.zeroValue5
  t9 := Tryd.underlying9
  a9 := Tryd.isAgg9
  z9 := Tryd.sizeOf9
  v9 := Tryd.zeroValue9
  t22 := Tryd.underlying25
  a22 := Tryd.isAgg25
  z22 := Tryd.sizeOf25
  v22 := Tryd.zeroValue25
  t25 := Tryd.underlying57
  a25 := Tryd.isAgg57
  z25 := Tryd.sizeOf57
  v25 := Tryd.zeroValue57
  t39 := Tryd.underlying61
  a39 := Tryd.isAgg61
  z39 := Tryd.sizeOf61
  v39 := Tryd.zeroValue61
  t45 := Tryd.underlying70
  a45 := Tryd.isAgg70
  z45 := Tryd.sizeOf70
  v45 := Tryd.zeroValue70
  t46 := Tryd.underlying71
  a46 := Tryd.isAgg71
  z46 := Tryd.sizeOf71
  v46 := Tryd.zeroValue71
  t50 := Tryd.underlying75
  a50 := Tryd.isAgg75
  z50 := Tryd.sizeOf75
  v50 := Tryd.zeroValue75
  t53 := Tryd.underlying29
  a53 := Tryd.isAgg29
  z53 := Tryd.sizeOf29
  v53 := Tryd.zeroValue29
  t55 := Tryd.underlying30
  a55 := Tryd.isAgg30
  z55 := Tryd.sizeOf30
  v55 := Tryd.zeroValue30
  t66 := Tryd.underlying83
  a66 := Tryd.isAgg83
  z66 := Tryd.sizeOf83
  v66 := Tryd.zeroValue83
  t70 := Tryd.underlying87
  a70 := Tryd.isAgg87
  z70 := Tryd.sizeOf87
  v70 := Tryd.zeroValue87
  t76 := Tryd.underlying92
  a76 := Tryd.isAgg92
  z76 := Tryd.sizeOf92
  v76 := Tryd.zeroValue92
  t77 := Tryd.underlying93
  a77 := Tryd.isAgg93
  z77 := Tryd.sizeOf93
  v77 := Tryd.zeroValue93 }
end Go.Proofs
