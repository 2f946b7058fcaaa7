/-
  DERIVED: THE SHELF's CONTRACTS AT THIS DUMP, IN PLAIN WORDS (tools/lay-plain.mjs out of 'TryfShelf.lean', which tools/lay-shelf.mjs wrote): THE SAME DECLARATIONS UNDER THE SAME NAMES: 'import', 'namespace', 'open', 'def', 'theorem' AND NOTHING ELSE: no command of the shelf's: FOR A HAND-IN. Each laying: the table of numbers ('.._ren') and one theorem, a field a fact of the dump's own or the kernel's comparison; each contract: ONE APPLICATION.
-/
import Derived.Shelf.SlSortCmp.NoneTotal
import Derived.Shelf.SlGeneric
import Derived.Ground.SlsfProg
import Derived.Test.Qxb6612998aFmtProg
namespace Go.Proofs
open Go.Shelf
def Tryf.sortE_ren : Go.Shelf.Ren := ⟨fun | 6 => 50 | 15 => 61 | 14 => 60 | 28 => 73 | 29 => 74 | 20 => 65 | 21 => 66 | 22 => 67 | 23 => 68 | 24 => 69 | 25 => 70 | 26 => 71 | 27 => 72 | 46 => 75 | 47 => 76 | 48 => 77 | 49 => 78 | 50 => 79 | 57 => 80 | n => n, fun | 22 => 94 | 24 => 105 | 25 => 117 | 3 => 3 | 39 => 119 | 0 => 0 | 53 => 140 | 55 => 71 | 4 => 4 | 46 => 133 | 45 => 132 | 50 => 137 | 5 => 5 | 9 => 9 | 66 => 142 | 70 => 146 | 76 => 148 | 77 => 149 | n => n, fun | n => n⟩
theorem Tryf.sortE : Go.Proofs.SlLaysF0.n6 Tryf.prog Tryf.sortE_ren := {
  mixed := by kernel_rfl
  f6 := ⟨Tryf.f50.name, by decide, Tryf.func50.trans (congrArg some (by kernel_rfl))⟩
  f14 := ⟨Tryf.f60.name, by decide, Tryf.func60.trans (congrArg some (by kernel_rfl))⟩
  f15 := Tryf.func61.trans (congrArg some (by kernel_rfl))
  f20 := ⟨Tryf.f65.name, by decide, Tryf.func65.trans (congrArg some (by kernel_rfl))⟩
  f21 := ⟨Tryf.f66.name, by decide, Tryf.func66.trans (congrArg some (by kernel_rfl))⟩
  f22 := ⟨Tryf.f67.name, by decide, Tryf.func67.trans (congrArg some (by kernel_rfl))⟩
  f23 := ⟨Tryf.f68.name, by decide, Tryf.func68.trans (congrArg some (by kernel_rfl))⟩
  f24 := ⟨Tryf.f69.name, by decide, Tryf.func69.trans (congrArg some (by kernel_rfl))⟩
  f25 := ⟨Tryf.f70.name, by decide, Tryf.func70.trans (congrArg some (by kernel_rfl))⟩
  f26 := ⟨Tryf.f71.name, by decide, Tryf.func71.trans (congrArg some (by kernel_rfl))⟩
  f27 := ⟨Tryf.f72.name, by decide, Tryf.func72.trans (congrArg some (by kernel_rfl))⟩
  f28 := Tryf.func73.trans (congrArg some (by kernel_rfl))
  f29 := Tryf.func74.trans (congrArg some (by kernel_rfl))
  f46 := ⟨Tryf.f75.name, by decide, Tryf.func75.trans (congrArg some (by kernel_rfl))⟩
  f47 := Tryf.func76.trans (congrArg some (by kernel_rfl))
  f48 := Tryf.func77.trans (congrArg some (by kernel_rfl))
  f49 := ⟨Tryf.f78.name, by decide, Tryf.func78.trans (congrArg some (by kernel_rfl))⟩
  f50 := ⟨Tryf.f79.name, by decide, Tryf.func79.trans (congrArg some (by kernel_rfl))⟩
  f57 := ⟨Tryf.f80.name, by decide, Tryf.func80.trans (congrArg some (by kernel_rfl))⟩
  t0 := Tryf.underlying0
  a0 := Tryf.isAgg0
  z0 := Tryf.sizeOf0
  v0 := Tryf.zeroValue0
  t3 := Tryf.underlying3
  a3 := Tryf.isAgg3
  z3 := Tryf.sizeOf3
  v3 := Tryf.zeroValue3
  t4 := Tryf.underlying4
  a4 := Tryf.isAgg4
  z4 := Tryf.sizeOf4
  v4 := Tryf.zeroValue4
  t5 := Tryf.underlying5
  a5 := Tryf.isAgg5
  z5 := Tryf.sizeOf5
  v5 := Tryf.zeroValue5
  t9 := Tryf.underlying9
  a9 := Tryf.isAgg9
  z9 := Tryf.sizeOf9
  v9 := Tryf.zeroValue9
  t22 := Tryf.underlying94
  a22 := Tryf.isAgg94
  z22 := Tryf.sizeOf94
  v22 := Tryf.zeroValue94
  t25 := Tryf.underlying117
  a25 := Tryf.isAgg117
  z25 := Tryf.sizeOf117
  v25 := Tryf.zeroValue117
  t39 := Tryf.underlying119
  a39 := Tryf.isAgg119
  z39 := Tryf.sizeOf119
  v39 := Tryf.zeroValue119
  t45 := Tryf.underlying132
  a45 := Tryf.isAgg132
  z45 := Tryf.sizeOf132
  v45 := Tryf.zeroValue132
  t46 := Tryf.underlying133
  a46 := Tryf.isAgg133
  z46 := Tryf.sizeOf133
  v46 := Tryf.zeroValue133
  t50 := Tryf.underlying137
  a50 := Tryf.isAgg137
  z50 := Tryf.sizeOf137
  v50 := Tryf.zeroValue137
  t53 := Tryf.underlying140
  a53 := Tryf.isAgg140
  z53 := Tryf.sizeOf140
  v53 := Tryf.zeroValue140
  t55 := Tryf.underlying71
  a55 := Tryf.isAgg71
  z55 := Tryf.sizeOf71
  v55 := Tryf.zeroValue71
  t66 := Tryf.underlying142
  a66 := Tryf.isAgg142
  z66 := Tryf.sizeOf142
  v66 := Tryf.zeroValue142
  t70 := Tryf.underlying146
  a70 := Tryf.isAgg146
  z70 := Tryf.sizeOf146
  v70 := Tryf.zeroValue146
  t76 := Tryf.underlying148
  a76 := Tryf.isAgg148
  z76 := Tryf.sizeOf148
  v76 := Tryf.zeroValue148
  t77 := Tryf.underlying149
  a77 := Tryf.isAgg149
  z77 := Tryf.sizeOf149
  v77 := Tryf.zeroValue149 }
end Go.Proofs
