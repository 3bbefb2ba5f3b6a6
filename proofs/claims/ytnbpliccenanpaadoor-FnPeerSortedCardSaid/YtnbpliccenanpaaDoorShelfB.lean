/-
  DERIVED: THE SHELF's CONTRACTS AT THIS DUMP, IN PLAIN WORDS (tools/lay-plain.mjs out of 'YtnbpliccenanpaaDoorShelfB.lean', which tools/lay-shelf.mjs wrote): THE SAME DECLARATIONS UNDER THE SAME NAMES: 'import', 'namespace', 'open', 'def', 'theorem' AND NOTHING ELSE: no command of the shelf's: FOR A HAND-IN. Each laying: the table of numbers ('.._ren') and one theorem, a field a fact of the dump's own or the kernel's comparison; each contract: ONE APPLICATION.
-/
import Derived.Shelf.SlGeneric
import Derived.Ground.SlsfProg
import Derived.Shelf.SlSortCmp.Whole1
import Derived.Test.YtnbpliccenanpaaDoorProg
namespace Go.Proofs
open Go.Shelf
def Tryd.laysSl30_ren : Go.Shelf.Ren := ⟨fun | 6 => 30 | 15 => 50 | 14 => 49 | 28 => 75 | 29 => 76 | 20 => 67 | 21 => 68 | 22 => 69 | 23 => 70 | 24 => 71 | 25 => 72 | 26 => 73 | 27 => 74 | 46 => 103 | 47 => 104 | 48 => 105 | 49 => 106 | 50 => 107 | 57 => 124 | n => n, fun | 22 => 38 | 24 => 22 | 25 => 40 | 3 => 3 | 39 => 60 | 0 => 0 | 53 => 85 | 55 => 47 | 4 => 4 | 46 => 114 | 45 => 113 | 50 => 118 | 5 => 5 | 9 => 9 | 66 => 164 | 70 => 167 | 76 => 201 | 77 => 202 | n => n, fun | n => n⟩
theorem Tryd.laysSl30 : Go.Proofs.SlLaysF.n6 Tryd.prog Tryd.laysSl30_ren := {
  mixed := by kernel_rfl
  f6 := ⟨Tryd.f30.name, by decide, Tryd.func30.trans (congrArg some (by kernel_rfl))⟩
  f14 := ⟨Tryd.f49.name, by decide, Tryd.func49.trans (congrArg some (by kernel_rfl))⟩
  f15 := Tryd.func50.trans (congrArg some (by kernel_rfl))
  f20 := ⟨Tryd.f67.name, by decide, Tryd.func67.trans (congrArg some (by kernel_rfl))⟩
  f21 := ⟨Tryd.f68.name, by decide, Tryd.func68.trans (congrArg some (by kernel_rfl))⟩
  f22 := ⟨Tryd.f69.name, by decide, Tryd.func69.trans (congrArg some (by kernel_rfl))⟩
  f23 := ⟨Tryd.f70.name, by decide, Tryd.func70.trans (congrArg some (by kernel_rfl))⟩
  f24 := ⟨Tryd.f71.name, by decide, Tryd.func71.trans (congrArg some (by kernel_rfl))⟩
  f25 := ⟨Tryd.f72.name, by decide, Tryd.func72.trans (congrArg some (by kernel_rfl))⟩
  f26 := ⟨Tryd.f73.name, by decide, Tryd.func73.trans (congrArg some (by kernel_rfl))⟩
  f27 := ⟨Tryd.f74.name, by decide, Tryd.func74.trans (congrArg some (by kernel_rfl))⟩
  f28 := Tryd.func75.trans (congrArg some (by kernel_rfl))
  f29 := Tryd.func76.trans (congrArg some (by kernel_rfl))
  f46 := ⟨Tryd.f103.name, by decide, Tryd.func103.trans (congrArg some (by kernel_rfl))⟩
  f47 := Tryd.func104.trans (congrArg some (by kernel_rfl))
  f48 := Tryd.func105.trans (congrArg some (by kernel_rfl))
  f49 := ⟨Tryd.f106.name, by decide, Tryd.func106.trans (congrArg some (by kernel_rfl))⟩
  f50 := ⟨Tryd.f107.name, by decide, Tryd.func107.trans (congrArg some (by kernel_rfl))⟩
  f57 := ⟨Tryd.f124.name, by decide, Tryd.func124.trans (congrArg some (by kernel_rfl))⟩
  t0 := Tryd.underlying0
  a0 := Tryd.isAgg0
  z0 := Tryd.sizeOf0
  v0 := Tryd.zeroValue0
  t3 := Tryd.underlying3
  a3 := Tryd.isAgg3
  z3 := Tryd.sizeOf3
  v3 := Tryd.zeroValue3
  t4 := Tryd.underlying4
  a4 := Tryd.isAgg4
  z4 := Tryd.sizeOf4
  v4 := Tryd.zeroValue4
  t5 := Tryd.underlying5
  a5 := Tryd.isAgg5
  z5 := Tryd.sizeOf5
  v5 := Tryd.zeroValue5
  t9 := Tryd.underlying9
  a9 := Tryd.isAgg9
  z9 := Tryd.sizeOf9
  v9 := Tryd.zeroValue9
  t22 := Tryd.underlying38
  a22 := Tryd.isAgg38
  z22 := Tryd.sizeOf38
  v22 := Tryd.zeroValue38
  a24 := Tryd.isAgg22
  z24 := Tryd.sizeOf22
  t25 := Tryd.underlying40
  a25 := Tryd.isAgg40
  z25 := Tryd.sizeOf40
  v25 := Tryd.zeroValue40
  t39 := Tryd.underlying60
  a39 := Tryd.isAgg60
  z39 := Tryd.sizeOf60
  v39 := Tryd.zeroValue60
  t45 := Tryd.underlying113
  a45 := Tryd.isAgg113
  z45 := Tryd.sizeOf113
  v45 := Tryd.zeroValue113
  t46 := Tryd.underlying114
  a46 := Tryd.isAgg114
  z46 := Tryd.sizeOf114
  v46 := Tryd.zeroValue114
  t50 := Tryd.underlying118
  a50 := Tryd.isAgg118
  z50 := Tryd.sizeOf118
  v50 := Tryd.zeroValue118
  t53 := Tryd.underlying85
  a53 := Tryd.isAgg85
  z53 := Tryd.sizeOf85
  v53 := Tryd.zeroValue85
  t55 := Tryd.underlying47
  a55 := Tryd.isAgg47
  z55 := Tryd.sizeOf47
  v55 := Tryd.zeroValue47
  t66 := Tryd.underlying164
  a66 := Tryd.isAgg164
  z66 := Tryd.sizeOf164
  v66 := Tryd.zeroValue164
  t70 := Tryd.underlying167
  a70 := Tryd.isAgg167
  z70 := Tryd.sizeOf167
  v70 := Tryd.zeroValue167
  t76 := Tryd.underlying201
  a76 := Tryd.isAgg201
  z76 := Tryd.sizeOf201
  v76 := Tryd.zeroValue201
  t77 := Tryd.underlying202
  a77 := Tryd.isAgg202
  z77 := Tryd.sizeOf202
  v77 := Tryd.zeroValue202 }
end Go.Proofs
