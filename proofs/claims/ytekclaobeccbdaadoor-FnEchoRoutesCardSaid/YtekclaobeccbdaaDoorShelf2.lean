/-
  DERIVED: THE SHELF's CONTRACTS AT THIS DUMP, IN PLAIN WORDS (tools/lay-plain.mjs out of 'TrydShelf2.lean', which tools/lay-shelf.mjs wrote): THE SAME DECLARATIONS UNDER THE SAME NAMES: 'import', 'namespace', 'open', 'def', 'theorem' AND NOTHING ELSE: no command of the shelf's: FOR A HAND-IN. Each laying: the table of numbers ('.._ren') and one theorem, a field a fact of the dump's own or the kernel's comparison; each contract: ONE APPLICATION.
-/
import Derived.Shelf.SlGeneric
import Derived.Shelf.SlSortCmp.WholeK
import Derived.Ground.SlsfProg
import Derived.Test.YtekclaobeccbdaaDoorProg
namespace Go.Proofs
open Go.Shelf
def Tryd.sortF29_ren : Go.Shelf.Ren := ⟨fun | 6 => 29 | 15 => 47 | 14 => 46 | 28 => 71 | 29 => 72 | 20 => 63 | 21 => 64 | 22 => 65 | 23 => 66 | 24 => 67 | 25 => 68 | 26 => 69 | 27 => 70 | 46 => 94 | 47 => 95 | 48 => 96 | 49 => 97 | 50 => 98 | 57 => 125 | n => n, fun | 22 => 28 | 24 => 23 | 25 => 49 | 3 => 3 | 39 => 77 | 0 => 0 | 53 => 112 | 55 => 114 | 4 => 4 | 46 => 105 | 45 => 104 | 50 => 109 | 5 => 5 | 9 => 9 | 66 => 156 | 70 => 94 | 76 => 185 | 77 => 186 | n => n, fun | n => n⟩
theorem Tryd.sortF29 : Go.Proofs.SlLaysF0.n6 Tryd.prog Tryd.sortF29_ren := {
  mixed := by kernel_rfl
  f6 := ⟨Tryd.f29.name, by decide, Tryd.func29.trans (congrArg some (by kernel_rfl))⟩
  f14 := ⟨Tryd.f46.name, by decide, Tryd.func46.trans (congrArg some (by kernel_rfl))⟩
  f15 := Tryd.func47.trans (congrArg some (by kernel_rfl))
  f20 := ⟨Tryd.f63.name, by decide, Tryd.func63.trans (congrArg some (by kernel_rfl))⟩
  f21 := ⟨Tryd.f64.name, by decide, Tryd.func64.trans (congrArg some (by kernel_rfl))⟩
  f22 := ⟨Tryd.f65.name, by decide, Tryd.func65.trans (congrArg some (by kernel_rfl))⟩
  f23 := ⟨Tryd.f66.name, by decide, Tryd.func66.trans (congrArg some (by kernel_rfl))⟩
  f24 := ⟨Tryd.f67.name, by decide, Tryd.func67.trans (congrArg some (by kernel_rfl))⟩
  f25 := ⟨Tryd.f68.name, by decide, Tryd.func68.trans (congrArg some (by kernel_rfl))⟩
  f26 := ⟨Tryd.f69.name, by decide, Tryd.func69.trans (congrArg some (by kernel_rfl))⟩
  f27 := ⟨Tryd.f70.name, by decide, Tryd.func70.trans (congrArg some (by kernel_rfl))⟩
  f28 := Tryd.func71.trans (congrArg some (by kernel_rfl))
  f29 := Tryd.func72.trans (congrArg some (by kernel_rfl))
  f46 := ⟨Tryd.f94.name, by decide, Tryd.func94.trans (congrArg some (by kernel_rfl))⟩
  f47 := Tryd.func95.trans (congrArg some (by kernel_rfl))
  f48 := Tryd.func96.trans (congrArg some (by kernel_rfl))
  f49 := ⟨Tryd.f97.name, by decide, Tryd.func97.trans (congrArg some (by kernel_rfl))⟩
  f50 := ⟨Tryd.f98.name, by decide, Tryd.func98.trans (congrArg some (by kernel_rfl))⟩
  f57 := ⟨Tryd.f125.name, by decide, Tryd.func125.trans (congrArg some (by kernel_rfl))⟩
  t0 := Tryd.underlying0
  a0 := Tryd.isAgg0
  z0 := Tryd.sizeOf0
  v0 := Tryd.zeroValue0
  t3 := Tryd.underlying3
  a3 := Tryd.isAgg3
  z3 := Tryd.sizeOf3
  v3 := Tryd.zeroValue3
  t4 := Tryd.underlying4
  a4 := Tryd.isAgg4
  z4 := Tryd.sizeOf4
  v4 := Tryd.zeroValue4
  t5 := Tryd.underlying5
  a5 := Tryd.isAgg5
  z5 := Tryd.sizeOf5
  v5 := Tryd.zeroValue5
  t9 := Tryd.underlying9
  a9 := Tryd.isAgg9
  z9 := Tryd.sizeOf9
  v9 := Tryd.zeroValue9
  t22 := Tryd.underlying28
  a22 := Tryd.isAgg28
  z22 := Tryd.sizeOf28
  v22 := Tryd.zeroValue28
  t25 := Tryd.underlying49
  a25 := Tryd.isAgg49
  z25 := Tryd.sizeOf49
  v25 := Tryd.zeroValue49
  t39 := Tryd.underlying77
  a39 := Tryd.isAgg77
  z39 := Tryd.sizeOf77
  v39 := Tryd.zeroValue77
  t45 := Tryd.underlying104
  a45 := Tryd.isAgg104
  z45 := Tryd.sizeOf104
  v45 := Tryd.zeroValue104
  t46 := Tryd.underlying105
  a46 := Tryd.isAgg105
  z46 := Tryd.sizeOf105
  v46 := Tryd.zeroValue105
  t50 := Tryd.underlying109
  a50 := Tryd.isAgg109
  z50 := Tryd.sizeOf109
  v50 := Tryd.zeroValue109
  t53 := Tryd.underlying112
  a53 := Tryd.isAgg112
  z53 := Tryd.sizeOf112
  v53 := Tryd.zeroValue112
  t55 := Tryd.underlying114
  a55 := Tryd.isAgg114
  z55 := Tryd.sizeOf114
  v55 := Tryd.zeroValue114
  t66 := Tryd.underlying156
  a66 := Tryd.isAgg156
  z66 := Tryd.sizeOf156
  v66 := Tryd.zeroValue156
  t70 := Tryd.underlying94
  a70 := Tryd.isAgg94
  z70 := Tryd.sizeOf94
  v70 := Tryd.zeroValue94
  t76 := Tryd.underlying185
  a76 := Tryd.isAgg185
  z76 := Tryd.sizeOf185
  v76 := Tryd.zeroValue185
  t77 := Tryd.underlying186
  a77 := Tryd.isAgg186
  z77 := Tryd.sizeOf186
  v77 := Tryd.zeroValue186 }
end Go.Proofs
