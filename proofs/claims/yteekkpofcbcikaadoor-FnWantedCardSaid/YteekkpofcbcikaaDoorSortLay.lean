/-
  DERIVED: THE SHELF's CONTRACTS AT THIS DUMP, IN PLAIN WORDS (tools/lay-plain.mjs out of 'TrydSort.lean', which tools/lay-shelf.mjs wrote): THE SAME DECLARATIONS UNDER THE SAME NAMES: 'import', 'namespace', 'open', 'def', 'theorem' AND NOTHING ELSE: no command of the shelf's: FOR A HAND-IN. Each laying: the table of numbers ('.._ren') and one theorem, a field a fact of the dump's own or the kernel's comparison; each contract: ONE APPLICATION.
-/
import Derived.Shelf.SlSortCmp.NoneTotal
import Derived.Shelf.SlGeneric
import Derived.Ground.SlsfProg
import Derived.Test.YteekkpofcbcikaaDoorProg
namespace Go.Proofs
open Go.Shelf
def Tryd.sortEnt_ren : Go.Shelf.Ren := ⟨fun | 6 => 47 | 15 => 74 | 14 => 82 | 28 => 106 | 29 => 107 | 20 => 112 | 21 => 113 | 22 => 114 | 23 => 115 | 24 => 116 | 25 => 117 | 26 => 118 | 27 => 119 | 46 => 137 | 47 => 130 | 48 => 131 | 49 => 138 | 50 => 139 | 57 => 146 | n => n, fun | 22 => 34 | 24 => 27 | 25 => 104 | 3 => 3 | 39 => 146 | 0 => 0 | 53 => 186 | 55 => 173 | 4 => 4 | 46 => 178 | 45 => 177 | 50 => 183 | 5 => 5 | 9 => 9 | 66 => 207 | 70 => 211 | 76 => 224 | 77 => 225 | n => n, fun | n => n⟩
theorem Tryd.sortEnt : Go.Proofs.SlLaysF0.n6 Tryd.prog Tryd.sortEnt_ren := {
  mixed := by kernel_rfl
  f6 := ⟨Tryd.f47.name, by decide, Tryd.func47.trans (congrArg some (by kernel_rfl))⟩
  f14 := ⟨Tryd.f82.name, by decide, Tryd.func82.trans (congrArg some (by kernel_rfl))⟩
  f15 := Tryd.func74.trans (congrArg some (by kernel_rfl))
  f20 := ⟨Tryd.f112.name, by decide, Tryd.func112.trans (congrArg some (by kernel_rfl))⟩
  f21 := ⟨Tryd.f113.name, by decide, Tryd.func113.trans (congrArg some (by kernel_rfl))⟩
  f22 := ⟨Tryd.f114.name, by decide, Tryd.func114.trans (congrArg some (by kernel_rfl))⟩
  f23 := ⟨Tryd.f115.name, by decide, Tryd.func115.trans (congrArg some (by kernel_rfl))⟩
  f24 := ⟨Tryd.f116.name, by decide, Tryd.func116.trans (congrArg some (by kernel_rfl))⟩
  f25 := ⟨Tryd.f117.name, by decide, Tryd.func117.trans (congrArg some (by kernel_rfl))⟩
  f26 := ⟨Tryd.f118.name, by decide, Tryd.func118.trans (congrArg some (by kernel_rfl))⟩
  f27 := ⟨Tryd.f119.name, by decide, Tryd.func119.trans (congrArg some (by kernel_rfl))⟩
  f28 := Tryd.func106.trans (congrArg some (by kernel_rfl))
  f29 := Tryd.func107.trans (congrArg some (by kernel_rfl))
  f46 := ⟨Tryd.f137.name, by decide, Tryd.func137.trans (congrArg some (by kernel_rfl))⟩
  f47 := Tryd.func130.trans (congrArg some (by kernel_rfl))
  f48 := Tryd.func131.trans (congrArg some (by kernel_rfl))
  f49 := ⟨Tryd.f138.name, by decide, Tryd.func138.trans (congrArg some (by kernel_rfl))⟩
  f50 := ⟨Tryd.f139.name, by decide, Tryd.func139.trans (congrArg some (by kernel_rfl))⟩
  f57 := ⟨Tryd.f146.name, by decide, Tryd.func146.trans (congrArg some (by kernel_rfl))⟩
  t0 := Tryd.underlying0
  a0 := Tryd.isAgg0
  z0 := Tryd.sizeOf0
  v0 := Tryd.zeroValue0
  t3 := Tryd.underlying3
  a3 := Tryd.isAgg3
  z3 := Tryd.sizeOf3
  v3 := Tryd.zeroValue3
  t4 := Tryd.underlying4
  a4 := Tryd.isAgg4
  z4 := Tryd.sizeOf4
  v4 := Tryd.zeroValue4
  t5 := Tryd.underlying5
  a5 := Tryd.isAgg5
  z5 := Tryd.sizeOf5
  v5 := Tryd.zeroValue5
  t9 := Tryd.underlying9
  a9 := Tryd.isAgg9
  z9 := Tryd.sizeOf9
  v9 := Tryd.zeroValue9
  t22 := Tryd.underlying34
  a22 := Tryd.isAgg34
  z22 := Tryd.sizeOf34
  v22 := Tryd.zeroValue34
  t25 := Tryd.underlying104
  a25 := Tryd.isAgg104
  z25 := Tryd.sizeOf104
  v25 := Tryd.zeroValue104
  t39 := Tryd.underlying146
  a39 := Tryd.isAgg146
  z39 := Tryd.sizeOf146
  v39 := Tryd.zeroValue146
  t45 := Tryd.underlying177
  a45 := Tryd.isAgg177
  z45 := Tryd.sizeOf177
  v45 := Tryd.zeroValue177
  t46 := Tryd.underlying178
  a46 := Tryd.isAgg178
  z46 := Tryd.sizeOf178
  v46 := Tryd.zeroValue178
  t50 := Tryd.underlying183
  a50 := Tryd.isAgg183
  z50 := Tryd.sizeOf183
  v50 := Tryd.zeroValue183
  t53 := Tryd.underlying186
  a53 := Tryd.isAgg186
  z53 := Tryd.sizeOf186
  v53 := Tryd.zeroValue186
  t55 := Tryd.underlying173
  a55 := Tryd.isAgg173
  z55 := Tryd.sizeOf173
  v55 := Tryd.zeroValue173
  t66 := Tryd.underlying207
  a66 := Tryd.isAgg207
  z66 := Tryd.sizeOf207
  v66 := Tryd.zeroValue207
  t70 := Tryd.underlying211
  a70 := Tryd.isAgg211
  z70 := Tryd.sizeOf211
  v70 := Tryd.zeroValue211
  t76 := Tryd.underlying224
  a76 := Tryd.isAgg224
  z76 := Tryd.sizeOf224
  v76 := Tryd.zeroValue224
  t77 := Tryd.underlying225
  a77 := Tryd.isAgg225
  z77 := Tryd.sizeOf225
  v77 := Tryd.zeroValue225 }
end Go.Proofs
