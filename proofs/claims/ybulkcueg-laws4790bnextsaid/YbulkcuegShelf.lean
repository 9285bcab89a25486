/-
  DERIVED: THE SHELF's CONTRACTS AT THIS DUMP, IN PLAIN WORDS (tools/lay-plain.mjs out of 'YbaShelf.lean', which tools/lay-shelf.mjs wrote): THE SAME DECLARATIONS UNDER THE SAME NAMES: 'import', 'namespace', 'open', 'def', 'theorem' AND NOTHING ELSE: no command of the shelf's: FOR A HAND-IN. Each laying: the table of numbers ('.._ren') and one theorem, a field a fact of the dump's own or the kernel's comparison; each contract: ONE APPLICATION.
-/
import Derived.Shelf.SlSortCmp.NoneTotal
import Derived.Ground.SlsfProg
import Derived.Test.YbulkcuegProg
namespace Go.Proofs
open Go.Shelf
def Yba.sortL_ren : Go.Shelf.Ren := ⟨fun | 6 => 17 | 15 => 22 | 14 => 21 | 28 => 32 | 29 => 33 | 20 => 24 | 21 => 25 | 22 => 26 | 23 => 27 | 24 => 28 | 25 => 29 | 26 => 30 | 27 => 31 | 46 => 34 | 47 => 35 | 48 => 36 | 49 => 37 | 50 => 38 | 57 => 39 | n => n, fun | 22 => 58 | 24 => 3 | 25 => 108 | 3 => 3 | 39 => 114 | 0 => 0 | 53 => 36 | 55 => 125 | 4 => 4 | 46 => 118 | 45 => 117 | 50 => 87 | 5 => 5 | 9 => 9 | 66 => 126 | 70 => 130 | 76 => 132 | 77 => 133 | n => n, fun | n => n⟩
theorem Yba.sortL : Go.Proofs.SlLaysF.n6 Yba.prog Yba.sortL_ren := {
  mixed := by kernel_rfl
  f6 := ⟨Yba.f17.name, by decide, Yba.func17.trans (congrArg some (by kernel_rfl))⟩
  f14 := ⟨Yba.f21.name, by decide, Yba.func21.trans (congrArg some (by kernel_rfl))⟩
  f15 := Yba.func22.trans (congrArg some (by kernel_rfl))
  f20 := ⟨Yba.f24.name, by decide, Yba.func24.trans (congrArg some (by kernel_rfl))⟩
  f21 := ⟨Yba.f25.name, by decide, Yba.func25.trans (congrArg some (by kernel_rfl))⟩
  f22 := ⟨Yba.f26.name, by decide, Yba.func26.trans (congrArg some (by kernel_rfl))⟩
  f23 := ⟨Yba.f27.name, by decide, Yba.func27.trans (congrArg some (by kernel_rfl))⟩
  f24 := ⟨Yba.f28.name, by decide, Yba.func28.trans (congrArg some (by kernel_rfl))⟩
  f25 := ⟨Yba.f29.name, by decide, Yba.func29.trans (congrArg some (by kernel_rfl))⟩
  f26 := ⟨Yba.f30.name, by decide, Yba.func30.trans (congrArg some (by kernel_rfl))⟩
  f27 := ⟨Yba.f31.name, by decide, Yba.func31.trans (congrArg some (by kernel_rfl))⟩
  f28 := Yba.func32.trans (congrArg some (by kernel_rfl))
  f29 := Yba.func33.trans (congrArg some (by kernel_rfl))
  f46 := ⟨Yba.f34.name, by decide, Yba.func34.trans (congrArg some (by kernel_rfl))⟩
  f47 := Yba.func35.trans (congrArg some (by kernel_rfl))
  f48 := Yba.func36.trans (congrArg some (by kernel_rfl))
  f49 := ⟨Yba.f37.name, by decide, Yba.func37.trans (congrArg some (by kernel_rfl))⟩
  f50 := ⟨Yba.f38.name, by decide, Yba.func38.trans (congrArg some (by kernel_rfl))⟩
  f57 := ⟨Yba.f39.name, by decide, Yba.func39.trans (congrArg some (by kernel_rfl))⟩
  t0 := Yba.underlying0
  a0 := Yba.isAgg0
  z0 := Yba.sizeOf0
  v0 := Yba.zeroValue0
  t3 := Yba.underlying3
  a3 := Yba.isAgg3
  z3 := Yba.sizeOf3
  v3 := Yba.zeroValue3
  t4 := Yba.underlying4
  a4 := Yba.isAgg4
  z4 := Yba.sizeOf4
  v4 := Yba.zeroValue4
  t5 := Yba.underlying5
  a5 := Yba.isAgg5
  z5 := Yba.sizeOf5
  v5 := Yba.zeroValue5
  t9 := Yba.underlying9
  a9 := Yba.isAgg9
  z9 := Yba.sizeOf9
  v9 := Yba.zeroValue9
  t22 := Yba.underlying58
  a22 := Yba.isAgg58
  z22 := Yba.sizeOf58
  v22 := Yba.zeroValue58
  a24 := Yba.isAgg3
  z24 := Yba.sizeOf3
  t25 := Yba.underlying108
  a25 := Yba.isAgg108
  z25 := Yba.sizeOf108
  v25 := Yba.zeroValue108
  t39 := Yba.underlying114
  a39 := Yba.isAgg114
  z39 := Yba.sizeOf114
  v39 := Yba.zeroValue114
  t45 := Yba.underlying117
  a45 := Yba.isAgg117
  z45 := Yba.sizeOf117
  v45 := Yba.zeroValue117
  t46 := Yba.underlying118
  a46 := Yba.isAgg118
  z46 := Yba.sizeOf118
  v46 := Yba.zeroValue118
  t50 := Yba.underlying87
  a50 := Yba.isAgg87
  z50 := Yba.sizeOf87
  v50 := Yba.zeroValue87
  t53 := Yba.underlying36
  a53 := Yba.isAgg36
  z53 := Yba.sizeOf36
  v53 := Yba.zeroValue36
  t55 := Yba.underlying125
  a55 := Yba.isAgg125
  z55 := Yba.sizeOf125
  v55 := Yba.zeroValue125
  t66 := Yba.underlying126
  a66 := Yba.isAgg126
  z66 := Yba.sizeOf126
  v66 := Yba.zeroValue126
  t70 := Yba.underlying130
  a70 := Yba.isAgg130
  z70 := Yba.sizeOf130
  v70 := Yba.zeroValue130
  t76 := Yba.underlying132
  a76 := Yba.isAgg132
  z76 := Yba.sizeOf132
  v76 := Yba.zeroValue132
  t77 := Yba.underlying133
  a77 := Yba.isAgg133
  z77 := Yba.sizeOf133
  v77 := Yba.zeroValue133 }
end Go.Proofs
