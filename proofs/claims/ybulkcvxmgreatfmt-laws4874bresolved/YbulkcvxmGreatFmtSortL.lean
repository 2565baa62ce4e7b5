/-
  DERIVED: THE SHELF's CONTRACTS AT THIS DUMP, IN PLAIN WORDS (tools/lay-plain.mjs out of 'YbazShelfS.lean', which tools/lay-shelf.mjs wrote): THE SAME DECLARATIONS UNDER THE SAME NAMES: 'import', 'namespace', 'open', 'def', 'theorem' AND NOTHING ELSE: no command of the shelf's: FOR A HAND-IN. Each laying: the table of numbers ('.._ren') and one theorem, a field a fact of the dump's own or the kernel's comparison; each contract: ONE APPLICATION.
-/
import Derived.Shelf.SlGeneric
import Derived.Shelf.SlSortCmp.NoneTotal
import Derived.Ground.SlsfProg
import Derived.Test.YbulkcvxmGreatFmtProg
namespace Go.Proofs
open Go.Shelf
def Ybaz.sortL_ren : Go.Shelf.Ren := ⟨fun | 6 => 32 | 15 => 21 | 14 => 55 | 28 => 47 | 29 => 48 | 20 => 71 | 21 => 72 | 22 => 73 | 23 => 74 | 24 => 75 | 25 => 76 | 26 => 77 | 27 => 78 | 46 => 86 | 47 => 62 | 48 => 63 | 49 => 87 | 50 => 88 | 57 => 91 | n => n, fun | 22 => 53 | 24 => 20 | 25 => 104 | 3 => 3 | 39 => 83 | 0 => 0 | 53 => 117 | 55 => 30 | 4 => 4 | 46 => 109 | 45 => 108 | 50 => 114 | 5 => 5 | 9 => 9 | 66 => 132 | 70 => 136 | 76 => 153 | 77 => 154 | n => n, fun | n => n⟩
theorem Ybaz.sortL : Go.Proofs.SlLaysF.n6 Ybaz.prog Ybaz.sortL_ren := {
  mixed := by kernel_rfl
  f6 := ⟨Ybaz.f32.name, by decide, Ybaz.func32.trans (congrArg some (by kernel_rfl))⟩
  f14 := ⟨Ybaz.f55.name, by decide, Ybaz.func55.trans (congrArg some (by kernel_rfl))⟩
  f15 := Ybaz.func21.trans (congrArg some (by kernel_rfl))
  f20 := ⟨Ybaz.f71.name, by decide, Ybaz.func71.trans (congrArg some (by kernel_rfl))⟩
  f21 := ⟨Ybaz.f72.name, by decide, Ybaz.func72.trans (congrArg some (by kernel_rfl))⟩
  f22 := ⟨Ybaz.f73.name, by decide, Ybaz.func73.trans (congrArg some (by kernel_rfl))⟩
  f23 := ⟨Ybaz.f74.name, by decide, Ybaz.func74.trans (congrArg some (by kernel_rfl))⟩
  f24 := ⟨Ybaz.f75.name, by decide, Ybaz.func75.trans (congrArg some (by kernel_rfl))⟩
  f25 := ⟨Ybaz.f76.name, by decide, Ybaz.func76.trans (congrArg some (by kernel_rfl))⟩
  f26 := ⟨Ybaz.f77.name, by decide, Ybaz.func77.trans (congrArg some (by kernel_rfl))⟩
  f27 := ⟨Ybaz.f78.name, by decide, Ybaz.func78.trans (congrArg some (by kernel_rfl))⟩
  f28 := Ybaz.func47.trans (congrArg some (by kernel_rfl))
  f29 := Ybaz.func48.trans (congrArg some (by kernel_rfl))
  f46 := ⟨Ybaz.f86.name, by decide, Ybaz.func86.trans (congrArg some (by kernel_rfl))⟩
  f47 := Ybaz.func62.trans (congrArg some (by kernel_rfl))
  f48 := Ybaz.func63.trans (congrArg some (by kernel_rfl))
  f49 := ⟨Ybaz.f87.name, by decide, Ybaz.func87.trans (congrArg some (by kernel_rfl))⟩
  f50 := ⟨Ybaz.f88.name, by decide, Ybaz.func88.trans (congrArg some (by kernel_rfl))⟩
  f57 := ⟨Ybaz.f91.name, by decide, Ybaz.func91.trans (congrArg some (by kernel_rfl))⟩
  t0 := Ybaz.underlying0
  a0 := Ybaz.isAgg0
  z0 := Ybaz.sizeOf0
  v0 := Ybaz.zeroValue0
  t3 := Ybaz.underlying3
  a3 := Ybaz.isAgg3
  z3 := Ybaz.sizeOf3
  v3 := Ybaz.zeroValue3
  t4 := Ybaz.underlying4
  a4 := Ybaz.isAgg4
  z4 := Ybaz.sizeOf4
  v4 := Ybaz.zeroValue4
  t5 := Ybaz.underlying5
  a5 := Ybaz.isAgg5
  z5 := Ybaz.sizeOf5
  v5 := Ybaz.zeroValue5
  t9 := Ybaz.underlying9
  a9 := Ybaz.isAgg9
  z9 := Ybaz.sizeOf9
  v9 := Ybaz.zeroValue9
  t22 := Ybaz.underlying53
  a22 := Ybaz.isAgg53
  z22 := Ybaz.sizeOf53
  v22 := Ybaz.zeroValue53
  a24 := Ybaz.isAgg20
  z24 := Ybaz.sizeOf20
  t25 := Ybaz.underlying104
  a25 := Ybaz.isAgg104
  z25 := Ybaz.sizeOf104
  v25 := Ybaz.zeroValue104
  t39 := Ybaz.underlying83
  a39 := Ybaz.isAgg83
  z39 := Ybaz.sizeOf83
  v39 := Ybaz.zeroValue83
  t45 := Ybaz.underlying108
  a45 := Ybaz.isAgg108
  z45 := Ybaz.sizeOf108
  v45 := Ybaz.zeroValue108
  t46 := Ybaz.underlying109
  a46 := Ybaz.isAgg109
  z46 := Ybaz.sizeOf109
  v46 := Ybaz.zeroValue109
  t50 := Ybaz.underlying114
  a50 := Ybaz.isAgg114
  z50 := Ybaz.sizeOf114
  v50 := Ybaz.zeroValue114
  t53 := Ybaz.underlying117
  a53 := Ybaz.isAgg117
  z53 := Ybaz.sizeOf117
  v53 := Ybaz.zeroValue117
  t55 := Ybaz.underlying30
  a55 := Ybaz.isAgg30
  z55 := Ybaz.sizeOf30
  v55 := Ybaz.zeroValue30
  t66 := Ybaz.underlying132
  a66 := Ybaz.isAgg132
  z66 := Ybaz.sizeOf132
  v66 := Ybaz.zeroValue132
  t70 := Ybaz.underlying136
  a70 := Ybaz.isAgg136
  z70 := Ybaz.sizeOf136
  v70 := Ybaz.zeroValue136
  t76 := Ybaz.underlying153
  a76 := Ybaz.isAgg153
  z76 := Ybaz.sizeOf153
  v76 := Ybaz.zeroValue153
  t77 := Ybaz.underlying154
  a77 := Ybaz.isAgg154
  z77 := Ybaz.sizeOf154
  v77 := Ybaz.zeroValue154 }
end Go.Proofs
