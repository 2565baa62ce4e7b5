/-
  DERIVED: THE SHELF's CONTRACTS AT THIS DUMP, IN PLAIN WORDS (tools/lay-plain.mjs out of 'YbafShelfS.lean', which tools/lay-shelf.mjs wrote): THE SAME DECLARATIONS UNDER THE SAME NAMES: 'import', 'namespace', 'open', 'def', 'theorem' AND NOTHING ELSE: no command of the shelf's: FOR A HAND-IN. Each laying: the table of numbers ('.._ren') and one theorem, a field a fact of the dump's own or the kernel's comparison; each contract: ONE APPLICATION.
-/
import Derived.Shelf.SlGeneric
import Derived.Shelf.SlSortCmp.NoneTotal
import Derived.Ground.SlsfProg
import Derived.Test.YbulkcvxmFmtProg
namespace Go.Proofs
open Go.Shelf
def Ybaf.sortL_ren : Go.Shelf.Ren := ⟨fun | 6 => 31 | 15 => 44 | 14 => 43 | 28 => 62 | 29 => 63 | 20 => 54 | 21 => 55 | 22 => 56 | 23 => 57 | 24 => 58 | 25 => 59 | 26 => 60 | 27 => 61 | 46 => 70 | 47 => 71 | 48 => 72 | 49 => 73 | 50 => 74 | 57 => 77 | n => n, fun | 22 => 47 | 24 => 20 | 25 => 91 | 3 => 3 | 39 => 105 | 0 => 0 | 53 => 125 | 55 => 107 | 4 => 4 | 46 => 118 | 45 => 117 | 50 => 122 | 5 => 5 | 9 => 9 | 66 => 132 | 70 => 136 | 76 => 138 | 77 => 139 | n => n, fun | n => n⟩
theorem Ybaf.sortL : Go.Proofs.SlLaysF.n6 Ybaf.prog Ybaf.sortL_ren := {
  mixed := by kernel_rfl
  f6 := ⟨Ybaf.f31.name, by decide, Ybaf.func31.trans (congrArg some (by kernel_rfl))⟩
  f14 := ⟨Ybaf.f43.name, by decide, Ybaf.func43.trans (congrArg some (by kernel_rfl))⟩
  f15 := Ybaf.func44.trans (congrArg some (by kernel_rfl))
  f20 := ⟨Ybaf.f54.name, by decide, Ybaf.func54.trans (congrArg some (by kernel_rfl))⟩
  f21 := ⟨Ybaf.f55.name, by decide, Ybaf.func55.trans (congrArg some (by kernel_rfl))⟩
  f22 := ⟨Ybaf.f56.name, by decide, Ybaf.func56.trans (congrArg some (by kernel_rfl))⟩
  f23 := ⟨Ybaf.f57.name, by decide, Ybaf.func57.trans (congrArg some (by kernel_rfl))⟩
  f24 := ⟨Ybaf.f58.name, by decide, Ybaf.func58.trans (congrArg some (by kernel_rfl))⟩
  f25 := ⟨Ybaf.f59.name, by decide, Ybaf.func59.trans (congrArg some (by kernel_rfl))⟩
  f26 := ⟨Ybaf.f60.name, by decide, Ybaf.func60.trans (congrArg some (by kernel_rfl))⟩
  f27 := ⟨Ybaf.f61.name, by decide, Ybaf.func61.trans (congrArg some (by kernel_rfl))⟩
  f28 := Ybaf.func62.trans (congrArg some (by kernel_rfl))
  f29 := Ybaf.func63.trans (congrArg some (by kernel_rfl))
  f46 := ⟨Ybaf.f70.name, by decide, Ybaf.func70.trans (congrArg some (by kernel_rfl))⟩
  f47 := Ybaf.func71.trans (congrArg some (by kernel_rfl))
  f48 := Ybaf.func72.trans (congrArg some (by kernel_rfl))
  f49 := ⟨Ybaf.f73.name, by decide, Ybaf.func73.trans (congrArg some (by kernel_rfl))⟩
  f50 := ⟨Ybaf.f74.name, by decide, Ybaf.func74.trans (congrArg some (by kernel_rfl))⟩
  f57 := ⟨Ybaf.f77.name, by decide, Ybaf.func77.trans (congrArg some (by kernel_rfl))⟩
  t0 := Ybaf.underlying0
  a0 := Ybaf.isAgg0
  z0 := Ybaf.sizeOf0
  v0 := Ybaf.zeroValue0
  t3 := Ybaf.underlying3
  a3 := Ybaf.isAgg3
  z3 := Ybaf.sizeOf3
  v3 := Ybaf.zeroValue3
  t4 := Ybaf.underlying4
  a4 := Ybaf.isAgg4
  z4 := Ybaf.sizeOf4
  v4 := Ybaf.zeroValue4
  t5 := Ybaf.underlying5
  a5 := Ybaf.isAgg5
  z5 := Ybaf.sizeOf5
  v5 := Ybaf.zeroValue5
  t9 := Ybaf.underlying9
  a9 := Ybaf.isAgg9
  z9 := Ybaf.sizeOf9
  v9 := Ybaf.zeroValue9
  t22 := Ybaf.underlying47
  a22 := Ybaf.isAgg47
  z22 := Ybaf.sizeOf47
  v22 := Ybaf.zeroValue47
  a24 := Ybaf.isAgg20
  z24 := Ybaf.sizeOf20
  t25 := Ybaf.underlying91
  a25 := Ybaf.isAgg91
  z25 := Ybaf.sizeOf91
  v25 := Ybaf.zeroValue91
  t39 := Ybaf.underlying105
  a39 := Ybaf.isAgg105
  z39 := Ybaf.sizeOf105
  v39 := Ybaf.zeroValue105
  t45 := Ybaf.underlying117
  a45 := Ybaf.isAgg117
  z45 := Ybaf.sizeOf117
  v45 := Ybaf.zeroValue117
  t46 := Ybaf.underlying118
  a46 := Ybaf.isAgg118
  z46 := Ybaf.sizeOf118
  v46 := Ybaf.zeroValue118
  t50 := Ybaf.underlying122
  a50 := Ybaf.isAgg122
  z50 := Ybaf.sizeOf122
  v50 := Ybaf.zeroValue122
  t53 := Ybaf.underlying125
  a53 := Ybaf.isAgg125
  z53 := Ybaf.sizeOf125
  v53 := Ybaf.zeroValue125
  t55 := Ybaf.underlying107
  a55 := Ybaf.isAgg107
  z55 := Ybaf.sizeOf107
  v55 := Ybaf.zeroValue107
  t66 := Ybaf.underlying132
  a66 := Ybaf.isAgg132
  z66 := Ybaf.sizeOf132
  v66 := Ybaf.zeroValue132
  t70 := Ybaf.underlying136
  a70 := Ybaf.isAgg136
  z70 := Ybaf.sizeOf136
  v70 := Ybaf.zeroValue136
  t76 := Ybaf.underlying138
  a76 := Ybaf.isAgg138
  z76 := Ybaf.sizeOf138
  v76 := Ybaf.zeroValue138
  t77 := Ybaf.underlying139
  a77 := Ybaf.isAgg139
  z77 := Ybaf.sizeOf139
  v77 := Ybaf.zeroValue139 }
open Go.RowKit in
theorem Ybaf.sortFunc_none (p : Option Addr) (cap : Nat) (fv : Value) (w : World) :
    Calls Ybaf.prog 31 #[.slice p 0 cap, fv] w fun e w' => e = .returned (.tuple #[]) ∧ w' = w := AnyF.slices_SortFunc_none (P := Ybaf.prog) (ρ := Ybaf.sortL_ren) { Ybaf.sortL with } p cap fv w
end Go.Proofs
