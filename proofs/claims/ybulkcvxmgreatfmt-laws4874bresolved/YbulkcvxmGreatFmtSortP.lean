/- slices.Sort over strings: laid by the shelf (lay-plain), its part of the whole. -/
import Derived.Shelf.Sort.Plain
import Derived.Shelf.LaysM
import Derived.Test.YbulkcvxmGreatFmtProg
namespace Go.Proofs
open Go.Shelf
def Ybaz.lays190_ren : Go.Shelf.Ren := ⟨fun | 190 => 9 | 125 => 21 | 258 => 20 | 128 => 47 | 129 => 48 | 302 => 38 | 303 => 39 | 304 => 40 | 305 => 41 | 306 => 42 | 307 => 43 | 308 => 44 | 309 => 45 | 310 => 46 | 333 => 61 | 329 => 62 | 330 => 63 | 334 => 64 | 335 => 65 | 336 => 66 | 344 => 84 | n => n, fun | 31 => 48 | 9 => 9 | 3 => 3 | 46 => 83 | 0 => 0 | 51 => 117 | 53 => 30 | 4 => 4 | 183 => 109 | 182 => 108 | 131 => 114 | 5 => 5 | 218 => 132 | 222 => 136 | 228 => 153 | 229 => 154 | n => n, fun | n => n⟩
theorem Ybaz.lays190 : Go.Proofs.Lays.n190 Ybaz.prog Ybaz.lays190_ren := {
  mixed := by kernel_rfl
  f125 := Ybaz.func21.trans (congrArg some (by kernel_rfl))
  f128 := Ybaz.func47.trans (congrArg some (by kernel_rfl))
  f129 := Ybaz.func48.trans (congrArg some (by kernel_rfl))
  f190 := Ybaz.func9.trans (congrArg some (by kernel_rfl))
  f258 := Ybaz.func20.trans (congrArg some (by kernel_rfl))
  f302 := Ybaz.func38.trans (congrArg some (by kernel_rfl))
  f303 := Ybaz.func39.trans (congrArg some (by kernel_rfl))
  f304 := Ybaz.func40.trans (congrArg some (by kernel_rfl))
  f305 := Ybaz.func41.trans (congrArg some (by kernel_rfl))
  f306 := Ybaz.func42.trans (congrArg some (by kernel_rfl))
  f307 := Ybaz.func43.trans (congrArg some (by kernel_rfl))
  f308 := Ybaz.func44.trans (congrArg some (by kernel_rfl))
  f309 := Ybaz.func45.trans (congrArg some (by kernel_rfl))
  f310 := Ybaz.func46.trans (congrArg some (by kernel_rfl))
  f329 := Ybaz.func62.trans (congrArg some (by kernel_rfl))
  f330 := Ybaz.func63.trans (congrArg some (by kernel_rfl))
  f333 := Ybaz.func61.trans (congrArg some (by kernel_rfl))
  f334 := Ybaz.func64.trans (congrArg some (by kernel_rfl))
  f335 := Ybaz.func65.trans (congrArg some (by kernel_rfl))
  f336 := Ybaz.func66.trans (congrArg some (by kernel_rfl))
  f344 := Ybaz.func84.trans (congrArg some (by kernel_rfl))
  t0 := Ybaz.underlying0
  a0 := Ybaz.isAgg0
  z0 := Ybaz.sizeOf0
  v0 := Ybaz.zeroValue0
  t3 := Ybaz.underlying3
  a3 := Ybaz.isAgg3
  z3 := Ybaz.sizeOf3
  v3 := Ybaz.zeroValue3
  t4 := Ybaz.underlying4
  a4 := Ybaz.isAgg4
  z4 := Ybaz.sizeOf4
  v4 := Ybaz.zeroValue4
  t5 := Ybaz.underlying5
  a5 := Ybaz.isAgg5
  z5 := Ybaz.sizeOf5
  v5 := Ybaz.zeroValue5
  t9 := Ybaz.underlying9
  a9 := Ybaz.isAgg9
  z9 := Ybaz.sizeOf9
  v9 := Ybaz.zeroValue9
  t31 := Ybaz.underlying48
  a31 := Ybaz.isAgg48
  z31 := Ybaz.sizeOf48
  v31 := Ybaz.zeroValue48
  t46 := Ybaz.underlying83
  a46 := Ybaz.isAgg83
  z46 := Ybaz.sizeOf83
  v46 := Ybaz.zeroValue83
  t51 := Ybaz.underlying117
  a51 := Ybaz.isAgg117
  z51 := Ybaz.sizeOf117
  v51 := Ybaz.zeroValue117
  t53 := Ybaz.underlying30
  a53 := Ybaz.isAgg30
  z53 := Ybaz.sizeOf30
  v53 := Ybaz.zeroValue30
  t131 := Ybaz.underlying114
  a131 := Ybaz.isAgg114
  z131 := Ybaz.sizeOf114
  v131 := Ybaz.zeroValue114
  t182 := Ybaz.underlying108
  a182 := Ybaz.isAgg108
  z182 := Ybaz.sizeOf108
  v182 := Ybaz.zeroValue108
  t183 := Ybaz.underlying109
  a183 := Ybaz.isAgg109
  z183 := Ybaz.sizeOf109
  v183 := Ybaz.zeroValue109
  t218 := Ybaz.underlying132
  a218 := Ybaz.isAgg132
  z218 := Ybaz.sizeOf132
  v218 := Ybaz.zeroValue132
  t222 := Ybaz.underlying136
  a222 := Ybaz.isAgg136
  z222 := Ybaz.sizeOf136
  v222 := Ybaz.zeroValue136
  t228 := Ybaz.underlying153
  a228 := Ybaz.isAgg153
  z228 := Ybaz.sizeOf153
  v228 := Ybaz.zeroValue153
  t229 := Ybaz.underlying154
  a229 := Ybaz.isAgg154
  z229 := Ybaz.sizeOf154
  v229 := Ybaz.zeroValue154 }
open Go.Sort Go.RowKit in
theorem Ybaz.slices_Sort_string (blk off cap : Nat) (ss : List (List UInt8)) (w : World) (hH : Holds encStr w blk off ss.toArray) (hblk : blk < w.heap.size) (hsz : ss.length < 4611686018427387904) :
    Calls Ybaz.prog 9 #[.slice (some ⟨blk, off, none⟩) ss.length cap] w fun e w' =>
      e = .returned (.tuple #[]) ∧ ∃ n os, w' = grow (putRow encStr (Sort.ahead w n) blk off (ss.mergeSort fun x y => decide (x ≤ y)).toArray) os := Any.slices_Sort_string Ybaz.lays190 blk off cap ss w hH hblk hsz
end Go.Proofs
