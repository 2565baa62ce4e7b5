import Derived.Test.YbulkcwasRows
import Derived.Test.YbulkcwasHeap
import Derived.WalkKit
import Derived.WalkSpells
import Derived.WalkLawsBesides
import Derived.Below
import Derived.OpenShut
set_option linter.unusedSimpArgs false
set_option linter.unusedVariables false
namespace Go.Proofs.Ybulkcwas
open Go.RowKit

/-- An int8 as a float64's bits. -/
def fl (x : Int) : Nat := FloatKind.f64.nearest x
theorem order_all : ((List.range 256).all fun i => (List.range 256).all fun j => FloatKind.f64.format.order (fl ((i : Int) - 128)) (fl ((j : Int) - 128)) == some (compare ((i : Int) - 128) ((j : Int) - 128))) = true := by kernel_rfl

theorem order_fl (x y : Int) (h1 : -128 ≤ x) (h2 : x < 128) (h3 : -128 ≤ y) (h4 : y < 128) : FloatKind.f64.format.order (fl x) (fl y) = some (compare x y) := by
  have h := order_all
  rw [List.all_eq_true] at h
  have h5 := h (x + 128).toNat (List.mem_range.2 (by omega))
  rw [List.all_eq_true] at h5
  have h6 := h5 (y + 128).toNat (List.mem_range.2 (by omega))
  rw [show (((x + 128).toNat : Nat) : Int) - 128 = x by omega, show (((y + 128).toNat : Nat) : Int) - 128 = y by omega] at h6
  exact beq_iff_eq.1 h6
theorem order_lt (x y : Int) (h1 : -128 ≤ x) (h4 : y < 128) (h : x < y) : FloatKind.f64.format.order (fl x) (fl y) = some .lt := by
  rw [order_fl x y h1 (by omega) (by omega) h4, Int.compare_eq_lt.2 h]
theorem order_gt (x y : Int) (h1 : x < 128) (h4 : -128 ≤ y) (h : y < x) : FloatKind.f64.format.order (fl x) (fl y) = some .gt := by
  rw [order_fl x y (by omega) h1 h4 (by omega), Int.compare_eq_gt.2 h]
theorem order_eq (x : Int) (h1 : -128 ≤ x) (h2 : x < 128) : FloatKind.f64.format.order (fl x) (fl x) = some .eq := by
  rw [order_fl x x h1 h2 h1 h2, Int.compare_eq_eq.2 rfl]
end Go.Proofs.Ybulkcwas
