/- The permission set's small functions. -/
import Derived.Test.YbulkcvxmFmtPerm
set_option linter.unusedSimpArgs false
set_option linter.unusedVariables false
namespace Go.Proofs.YbulkcvxmFmt
open Go.RowKit

/-- The four codes. -/
def codeB : Nat → ByteArray
  | 0 => ⟨#[97]⟩
  | 1 => ⟨#[98, 58, 99]⟩
  | 2 => ⟨#[100, 58, 42]⟩
  | _ => ⟨#[42]⟩

set_option maxRecDepth 100000 in
set_option maxHeartbeats 1000000 in
theorem code_any (k : Nat) (w : World) (hk : k < 4) :
    Calls Ybaf.prog 10 #[.int .i64 k] w fun r w' => r = .returned (.string (codeB k)) ∧ w = w' := by
  rcases (by omega : k = 0 ∨ k = 1 ∨ k = 2 ∨ k = 3) with rfl | rfl | rfl | rfl
  all_goals
    go_enter Ybaf.func10, Ybaf.ntmps10
    go_wp2
    go_ret
    exact ⟨rfl, rfl⟩

set_option maxRecDepth 100000 in
set_option maxHeartbeats 1000000 in
theorem newIndex_any (w : World) :
    Calls Ybaf.prog 26 #[] w fun r w' => ∃ e p, r = .returned (.agg #[.map (some e), .map (some p)]) ∧ w.heap.size ≤ e ∧ w.heap.size ≤ p ∧ e ≠ p ∧ PM w' e ∧ PM w' p ∧ Since w w' := by
  have hmm := @run_makeMap Ybaf.prog
  have hA := newBlock w (.cells #[.map (some (w.heap.size + 1)), .map (some (w.heap.size + 1 + 1))] 80)
  have s1 := Since.new w (.cells #[.map (some (w.heap.size + 1)), .map (some (w.heap.size + 1 + 1))] 80)
  have z1 : (w.alloc (.cells #[.map (some (w.heap.size + 1)), .map (some (w.heap.size + 1 + 1))] 80)).heap.size = w.heap.size + 1 := by simp
  have m1 := PM.made (w.alloc (.cells #[.map (some (w.heap.size + 1)), .map (some (w.heap.size + 1 + 1))] 80))
  have s2 := Since.new (w.alloc (.cells #[.map (some (w.heap.size + 1)), .map (some (w.heap.size + 1 + 1))] 80)) (.map #[] 0)
  have z2 : ((w.alloc (.cells #[.map (some (w.heap.size + 1)), .map (some (w.heap.size + 1 + 1))] 80)).alloc (.map #[] 0)).heap.size = w.heap.size + 1 + 1 := by simp
  have m2 := PM.made ((w.alloc (.cells #[.map (some (w.heap.size + 1)), .map (some (w.heap.size + 1 + 1))] 80)).alloc (.map #[] 0))
  have s3 := Since.new ((w.alloc (.cells #[.map (some (w.heap.size + 1)), .map (some (w.heap.size + 1 + 1))] 80)).alloc (.map #[] 0)) (.map #[] 0)
  rw [z1] at m1
  rw [z2] at m2
  go_enter Ybaf.func26, Ybaf.ntmps26
  go_wp2
  have hA3 := s3.keep (s2.keep hA)
  have m1' := m1.since s3
  have hS := s3.then (s2.then s1)
  generalize hW : World.alloc (World.alloc _ _) (.map #[] 0) = W at hA3 m1' m2 hS ⊢
  have x0 : W.cell? ⟨w.heap.size, 0, none⟩ = some (.map (some (w.heap.size + 1))) := cellOf hA3
  have x1 : W.cell? ⟨w.heap.size, 1, none⟩ = some (.map (some (w.heap.size + 1 + 1))) := cellOf hA3
  have lx := sizeOf_block hA3
  exact bodyPost_ret (v := .agg #[.map (some (w.heap.size + 1)), .map (some (w.heap.size + 1 + 1))]) (by simp [results, Ybaf.results26, go_sem, x0, x1, lx]) rfl ⟨_, _, rfl, by omega, by omega, by omega, m1', m2, hS⟩

set_option maxRecDepth 100000 in
set_option maxHeartbeats 1000000 in
theorem ruleOf_nil (w : World) :
    Calls Ybaf.prog 29 #[.pointer none] w fun r w' => r = .returned (.agg #[.bool true, .slice none 0 0]) ∧ Since w w' := by
  have hS : Since w (w.alloc (.cells #[.bool true, .slice none 0 0] 84)) := Since.new _ _
  have hB := newBlock w (.cells #[.bool true, .slice none 0 0] 84)
  go_enter Ybaf.func29, Ybaf.ntmps29
  go_wp2
  generalize hW : w.alloc (.cells #[.bool true, .slice none 0 0] 84) = W at *
  have x0 : W.cell? ⟨w.heap.size, 0, none⟩ = some (.bool true) := cellOf hB
  have x1 : W.cell? ⟨w.heap.size, 1, none⟩ = some (.slice none 0 0) := cellOf hB
  have lx := sizeOf_block hB
  exact bodyPost_ret (v := .agg #[.bool true, .slice none 0 0]) (by simp [results, Ybaf.results29, go_sem, x0, x1, lx]) rfl ⟨rfl, hS⟩

set_option maxRecDepth 100000 in
set_option maxHeartbeats 1000000 in
theorem or_always (x : Bool) (w : World) :
    Calls Ybaf.prog 28 #[.agg #[.bool x, .slice none 0 0], .agg #[.bool true, .slice none 0 0]] w fun r w' => r = .returned (.agg #[.bool true, .slice none 0 0]) ∧ Since w w' := by
  have hS : ∀ y, Since w (((w.alloc (.cells #[.bool y, .slice none 0 0] 84)).alloc (.cells #[.bool true, .slice none 0 0] 84)).alloc (.cells #[.bool true, .slice none 0 0] 84)) := fun y => (Since.new _ _).then ((Since.new _ _).then (Since.new w _))
  have hB : ∀ y, (((w.alloc (.cells #[.bool y, .slice none 0 0] 84)).alloc (.cells #[.bool true, .slice none 0 0] 84)).alloc (.cells #[.bool true, .slice none 0 0] 84)).heap[w.heap.size + 1 + 1]? = some (.cells #[.bool true, .slice none 0 0] 84) := fun y => by
    have := newBlock ((w.alloc (.cells #[.bool y, .slice none 0 0] 84)).alloc (.cells #[.bool true, .slice none 0 0] 84)) (.cells #[.bool true, .slice none 0 0] 84)
    rw [show ((w.alloc (.cells #[.bool y, .slice none 0 0] 84)).alloc (.cells #[.bool true, .slice none 0 0] 84)).heap.size = w.heap.size + 1 + 1 by simp] at this
    exact this
  cases x
  all_goals
    go_enter Ybaf.func28, Ybaf.ntmps28
    go_wp2
    first
    | (have x0 := cellOf (o := 0) (hB true); have x1 := cellOf (o := 1) (hB true); have lx := sizeOf_block (hB true); simp only [List.getElem?_toArray] at x0 x1; exact bodyPost_ret (v := .agg #[.bool true, .slice none 0 0]) (by simp [results, Ybaf.results28, go_sem, x0, x1, lx]) rfl ⟨rfl, hS true⟩)
    | (have x0 := cellOf (o := 0) (hB false); have x1 := cellOf (o := 1) (hB false); have lx := sizeOf_block (hB false); simp only [List.getElem?_toArray] at x0 x1; exact bodyPost_ret (v := .agg #[.bool true, .slice none 0 0]) (by simp [results, Ybaf.results28, go_sem, x0, x1, lx]) rfl ⟨rfl, hS false⟩)
end Go.Proofs.YbulkcvxmFmt
