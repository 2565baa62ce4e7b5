/- The permission set's small functions: codes, rules, their union. -/
import Derived.Test.YbulkcvxmGreatFmtPerm
import Derived.Test.YbulkcvxmGreatFmtReach
import Derived.LaidEqlPtr
set_option linter.unusedSimpArgs false
set_option linter.unusedVariables false
namespace Go.Proofs.YbulkcvxmGreatFmt
open Go.RowKit

/-- The four codes. -/
def codeB : Nat → ByteArray
  | 0 => ⟨#[97]⟩
  | 1 => ⟨#[98, 58, 99]⟩
  | 2 => ⟨#[100, 58, 42]⟩
  | _ => ⟨#[42]⟩

set_option maxRecDepth 100000 in
set_option maxHeartbeats 1000000 in
theorem code_any (k : Nat) (w : World) (hk : k < 4) :
    Calls Ybaz.prog 10 #[.int .i64 k] w fun r w' => r = .returned (.string (codeB k)) ∧ w = w' := by
  rcases (by omega : k = 0 ∨ k = 1 ∨ k = 2 ∨ k = 3) with rfl | rfl | rfl | rfl
  all_goals
    go_enter Ybaz.func10, Ybaz.ntmps10
    go_wp2
    go_ret
    exact ⟨rfl, rfl⟩

set_option maxRecDepth 100000 in
set_option maxHeartbeats 1000000 in
theorem newIndex_any (gb : Nat) (w : World) :
    Calls Ybaz.prog 27 #[] w fun r w' => ∃ e p, r = .returned (.agg #[.map (some e), .map (some p)]) ∧ w.heap.size ≤ e ∧ w.heap.size ≤ p ∧ e ≠ p ∧ PM w' e gb (fun _ => 0) ∧ PM w' p gb (fun _ => 0) ∧ Since w w' := by
  have hmm := @run_makeMap Ybaz.prog
  have hA := newBlock w (.cells #[.map (some (w.heap.size + 1)), .map (some (w.heap.size + 1 + 1))] 96)
  have s1 := Since.new w (.cells #[.map (some (w.heap.size + 1)), .map (some (w.heap.size + 1 + 1))] 96)
  have z1 : (w.alloc (.cells #[.map (some (w.heap.size + 1)), .map (some (w.heap.size + 1 + 1))] 96)).heap.size = w.heap.size + 1 := by simp
  have m1 := PM.made (w.alloc (.cells #[.map (some (w.heap.size + 1)), .map (some (w.heap.size + 1 + 1))] 96)) gb
  have s2 := Since.new (w.alloc (.cells #[.map (some (w.heap.size + 1)), .map (some (w.heap.size + 1 + 1))] 96)) (.map #[] 0)
  have z2 : ((w.alloc (.cells #[.map (some (w.heap.size + 1)), .map (some (w.heap.size + 1 + 1))] 96)).alloc (.map #[] 0)).heap.size = w.heap.size + 1 + 1 := by simp
  have m2 := PM.made ((w.alloc (.cells #[.map (some (w.heap.size + 1)), .map (some (w.heap.size + 1 + 1))] 96)).alloc (.map #[] 0)) gb
  have s3 := Since.new ((w.alloc (.cells #[.map (some (w.heap.size + 1)), .map (some (w.heap.size + 1 + 1))] 96)).alloc (.map #[] 0)) (.map #[] 0)
  rw [z1] at m1
  rw [z2] at m2
  go_enter Ybaz.func27, Ybaz.ntmps27
  go_wp2
  have hA3 := s3.keep (s2.keep hA)
  have m1' := m1.since s3
  have hS := s3.then (s2.then s1)
  generalize hW : World.alloc (World.alloc _ _) (.map #[] 0) = W at hA3 m1' m2 hS ⊢
  have x0 : W.cell? ⟨w.heap.size, 0, none⟩ = some (.map (some (w.heap.size + 1))) := cellOf hA3
  have x1 : W.cell? ⟨w.heap.size, 1, none⟩ = some (.map (some (w.heap.size + 1 + 1))) := cellOf hA3
  have lx := sizeOf_block hA3
  exact bodyPost_ret (v := .agg #[.map (some (w.heap.size + 1)), .map (some (w.heap.size + 1 + 1))]) (by simp [results, Ybaz.results27, go_sem, x0, x1, lx]) rfl ⟨_, _, rfl, by omega, by omega, by omega, m1', m2, hS⟩

/-! ### a rule of one grant -/
set_option maxRecDepth 100000 in
set_option maxHeartbeats 1000000 in
theorem ruleOf_nil (gb : Nat) (w : World) :
    Calls Ybaz.prog 30 #[.pointer none] w fun r w' => ∃ v, r = .returned v ∧ RuleV w' gb 2 v ∧ Since w w' := by
  have hS : Since w (w.alloc (.cells #[.bool true, .slice none 0 0] 65)) := Since.new _ _
  have hB := newBlock w (.cells #[.bool true, .slice none 0 0] 65)
  go_enter Ybaz.func30, Ybaz.ntmps30
  go_wp2
  generalize hW : w.alloc (.cells #[.bool true, .slice none 0 0] 65) = W at *
  have x0 : W.cell? ⟨w.heap.size, 0, none⟩ = some (.bool true) := cellOf hB
  have x1 : W.cell? ⟨w.heap.size, 1, none⟩ = some (.slice none 0 0) := cellOf hB
  have lx := sizeOf_block hB
  exact bodyPost_ret (v := .agg #[.bool true, .slice none 0 0]) (by simp [results, Ybaz.results30, go_sem, x0, x1, lx]) rfl ⟨_, rfl, ⟨.inl ⟨rfl, rfl⟩⟩, hS⟩
set_option maxRecDepth 100000 in
set_option maxHeartbeats 1000000 in
theorem ruleOf_guard (gb : Nat) (w : World) :
    Calls Ybaz.prog 30 #[.pointer (some ⟨gb, 0, none⟩)] w fun r w' => ∃ v, r = .returned v ∧ RuleV w' gb 1 v ∧ Since w w' := by
  have hB0 := newBlock w (.cells #[.bool false, .slice (some ⟨w.heap.size + 1, 0, none⟩) 1 1] 65)
  have s1 := Since.new w (.cells #[.bool false, .slice (some ⟨w.heap.size + 1, 0, none⟩) 1 1] 65)
  have z1 : (w.alloc (.cells #[.bool false, .slice (some ⟨w.heap.size + 1, 0, none⟩) 1 1] 65)).heap.size = w.heap.size + 1 := by simp
  have hB1 := newBlock (w.alloc (.cells #[.bool false, .slice (some ⟨w.heap.size + 1, 0, none⟩) 1 1] 65)) (.cells #[.pointer (some ⟨gb, 0, none⟩)] 27)
  have s2 := Since.new (w.alloc (.cells #[.bool false, .slice (some ⟨w.heap.size + 1, 0, none⟩) 1 1] 65)) (.cells #[.pointer (some ⟨gb, 0, none⟩)] 27)
  rw [z1] at hB1
  go_enter Ybaz.func30, Ybaz.ntmps30
  go_wp2
  have hB2 := s2.keep hB0
  have hS := s2.then s1
  generalize hW : World.alloc (World.alloc w _) _ = W at hB1 hB2 hS ⊢
  have x0 : W.cell? ⟨w.heap.size, 0, none⟩ = some (.bool false) := cellOf hB2
  have x1 : W.cell? ⟨w.heap.size, 1, none⟩ = some (.slice (some ⟨w.heap.size + 1, 0, none⟩) 1 1) := cellOf hB2
  have lx := sizeOf_block hB2
  exact bodyPost_ret (v := .agg #[.bool false, .slice (some ⟨w.heap.size + 1, 0, none⟩) 1 1]) (by simp [results, Ybaz.results30, go_sem, x0, x1, lx]) rfl ⟨_, rfl, ⟨.inr (.inr ⟨rfl, _, 1, _, rfl, Nat.le_refl _, by unfold maxLen; omega, hB1, rfl⟩)⟩, hS⟩
end Go.Proofs.YbulkcvxmGreatFmt
