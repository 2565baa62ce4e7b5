/- Where a code is kept; a grant is added. -/
import Derived.Test.YbulkcvxmGreatFmtOr
set_option linter.unusedSimpArgs false
set_option linter.unusedVariables false
namespace Go.Proofs.YbulkcvxmGreatFmt
open Go.RowKit

def wildB (k : Nat) : Bool := decide (2 ≤ k)
set_option maxRecDepth 100000 in
set_option maxHeartbeats 1000000 in
theorem hasSuffix_any (k : Nat) (w : World) (hk : k < 4) :
    Calls Ybaz.prog 85 #[.string (codeB k), .string ⟨#[42]⟩] w fun r w' => r = .returned (.bool (wildB k)) ∧ w = w' := by
  rcases (by omega : k = 0 ∨ k = 1 ∨ k = 2 ∨ k = 3) with rfl | rfl | rfl | rfl
  all_goals
    simp only [codeB]
    go_enter Ybaz.func85, Ybaz.ntmps85
    go_wp2
    go_ret
    exact ⟨congrArg (fun b => Ending.returned (Value.bool b)) (by decide +kernel), rfl⟩

set_option maxRecDepth 100000 in
set_option maxHeartbeats 1000000 in
theorem cutIn_any (k : Nat) (w : World) (hk : k < 4) :
    Calls Ybaz.prog 69 #[.string (codeB k), .string ⟨#[42]⟩] w fun r w' => r = .returned (.tuple #[.string (keyB k), .bool (wildB k)]) ∧ w = w' := by
  rcases (by omega : k = 0 ∨ k = 1 ∨ k = 2 ∨ k = 3) with rfl | rfl | rfl | rfl
  all_goals
    go_enter Ybaz.func69, Ybaz.ntmps69
    go_wp2_with fail
    refine (hasSuffix_any _ _ (by omega)).mono ?_
    rintro r w1 ⟨rfl, rfl⟩
    simp only [wildB, codeB]
    go_wp2
    go_ret2
    exact ⟨by kernel_rfl, rfl⟩
set_option maxRecDepth 100000 in
set_option maxHeartbeats 1000000 in
theorem cut_any (k : Nat) (w : World) (hk : k < 4) :
    Calls Ybaz.prog 51 #[.string (codeB k), .string ⟨#[42]⟩] w fun r w' => r = .returned (.tuple #[.string (keyB k), .bool (wildB k)]) ∧ w = w' := by
  go_enter Ybaz.func51, Ybaz.ntmps51
  go_wp2_with fail
  refine (cutIn_any k _ hk).mono ?_
  rintro r w1 ⟨rfl, rfl⟩
  go_wp2
  go_ret2
  exact ⟨rfl, rfl⟩
set_option maxRecDepth 100000 in
set_option maxHeartbeats 1000000 in
theorem at_any (k e p : Nat) (w : World) (hk : k < 4) :
    Calls Ybaz.prog 28 #[.agg #[.map (some e), .map (some p)], .string (codeB k)] w fun r w' => r = .returned (.tuple #[.map (some (if wildB k then p else e)), .string (keyB k)]) ∧ Since w w' := by
  have hS := Since.new w (.cells #[.map (some e), .map (some p)] 96)
  have hB := newBlock w (.cells #[.map (some e), .map (some p)] 96)
  have HS := Hid.mk hS
  clear hS
  rcases (by omega : k = 0 ∨ k = 1 ∨ k = 2 ∨ k = 3) with rfl | rfl | rfl | rfl
  all_goals
    go_enter Ybaz.func28, Ybaz.ntmps28
    go_wp2_with fail
    refine (cut_any _ _ (by omega)).mono ?_
    rintro r w1 ⟨rfl, rfl⟩
    have HS' := HS
    generalize hW : w.alloc (.cells #[.map (some e), .map (some p)] 96) = W at *
    have x0 : W.cell? ⟨w.heap.size, 0, none⟩ = some (.map (some e)) := cellOf hB
    have x1 : W.cell? ⟨w.heap.size, 1, none⟩ = some (.map (some p)) := cellOf hB
    have lx := sizeOf_block hB
    simp only [wildB, codeB, keyB]
    go_wp2
    go_ret2
    exact ⟨rfl, HS'.out⟩
set_option maxRecDepth 100000 in
set_option maxHeartbeats 1000000 in
theorem newPermSet_any (gb : Nat) (w : World) :
    Calls Ybaz.prog 15 #[] w fun r w' => ∃ e p, r = .returned (.agg #[.map (some e), .map (some p)]) ∧ w.heap.size ≤ e ∧ w.heap.size ≤ p ∧ e ≠ p ∧ PM w' e gb (fun _ => 0) ∧ PM w' p gb (fun _ => 0) ∧ Since w w' := by
  have hS := Since.new w (.cells #[.map none, .map none] 52)
  have hB := newBlock w (.cells #[.map none, .map none] 52)
  go_enter Ybaz.func15, Ybaz.ntmps15
  go_wp2_with fail
  refine (newIndex_any gb _).mono ?_
  rintro r w1 ⟨e, p, rfl, he, hp, hne, h1, h2, hS1⟩
  have hB1 := hS1.keep hB
  have c0 : w1.cell? ⟨w.heap.size, 0, none⟩ = some (.map none) := cellOf hB1
  have c1 : w1.cell? ⟨w.heap.size, 1, none⟩ = some (.map none) := cellOf hB1
  have z0 : w1.frozen? ⟨w.heap.size, 0, none⟩ = false := frozenOf hB1
  have z1 : w1.frozen? ⟨w.heap.size, 1, none⟩ = false := frozenOf hB1
  have lx := sizeOf_block hB1
  have zz : (w.alloc (.cells #[.map none, .map none] 52)).heap.size = w.heap.size + 1 := by simp
  rw [zz] at he hp
  have hS2 : Since w ((w1.setCell ⟨w.heap.size, 0, none⟩ (.map (some e))).setCell ⟨w.heap.size, 1, none⟩ (.map (some p))) := ((hS1.then hS).set (Nat.le_refl _)).set (Nat.le_refl _)
  have kk : Kx [52] [] w1 ((w1.setCell ⟨w.heap.size, 0, none⟩ (.map (some e))).setCell ⟨w.heap.size, 1, none⟩ (.map (some p))) := (Kx.set hB1 (by simp)).trans (Kx.set (setOf hB1) (by simp))
  have k1 := h1.kx kk (by simp) (by simp)
  have k2 := h2.kx kk (by simp) (by simp)
  have hB3 := setOf (o := 1) (v := .map (some p)) (setOf (o := 0) (v := .map (some e)) hB1)
  go_wp2
  generalize hW : World.setCell (World.setCell w1 _ _) _ _ = W at hS2 k1 k2 hB3 ⊢
  have x0 : W.cell? ⟨w.heap.size, 0, none⟩ = some (.map (some e)) := cellOf hB3
  have x1 : W.cell? ⟨w.heap.size, 1, none⟩ = some (.map (some p)) := cellOf hB3
  have lx := sizeOf_block hB3
  exact bodyPost_ret (v := .agg #[.map (some e), .map (some p)]) (by simp [results, Ybaz.results15, go_sem, x0, x1, lx]) rfl ⟨e, p, rfl, by omega, by omega, hne, k1, k2, hS2⟩
end Go.Proofs.YbulkcvxmGreatFmt
