/- Is there a cycle (7). -/
import Derived.Test.YbulkcvxmFmtDfs
set_option linter.unusedSimpArgs false
set_option linter.unusedVariables false
namespace Go.Proofs.YbulkcvxmFmt
open Go.RowKit

theorem Ybaf.info5 : (Ybaf.prog.info? 5).map (fun i => (i.zero, i.size, i.bytes)) = some (some (.int .u8 0), 1, 1) := by kernel_rfl
theorem Since.but {w0 w w' : World} {b : Nat} (h : Since w0 w) (hb : But b w w') (hl : w0.heap.size ≤ b) : Since w0 w' :=
  ⟨hb.os.trans h.out.os, hb.tape.trans h.out.tape, hb.output.trans h.out.output, Nat.le_trans h.size hb.size, fun i hi => (hb.block i (Nat.lt_of_lt_of_le hi h.size) (by omega)).trans (h.out.block i hi)⟩
theorem top_snoc (E : Nat → List Nat) (n j : Nat) : allOf (vis E (n + 1)) (fun _ => 0) (List.range (j + 1)) = (allOf (vis E (n + 1)) (fun _ => 0) (List.range j)).bind (fun c => vis E (n + 1) c j) := by
  rw [List.range_succ, allOf_snoc]
theorem top_none {E : Nat → List Nat} {n j : Nat} (hj : j ≤ n) (h : allOf (vis E (n + 1)) (fun _ => 0) (List.range j) = none) : top E n = none := by
  unfold top
  refine allOf_none (j := j) ?_
  rw [List.take_range, Nat.min_eq_left hj]
  exact h

set_option maxRecDepth 100000 in
set_option maxHeartbeats 2000000 in
theorem cyclic_any (E : Nat → List Nat) (n eb : Nat) (w : World) (hE : Ed w eb n E) :
    Calls Ybaf.prog 7 #[.slice (some ⟨eb, 0, none⟩) n n] w fun r w' => r = .returned (.bool (top E n).isNone) ∧ Since w w' := by
  obtain ⟨i5, hi5, hz5, hs5, hy5⟩ := info_parts Ybaf.info5
  have n3 := hE.n3
  go_enter Ybaf.func7, Ybaf.ntmps7
  go_wp2_with (first | (at_make; refine mkN _ rfl _ _ 24 rfl 5 i5 _ Ybaf.underlying24 hi5 hz5 n rfl rfl (by rw [hy5]; omega) (by omega) ?_; rw [hs5]))
  have hcc : (Value.int .u8 0).cells = #[Value.int .u8 0] := rfl
  have hC0 := Cells.made w 5 n (.int .u8 0) rfl
  have hS0 := Since.new w (.cells (madeCells #[Value.int .u8 0] n) 5)
  rw [hcc] at hC0
  obtain ⟨cb, hcb⟩ : ∃ cb, cb = w.heap.size := ⟨_, rfl⟩
  have hcl : w.heap.size ≤ cb := by omega
  rw [← hcb] at hC0 ⊢
  generalize hW : w.alloc (.cells (madeCells #[Value.int .u8 0] n) 5) = W at *
  clear hW hcb
  go_loopw [4] (fun iv wr => ∃ (j : Nat) (c : Nat → Nat), j ≤ n ∧ iv = .int .i64 j ∧ Since w wr ∧ Cells wr cb 5 n (colF c) ∧ allOf (vis E (n + 1)) (fun _ => 0) (List.range j) = some c) (fun iv _ => n - (intOf iv).toNat)
  case atStart => exact ⟨0, fun _ => 0, Nat.zero_le _, rfl, hS0, hC0, rfl⟩
  case round =>
    clear hS0 hC0
    obtain ⟨j, c, hj, rfl, hS, hC, hal⟩ := hrel
    obtain ⟨hno, hdone⟩ := top_done hj hal
    have HAL := Hid.mk hal
    have HNO := Hid.mk hno
    clear hal hno hdone
    by_cases hlt : j < n
    · have k0 := hC.cell hlt
      have lc := hC.lt
      have hle : ∀ v, c v ≤ 2 := fun v => (allOf_kept (fun c v c' h => (vis_kept E _ c v c' h).1) HAL.out).le v (by simp)
      have hfr : fresh c n < n + 1 := Nat.lt_succ_of_le (fresh_le c n)
      have hnx : allOf (vis E (n + 1)) (fun _ => 0) (List.range (j + 1)) = vis E (n + 1) c j := by rw [top_snoc, HAL.out]; rfl
      have HN := Hid.mk hnx
      clear hnx
      rcases (by have := hle j; have := HNO.out j; omega : c j = 0 ∨ c j = 2) with hcv | hcv
      · simp only [colF, hcv] at k0
        have HCV := Hid.mk hcv
        have hEr := hE.since hS
        clear hcv
        go_wp2_with fail
        refine (dfs_any E n eb cb n n (n + 1) c j wr hEr hC hlt HCV.out hle hfr).mono ?_
        rintro r1 w1 ⟨hB1, ⟨rfl, hn1⟩ | ⟨c2, rfl, hs2, hC2⟩⟩
        · have hS1 := hS.but hB1 hcl
          have ht : top E n = none := top_none (j := j + 1) (by omega) (by rw [HN.out]; exact hn1)
          have HT := Hid.mk ht
          clear hn1 ht
          go_wp2
          go_ret
          exact ⟨by rw [HT.out]; rfl, hS1⟩
        · have hS1 := hS.but hB1 hcl
          clear hC hB1 hS
          go_wp2
          go_roundw
          case rel => exact ⟨j + 1, c2, by omega, by go_num, hS1, hC2, by rw [HN.out]; exact hs2⟩
          case measure => simp [intOf]; omega
      · simp only [colF, hcv] at k0
        have hn1 : allOf (vis E (n + 1)) (fun _ => 0) (List.range (j + 1)) = some c := by
          rw [HN.out]
          show (if c j = 2 then _ else if c j = 1 then _ else _) = _
          rw [hcv]; rfl
        have HN1 := Hid.mk hn1
        clear hcv hn1
        go_wp2
        go_roundw
        case rel => exact ⟨j + 1, c, by omega, by go_num, hS, hC, HN1.out⟩
        case measure => simp [intOf]; omega
    · have hjn : j = n := by omega
      have ht : top E n = some c := by unfold top; rw [← hjn]; subst hjn; exact HAL.out
      have HT := Hid.mk ht
      clear ht
      go_wp2
      go_ret
      exact ⟨by rw [HT.out]; rfl, hS⟩
end Go.Proofs.YbulkcvxmFmt
