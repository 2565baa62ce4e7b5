/- The small functions on the road. -/
import Derived.Test.YbulkcvzqFmtSt
import Derived.LoopN
import Derived.LaidEqlPtr
set_option linter.unusedSimpArgs false
set_option linter.unusedVariables false
namespace Go.Proofs.YbulkcvzqFmt
open Go.RowKit

theorem Ybaf.info52 : (Ybaf.prog.info? 52).map (fun i => (i.size)) = some 8 := by kernel_rfl
theorem equal43_same (d : Nat) (w : World) (a : Addr) : (Op.equalIn (d + 1) 43 (.pointer (some a)) (.pointer (some a))).run Ybaf.prog w = .ok true w := by
  have h52 := Ybaf.info52
  cases hi : Ybaf.prog.info? 52 with
  | none => rw [hi] at h52; cases h52
  | some j => simp [Op.equalIn, run_underlying Ybaf.underlying43, sizeOf, typeInfo, hi, run_sameAddr_same]
theorem equal43_nil (d : Nat) (w : World) (a : Addr) : (Op.equalIn (d + 1) 43 (.pointer none) (.pointer (some a))).run Ybaf.prog w = .ok false w := by
  simp [Op.equalIn, run_underlying Ybaf.underlying43]
@[go_sem] theorem run_neq43_same (w : World) (a : Addr) : (binOp .neq 43 (.pointer (some a)) (.pointer (some a))).run Ybaf.prog w = .ok (.bool false) w := by
  simp only [binOp]
  simp [Op.equal, Op.maxDepth, equal43_same 9999]
@[go_sem] theorem run_neq43_nil (w : World) (a : Addr) : (binOp .neq 43 (.pointer none) (.pointer (some a))).run Ybaf.prog w = .ok (.bool true) w := by
  simp only [binOp]
  simp [Op.equal, Op.maxDepth, equal43_nil 9999]

set_option maxRecDepth 100000 in
set_option maxHeartbeats 1000000 in
theorem indexFunc_nil (fn : Value) (w : World) :
    Calls Ybaf.prog 38 #[.slice none 0 0, fn] w fun r w' => r = .returned (.int .i64 (-1)) ∧ w = w' := by
  go_enter Ybaf.func38, Ybaf.ntmps38
  go_wp2
  refine wp_loop_rounds 1 ?_
  rw [rounds_succ]
  go_wp2
  go_ret
  exact ⟨rfl, rfl⟩

set_option maxRecDepth 100000 in
set_option maxHeartbeats 1000000 in
theorem deleteFunc_nil (fn : Value) (w : World) :
    Calls Ybaf.prog 25 #[.slice none 0 0, fn] w fun r w' => r = .returned (.slice none 0 0) ∧ w = w' := by
  go_enter Ybaf.func25, Ybaf.ntmps25
  go_wp2_with fail
  refine (indexFunc_nil fn w).mono ?_
  rintro r w1 ⟨rfl, rfl⟩
  go_wp2
  go_ret
  exact ⟨rfl, rfl⟩

set_option maxRecDepth 100000 in
set_option maxHeartbeats 1000000 in
theorem awaited_nil (sb : Nat) (a : Int) (b : Bool) (w : World) (h : w.cell? ⟨sb, 11, none⟩ = some (.slice none 0 0)) :
    Calls Ybaf.prog 39 #[.pointer (some ⟨sb, 0, none⟩), .agg #[.int .i64 a, .bool b], .pointer none] w fun r w' => r = .returned (.bool false) ∧ Since w w' := by
  have l1 := sizeOf_cell h
  simp only at l1
  have hS : Since w ((w.alloc (.cells #[.pointer (some ⟨sb, 0, none⟩)] 25)).alloc (.cells #[.int .i64 a, .bool b] 58)) := Since.alloc (Since.new _ _)
  go_enter Ybaf.func39, Ybaf.ntmps39
  go_wp2
  refine wp_loop_rounds 1 ?_
  rw [rounds_succ]
  go_wp2
  go_ret
  exact ⟨rfl, hS⟩

set_option maxRecDepth 100000 in
set_option maxHeartbeats 1000000 in
theorem freed_nil (sb : Nat) (a : Int) (b : Bool) (w : World) (h : w.cell? ⟨sb, 11, none⟩ = some (.slice none 0 0)) :
    Calls Ybaf.prog 27 #[.pointer (some ⟨sb, 0, none⟩), .agg #[.int .i64 a, .bool b]] w fun r w' => r = .returned (.tuple #[]) ∧ Since w w' := by
  have hS : Since w (w.alloc (.cells #[.int .i64 a, .bool b] 58)) := Since.new _ _
  have h' := hS.cell h
  go_enter Ybaf.func27, Ybaf.ntmps27
  go_wp2_with fail
  refine (awaited_nil sb a b _ h').mono ?_
  rintro r w1 ⟨rfl, hS1⟩
  have hSf := hS1.then hS
  clear hS hS1 h h'
  go_wp2
  go_end0
  exact ⟨rfl, hSf⟩

set_option maxRecDepth 100000 in
set_option maxHeartbeats 1000000 in
theorem unrecord_not (sb pb : Nat) (w : World) (h : w.cell? ⟨pb, 5, none⟩ = some (.bool false)) :
    Calls Ybaf.prog 19 #[.pointer (some ⟨sb, 0, none⟩), .pointer (some ⟨pb, 0, none⟩)] w fun r w' => r = .returned (.tuple #[]) ∧ w = w' := by
  have l1 := sizeOf_cell h
  simp only at l1
  go_enter Ybaf.func19, Ybaf.ntmps19
  go_wp2
  (try simp only [Exit.inBlock, Exit.then]); refine bodyPost_ret (results_none rfl _ _ _) rfl ?_
  exact ⟨rfl, rfl⟩

set_option maxRecDepth 100000 in
set_option maxHeartbeats 1000000 in
theorem unchain_not (sb pb : Nat) (w : World) (h : w.cell? ⟨pb, 6, none⟩ = some (.bool false)) :
    Calls Ybaf.prog 11 #[.pointer (some ⟨sb, 0, none⟩), .pointer (some ⟨pb, 0, none⟩)] w fun r w' => r = .returned (.tuple #[]) ∧ w = w' := by
  have l1 := sizeOf_cell h
  simp only at l1
  go_enter Ybaf.func11, Ybaf.ntmps11
  go_wp2
  (try simp only [Exit.inBlock, Exit.then]); refine bodyPost_ret (results_none rfl _ _ _) rfl ?_
  exact ⟨rfl, rfl⟩
end Go.Proofs.YbulkcvzqFmt
