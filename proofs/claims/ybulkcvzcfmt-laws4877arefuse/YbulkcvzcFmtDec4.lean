import Derived.Test.YbulkcvzcFmtDec3
set_option linter.unusedSimpArgs false
set_option linter.unusedVariables false
namespace Go.Proofs.YbulkcvzcFmt
open Go.RowKit

set_option maxRecDepth 100000 in
set_option maxHeartbeats 1000000 in
/-- components.next where none is left, or where reading has failed. -/
theorem cnext_no (cb db gb N cap : Nat) (er : Option Addr) (pos fin : Int) (what : ByteArray) (seen last : Int) (w : World) (hD : w.heap[db]? = some (decO gb N cap er)) (hC : w.heap[cb]? = some (cmpO db pos fin what seen last))
    (h : er ≠ none ∨ fin ≤ pos) :
    Calls Ybaf.prog 19 #[.pointer (some ⟨cb, 0, none⟩)] w fun r w' => r = .returned (.tuple #[.agg #[.int .u8 0, .int .i64 0, .int .i64 0, .int .i64 0], .int .i64 0, .bool false]) ∧ Since w w' := by
  go_enter Ybaf.func19, Ybaf.ntmps19
  go_wp2_with fail
  refine (elnext_no cb db gb N cap er pos fin what seen last _ (keepB hD (belowAlloc _ _)) (keepB hC (belowAlloc _ _)) h).mono ?_
  rintro e w1 ⟨rfl, hb'⟩
  have hb := Since.of hb'
  have hR := hb.new
  obtain ⟨⟨r0, r1, r2, r3⟩, q0, q1, q2, q3⟩ := cells4 hR
  have hsz := hb.size
  have hS : Since w w1 := hb.then (Since.of (belowAlloc _ _))
  have hlt : w.heap.size < w1.heap.size := sizeOf_block hR
  clear hb' hb hR hsz
  go_wp2
  refine bodyPost_ret (v := .tuple #[.agg #[.int .u8 0, .int .i64 0, .int .i64 0, .int .i64 0], .int .i64 0, .bool false]) (by simp [results, Ybaf.results19, go_sem, r0, r1, r2, r3, hlt]) rfl ⟨rfl, ?_⟩
  exact Since.alloc (Since.set4 hS (Nat.le_refl _))

set_option maxRecDepth 100000 in
set_option maxHeartbeats 2000000 in
/-- components.next: the component in place 0. -/
theorem cnext0 (cb db gb N cap pos : Nat) (n fin : Int) (what : ByteArray) (w : World) (hD : w.heap[db]? = some (decO gb N cap none)) (hC : w.heap[cb]? = some (cmpO db pos fin what 0 (-1))) (hne : cb ≠ db) (hne2 : cb ≠ gb) (hN : N ≤ 1000)
    (hp : pos + 1 < N) (hid : w.cell? ⟨gb, pos, none⟩ = some (.int .u8 128)) (hn : w.cell? ⟨gb, pos + 1, none⟩ = some (.int .u8 n))
    (n0 : 0 ≤ n) (n1 : n < 128) (hf : (pos : Int) + 2 + n ≤ fin) (hfin : fin ≤ 1000) :
    Calls Ybaf.prog 19 #[.pointer (some ⟨cb, 0, none⟩)] w fun r w' => r = .returned (.tuple #[.agg #[.int .u8 128, .int .i64 pos, .int .i64 ((pos : Int) + 2), .int .i64 ((pos : Int) + 2 + n)], .int .i64 0, .bool true]) ∧ w'.heap[cb]? = some (cmpO db ((pos : Int) + 2 + n) fin what 1 0) ∧ w.grownBy w' (some cb) := by
  have hgs := sizeOf_cell hid
  have hcs := sizeOf_block hC
  have hds := sizeOf_block hD
  go_enter Ybaf.func19, Ybaf.ntmps19
  go_wp2_with fail
  refine (elnext_yes cb db gb N cap pos 128 n fin what 0 (-1) _ (keepB hD (belowAlloc _ _)) (keepB hC (belowAlloc _ _)) hne hne2 hN hp (cellAlloc' hid) (cellAlloc' hn) (by omega) (by omega) (by omega) n0 n1 hf hfin).mono ?_
  rintro e w1 ⟨rfl, hC1, hg⟩
  have hR := gKeep hg (newBlock w _) (by omega)
  have hD1 := gKeep hg (keepB hD (belowAlloc _ _)) (Ne.symm hne)
  have hG := gTrans (gBelow (some cb) (belowAlloc w _)) hg
  obtain ⟨⟨r0, r1, r2, r3⟩, q0, q1, q2, q3⟩ := cells4 hR
  have d1 : w1.cell? ⟨db, 1, none⟩ = some (.pointer none) := cellOf hD1
  have c3 : w1.cell? ⟨cb, 3, none⟩ = some (.pointer (some ⟨db, 0, none⟩)) := cellOf hC1
  have c5 : w1.cell? ⟨cb, 5, none⟩ = some (.int .u32 0) := cellOf hC1
  have c6 : w1.cell? ⟨cb, 6, none⟩ = some (.int .i64 (-1)) := cellOf hC1
  have z5 : w1.frozen? ⟨cb, 5, none⟩ = false := frozenOf hC1
  have z6 : w1.frozen? ⟨cb, 6, none⟩ = false := frozenOf hC1
  have l1 := sizeOf_block hR
  have l2 := sizeOf_block hC1
  have l3 := sizeOf_block hD1
  clear hg hD hC hid hn hD1
  go_wp2
  go_region
  all_goals go_wp2
  refine bodyPost_ret (v := .tuple #[.agg #[.int .u8 128, .int .i64 pos, .int .i64 ((pos : Int) + 2), .int .i64 ((pos : Int) + 2 + n)], .int .i64 0, .bool true]) (by simp [results, Ybaf.results19, go_sem, r0, r1, r2, r3, l1, l2]) rfl ⟨rfl, ?_, ?_⟩
  · have e1 := setOf (o := 6) (v := .int .i64 0) (setOf (o := 5) (v := .int .u32 (bits .or .u32 0 1)) hC1)
    rw [show bits .or .u32 0 1 = 1 by decide] at e1
    refine (Below.heap_alloc _ _ _ ?_).trans ((set4far (by omega)).trans e1)
    simpa using l2
  · exact gDrew (gTrans (gSetNew (gSetNew (gSetNew (gSetNew (gTrans (gTrans hG (gSet _ _ _ _)) (gSet _ _ _ _)) (Nat.le_refl _)) (Nat.le_refl _)) (Nat.le_refl _)) (Nat.le_refl _)) (gBelow _ (belowAlloc _ _)))

set_option maxRecDepth 100000 in
set_option maxHeartbeats 2000000 in
/-- components.next: the component in place 1. -/
theorem cnext1 (cb db gb N cap pos : Nat) (n fin : Int) (what : ByteArray) (w : World) (hD : w.heap[db]? = some (decO gb N cap none)) (hC : w.heap[cb]? = some (cmpO db pos fin what 1 0)) (hne : cb ≠ db) (hne2 : cb ≠ gb) (hN : N ≤ 1000)
    (hp : pos + 1 < N) (hid : w.cell? ⟨gb, pos, none⟩ = some (.int .u8 129)) (hn : w.cell? ⟨gb, pos + 1, none⟩ = some (.int .u8 n))
    (n0 : 0 ≤ n) (n1 : n < 128) (hf : (pos : Int) + 2 + n ≤ fin) (hfin : fin ≤ 1000) :
    Calls Ybaf.prog 19 #[.pointer (some ⟨cb, 0, none⟩)] w fun r w' => r = .returned (.tuple #[.agg #[.int .u8 129, .int .i64 pos, .int .i64 ((pos : Int) + 2), .int .i64 ((pos : Int) + 2 + n)], .int .i64 1, .bool true]) ∧ w'.heap[cb]? = some (cmpO db ((pos : Int) + 2 + n) fin what 3 1) ∧ w.grownBy w' (some cb) := by
  have hgs := sizeOf_cell hid
  have hcs := sizeOf_block hC
  have hds := sizeOf_block hD
  go_enter Ybaf.func19, Ybaf.ntmps19
  go_wp2_with fail
  refine (elnext_yes cb db gb N cap pos 129 n fin what 1 0 _ (keepB hD (belowAlloc _ _)) (keepB hC (belowAlloc _ _)) hne hne2 hN hp (cellAlloc' hid) (cellAlloc' hn) (by omega) (by omega) (by omega) n0 n1 hf hfin).mono ?_
  rintro e w1 ⟨rfl, hC1, hg⟩
  have hR := gKeep hg (newBlock w _) (by omega)
  have hD1 := gKeep hg (keepB hD (belowAlloc _ _)) (Ne.symm hne)
  have hG := gTrans (gBelow (some cb) (belowAlloc w _)) hg
  obtain ⟨⟨r0, r1, r2, r3⟩, q0, q1, q2, q3⟩ := cells4 hR
  have d1 : w1.cell? ⟨db, 1, none⟩ = some (.pointer none) := cellOf hD1
  have c3 : w1.cell? ⟨cb, 3, none⟩ = some (.pointer (some ⟨db, 0, none⟩)) := cellOf hC1
  have c5 : w1.cell? ⟨cb, 5, none⟩ = some (.int .u32 1) := cellOf hC1
  have c6 : w1.cell? ⟨cb, 6, none⟩ = some (.int .i64 0) := cellOf hC1
  have z5 : w1.frozen? ⟨cb, 5, none⟩ = false := frozenOf hC1
  have z6 : w1.frozen? ⟨cb, 6, none⟩ = false := frozenOf hC1
  have l1 := sizeOf_block hR
  have l2 := sizeOf_block hC1
  have l3 := sizeOf_block hD1
  clear hg hD hC hid hn hD1
  go_wp2
  go_region
  all_goals go_wp2
  refine bodyPost_ret (v := .tuple #[.agg #[.int .u8 129, .int .i64 pos, .int .i64 ((pos : Int) + 2), .int .i64 ((pos : Int) + 2 + n)], .int .i64 1, .bool true]) (by simp [results, Ybaf.results19, go_sem, r0, r1, r2, r3, l1, l2]) rfl ⟨rfl, ?_, ?_⟩
  · have e1 := setOf (o := 6) (v := .int .i64 1) (setOf (o := 5) (v := .int .u32 (bits .or .u32 1 2)) hC1)
    rw [show bits .or .u32 1 2 = 3 by decide] at e1
    refine (Below.heap_alloc _ _ _ ?_).trans ((set4far (by omega)).trans e1)
    simpa using l2
  · exact gDrew (gTrans (gSetNew (gSetNew (gSetNew (gSetNew (gTrans (gTrans hG (gSet _ _ _ _)) (gSet _ _ _ _)) (Nat.le_refl _)) (Nat.le_refl _)) (Nat.le_refl _)) (Nat.le_refl _)) (gBelow _ (belowAlloc _ _)))

end Go.Proofs.YbulkcvzcFmt
