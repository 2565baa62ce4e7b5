import Derived.Test.YbulkcvzcFmtIa5
set_option linter.unusedSimpArgs false
set_option linter.unusedVariables false
namespace Go.Proofs.YbulkcvzcFmt
open Go.RowKit

section
variable {w W W' : World} {db gb N cap eb cb bx : Nat} {M : List Int} {what : ByteArray} {code : Int} {text : ByteArray} {pos seen last o : Int}
theorem Ed.fail (h : Ed w W db gb N cap eb cb bx M what none code text pos seen last) (hf : Failed W W' db gb N cap o) :
    ∃ xb t, W'.heap[xb]? = some (.cells #[.int .i64 o, .string t] 48) ∧ W.heap.size ≤ xb ∧ Ed w W' db gb N cap eb cb bx M what (some ⟨xb, 0, none⟩) code text pos seen last := by
  obtain ⟨xb, t, h1, h2, h3, h4⟩ := hf
  have e1 := h.e1; have e2 := h.e2; have e3 := h.e3; have e7 := h.e7; have e9 := h.e9
  exact ⟨xb, t, h1, h2, h3, gKeep h4 h.hE (by omega), gKeep h4 h.hC (by omega), gKeep h4 h.hB (by omega), fun j hj => cellG h4 (h.hG j hj) (by simp; omega), gTrans h.hS h4, h.e1, h.e2, h.e3, h.e4, h.e5, h.e6, h.e7, h.e8, h.e9⟩
end

set_option maxRecDepth 100000 in
set_option maxHeartbeats 4000000 in
/-- The code is refused. -/
theorem ed_code (db gb N cap : Nat) (M cb t : List Int) (wt : Bool) (w : World) (hD : w.heap[db]? = some (decO gb N cap none)) (hG : ∀ j, j < N → w.cell? ⟨gb, j, none⟩ = some (.int .u8 (M.getD j 0))) (hNc : N ≤ cap) (hdg : db ≠ gb)
    (hM : Lay M N cb t wt) (hc1 : 1 ≤ cb.length) (hc2 : cb.length ≤ 20) (ht : t.length ≤ 100) (hcb : ∀ x ∈ cb, 0 ≤ x ∧ x < 256) (hch : cb.getD 0 0 < 128) (hcs : (strip cb).length ≤ 3) (v0 : 9999 < val (strip cb)) (v1 : val (strip cb) ≤ 65535) :
    Calls Ybaf.prog 11 #[.pointer (some ⟨db, 0, none⟩), .agg #[.int .u8 48, .int .i64 0, .int .i64 2, .int .i64 N]] w fun r w' => ∃ eb xb tx, r = .returned (.pointer (some ⟨eb, 0, none⟩)) ∧ w'.heap[eb]? = some (.cells #[.int .i64 0, .string ⟨#[]⟩] 44) ∧ w'.heap[xb]? = some (.cells #[.int .i64 2, .string tx] 48) ∧ w'.heap[db]? = some (decO gb N cap (some ⟨xb, 0, none⟩)) ∧ w.grownBy w' (some db) := by
  have hds := sizeOf_block hD
  have hN4 : 4 + cb.length ≤ N := by have := hM.fin; omega
  have hgs : gb < w.heap.size := sizeOf_cell (hG 0 (by omega))
  have hN1 := hM.n1000
  go_enter Ybaf.func11, Ybaf.ntmps11
  go_wp2_with fail
  refine (sequence_any db gb N cap 0 2 N _ _ (keepB (keepB hD (belowAlloc _ _)) (belowAlloc _ _))).mono ?_
  rintro r w1 ⟨cc, rfl, hcc, hC, hb1⟩
  have hS1 := Since.of hb1
  have hB := keepB (keepB (newBlock w (.cells #[.int .u8 48, .int .i64 0, .int .i64 2, .int .i64 N] 29)) (belowAlloc _ (.cells #[.int .i64 0, .string ⟨#[]⟩] 44))) hb1
  have hE : w1.heap[w.heap.size + 1]? = some (.cells #[.int .i64 0, .string ⟨#[]⟩] 44) := by
    have := hS1.new
    simpa using this
  have hSw : Since w w1 := hS1.then (Since.alloc (Since.of (belowAlloc _ _)))
  simp at hcc
  have ed1 : Ed w w1 db gb N cap (w.heap.size + 1) cc w.heap.size M _ none 0 ⟨#[]⟩ 2 0 (-1) :=
    ⟨hSw.keep hD, hE, hC, hB, fun j hj => hSw.cell (hG j hj), gBelow _ hSw, by omega, by omega, by omega, by omega, by omega, by omega, hds, hgs, hdg⟩
  obtain ⟨eb, heb⟩ : ∃ eb, eb = w.heap.size + 1 := ⟨_, rfl⟩
  rw [← heb] at ed1 ⊢
  have HEB : Hid (eb = w.heap.size + 1) := heb
  obtain ⟨WH, hWH⟩ : ∃ x : ByteArray, x = ⟨#[69, 114, 114, 111, 114, 68, 101, 115, 99, 114, 105, 112, 116, 111, 114]⟩ := ⟨_, rfl⟩
  rw [← hWH] at ed1
  clear heb hcc hC hb1 hS1 hB hE hSw hWH hD hG
  obtain ⟨n0, hn0⟩ : ∃ n0 : Nat, n0 = cb.length := ⟨_, rfl⟩
  go_wp2_with fail
  refine (cnext0 cc db gb N cap 2 n0 N WH _ ed1.hD ed1.hC (by have := ed1.e2; omega) (by have := ed1.e2; omega) hN1 (by omega) (by rw [ed1.hG 2 (by omega), hM.m2]) (by rw [ed1.hG 3 (by omega), hM.m3, hn0]) (by omega) (by omega) (by simp; omega) (by omega)).mono ?_
  rintro r w2 ⟨rfl, hC2, hg2⟩
  obtain ⟨E1, HE1⟩ : ∃ E1 : Nat, Hid (E1 = 4 + n0) := ⟨_, rfl⟩
  have hE1 : ((2 : Nat) : Int) + 2 + (n0 : Int) = (E1 : Int) := by have := HE1.out; omega
  rw [hE1] at hC2 ⊢
  have ed2 := ed1.next hg2 hC2
  have hE1N : E1 ≤ N := by have := HE1.out; omega
  clear hC2 hg2 ed1 hE1
  have HN0 : Hid (n0 = cb.length) := hn0
  clear hn0
  go_wp2_with fail
  have hF := newBlock w2 (.cells #[.int .u8 128, .int .i64 2, .int .i64 4, .int .i64 E1] 29)
  have ed3 := ed2.since (Since.of (belowAlloc w2 (.cells #[.int .u8 128, .int .i64 2, .int .i64 4, .int .i64 E1] 29)))
  have hfb : w.heap.size ≤ w2.heap.size ∧ w2.heap.size ≠ eb ∧ w2.heap.size ≠ cc ∧ w2.heap.size ≠ w.heap.size := by
    have h1 := sizeOf_block ed2.hE
    have h2 := sizeOf_block ed2.hC
    have h3 := sizeOf_block ed2.hB
    have h4 := ed2.e1
    omega
  obtain ⟨fb, hfbb⟩ : ∃ fb, fb = w2.heap.size := ⟨_, rfl⟩
  rw [← hfbb] at hF hfb
  generalize hW3 : w2.alloc _ = w3 at hF ed3 ⊢
  rw [← hfbb]
  clear hW3 hfbb ed2
  refine wp_loop_rounds 3 ?_
  rw [rounds_succ]
  obtain ⟨⟨f0, f1, f2, f3⟩, q0, q1, q2, q3⟩ := cells4 hF
  go_wp2_with fail
  have hoc : Octs w3 gb 4 E1 cb := by
    refine ⟨by have := HE1.out; have := HN0.out; omega, by have := HE1.out; have := HN0.out; omega, fun j hj => ?_, hcb, hch, hcs⟩
    rw [ed3.hG (4 + j) (by omega), hM.mc j hj]
  refine (uint_bad db gb N cap 4 E1 2 cb _ _ ed3.hD hE1N hN1 hNc hoc v0 v1).mono ?_
  rintro r w4 ⟨rfl, hF4'⟩
  obtain ⟨xb, tx, hX4, hxb, ed4⟩ := ed3.fail hF4'
  have l0 := sizeOf_block hF
  have hF4 := gKeep hF4'.grown hF (by have := ed3.e7; omega)
  have hxe : xb ≠ eb ∧ xb ≠ cc ∧ xb ≠ w.heap.size ∧ xb ≠ fb := by
    have h1 := sizeOf_block ed3.hE
    have h2 := sizeOf_block ed3.hC
    have h3 := sizeOf_block ed3.hB
    omega
  clear hoc hF4' hF ed3 f0 f1 f2 f3 q0 q1 q2 q3 l0 hxb
  obtain ⟨⟨f0, f1, f2, f3⟩, q0, q1, q2, q3⟩ := cells4 hF4
  have g0 : w4.cell? ⟨eb, 0, none⟩ = some (.int .i64 0) := cellOf ed4.hE
  have g1 : w4.frozen? ⟨eb, 0, none⟩ = false := frozenOf ed4.hE
  have l1 := sizeOf_block hF4
  obtain ⟨k1, k2, k3, k4⟩ := hfb
  obtain ⟨x1, x2, x3, x4⟩ := hxe
  go_wp2_with fail
  have hF5 := newBlock (w4.setCell ⟨eb, 0, none⟩ (.int .i64 0)) (.cells #[.int .u8 128, .int .i64 2, .int .i64 4, .int .i64 E1] 29)
  have ed5 := (ed4.setCode (v := 0)).since (Since.of (belowAlloc _ (.cells #[.int .u8 128, .int .i64 2, .int .i64 4, .int .i64 E1] 29)))
  have hX5 := keepB (gKeep (gSet w4 eb 0 (.int .i64 0)) hX4 x1) (belowAlloc _ (.cells #[.int .u8 128, .int .i64 2, .int .i64 4, .int .i64 E1] 29))
  have hfb5 : w.heap.size ≤ w4.heap.size ∧ w4.heap.size ≠ eb ∧ w4.heap.size ≠ cc ∧ w4.heap.size ≠ w.heap.size ∧ xb ≠ w4.heap.size := by
    have h1 := sizeOf_block ed4.hE
    have h2 := sizeOf_block ed4.hC
    have h3 := sizeOf_block ed4.hB
    have h4 := ed4.e1
    have h5 := sizeOf_block hX4
    omega
  have hsz5 : (w4.setCell ⟨eb, 0, none⟩ (.int .i64 0)).heap.size = w4.heap.size := by simp [World.setCell]
  rw [hsz5] at hF5
  obtain ⟨fb5, hfbb⟩ : ∃ fb5, fb5 = w4.heap.size := ⟨_, rfl⟩
  rw [← hfbb] at hF5 hfb5 ⊢
  generalize hW5 : (w4.setCell ⟨eb, 0, none⟩ (.int .i64 0)).alloc _ = w5 at hF5 ed5 hX5 ⊢
  clear hW5 hfbb hsz5 ed4 f0 f1 f2 f3 q0 q1 q2 q3 g0 g1 l1 hF4 k1 k2 k3 k4 hX4
  obtain ⟨k1, k2, k3, k4, k5⟩ := hfb5
  refine (cnext_no cc db gb N cap _ E1 N WH 1 0 _ ed5.hD ed5.hC (.inl (by simp))).mono ?_
  rintro r w6 ⟨rfl, hS6⟩
  have ed6 := ed5.since hS6
  have hF6 := hS6.keep hF5
  have hX6 := hS6.keep hX5
  clear hS6 hF5 ed5 hX5
  obtain ⟨⟨f0, f1, f2, f3⟩, q0, q1, q2, q3⟩ := cells4 hF6
  go_wp2_with fail
  rw [rounds_succ]
  have ed7 := (((ed6.set (o := 0) (v := .int .u8 0) k1 k2 k3 k4).set (o := 1) (v := .int .i64 0) k1 k2 k3 k4).set (o := 2) (v := .int .i64 0) k1 k2 k3 k4).set (o := 3) (v := .int .i64 0) k1 k2 k3 k4
  have hX7 := gKeep (gSet _ fb5 3 (.int .i64 0)) (gKeep (gSet _ fb5 2 (.int .i64 0)) (gKeep (gSet _ fb5 1 (.int .i64 0)) (gKeep (gSet _ fb5 0 (.int .u8 0)) hX6 k5) k5) k5) k5
  generalize hW7 : World.setCell _ ⟨fb5, 3, none⟩ _ = w7 at ed7 hX7 ⊢
  clear hW7 ed6 hF6 f0 f1 f2 f3 q0 q1 q2 q3 hX6
  obtain ⟨⟨b0, b1, b2, b3⟩, _⟩ := cells4 ed7.hB
  go_wp2_with fail
  refine (need_ok cc db gb N cap _ E1 N WH _ 1 0 48 0 2 N _ ed7.hD ed7.hC (.inl (by simp))).mono ?_
  rintro r w8 ⟨rfl, hS8⟩
  have ed8 := ed7.since hS8
  have hX8 := hS8.keep hX7
  clear ed7 hS8 b0 b1 b2 b3 hX7
  go_wp2_with fail
  go_ret
  exact ⟨eb, xb, tx, rfl, ed8.hE, hX8, ed8.hD, ed8.hS⟩
end Go.Proofs.YbulkcvzcFmt
