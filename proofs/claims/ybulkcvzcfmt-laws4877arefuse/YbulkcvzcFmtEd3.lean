import Derived.Test.YbulkcvzcFmtEd2
set_option linter.unusedSimpArgs false
set_option linter.unusedVariables false
namespace Go.Proofs.YbulkcvzcFmt
open Go.RowKit

set_option maxRecDepth 100000 in
set_option maxHeartbeats 4000000 in
/-- The text is refused. -/
theorem ed_text (db gb N cap : Nat) (M cb t : List Int) (w : World) (hD : w.heap[db]? = some (decO gb N cap none)) (hG : ∀ j, j < N → w.cell? ⟨gb, j, none⟩ = some (.int .u8 (M.getD j 0))) (hNc : N ≤ cap) (hdg : db ≠ gb)
    (hM : Lay M N cb t true) (hc1 : 1 ≤ cb.length) (hc2 : cb.length ≤ 20) (ht : t.length ≤ 100) (hcb : ∀ x ∈ cb, 0 ≤ x ∧ x < 256) (hch : cb.getD 0 0 < 128) (hcs : (strip cb).length ≤ 3) (htb : ∀ x ∈ t, 0 ≤ x ∧ x < 256) (hbad : ∃ j, j < t.length ∧ 128 ≤ t.getD j 0) (v0 : 0 ≤ val (strip cb)) (v1 : val (strip cb) ≤ 9999) :
    Calls Ybaf.prog 11 #[.pointer (some ⟨db, 0, none⟩), .agg #[.int .u8 48, .int .i64 0, .int .i64 2, .int .i64 N]] w fun r w' => ∃ eb xb tx, r = .returned (.pointer (some ⟨eb, 0, none⟩)) ∧ w'.heap[eb]? = some (.cells #[.int .i64 (val (strip cb)), .string ⟨#[]⟩] 44) ∧ w'.heap[xb]? = some (.cells #[.int .i64 (4 + cb.length : Nat), .string tx] 48) ∧ w'.heap[db]? = some (decO gb N cap (some ⟨xb, 0, none⟩)) ∧ w.grownBy w' (some db) := by
  have hds := sizeOf_block hD
  have hN4 : 4 + cb.length ≤ N := by have := hM.fin; omega
  have hgs : gb < w.heap.size := sizeOf_cell (hG 0 (by omega))
  have hN1 := hM.n1000
  go_enter Ybaf.func11, Ybaf.ntmps11
  go_wp2_with fail
  refine (sequence_any db gb N cap 0 2 N _ _ (keepB (keepB hD (belowAlloc _ _)) (belowAlloc _ _))).mono ?_
  rintro r w1 ⟨cc, rfl, hcc, hC, hb1⟩
  have hS1 := Since.of hb1
  have hB := keepB (keepB (newBlock w (.cells #[.int .u8 48, .int .i64 0, .int .i64 2, .int .i64 N] 29)) (belowAlloc _ (.cells #[.int .i64 0, .string ⟨#[]⟩] 44))) hb1
  have hE : w1.heap[w.heap.size + 1]? = some (.cells #[.int .i64 0, .string ⟨#[]⟩] 44) := by
    have := hS1.new
    simpa using this
  have hSw : Since w w1 := hS1.then (Since.alloc (Since.of (belowAlloc _ _)))
  simp at hcc
  have ed1 : Ed w w1 db gb N cap (w.heap.size + 1) cc w.heap.size M _ none 0 ⟨#[]⟩ 2 0 (-1) :=
    ⟨hSw.keep hD, hE, hC, hB, fun j hj => hSw.cell (hG j hj), gBelow _ hSw, by omega, by omega, by omega, by omega, by omega, by omega, hds, hgs, hdg⟩
  obtain ⟨eb, heb⟩ : ∃ eb, eb = w.heap.size + 1 := ⟨_, rfl⟩
  rw [← heb] at ed1 ⊢
  have HEB : Hid (eb = w.heap.size + 1) := heb
  obtain ⟨WH, hWH⟩ : ∃ x : ByteArray, x = ⟨#[69, 114, 114, 111, 114, 68, 101, 115, 99, 114, 105, 112, 116, 111, 114]⟩ := ⟨_, rfl⟩
  rw [← hWH] at ed1
  clear heb hcc hC hb1 hS1 hB hE hSw hWH hD hG
  obtain ⟨n0, hn0⟩ : ∃ n0 : Nat, n0 = cb.length := ⟨_, rfl⟩
  go_wp2_with fail
  refine (cnext0 cc db gb N cap 2 n0 N WH _ ed1.hD ed1.hC (by have := ed1.e2; omega) (by have := ed1.e2; omega) hN1 (by omega) (by rw [ed1.hG 2 (by omega), hM.m2]) (by rw [ed1.hG 3 (by omega), hM.m3, hn0]) (by omega) (by omega) (by simp; omega) (by omega)).mono ?_
  rintro r w2 ⟨rfl, hC2, hg2⟩
  obtain ⟨E1, HE1⟩ : ∃ E1 : Nat, Hid (E1 = 4 + n0) := ⟨_, rfl⟩
  have hE1 : ((2 : Nat) : Int) + 2 + (n0 : Int) = (E1 : Int) := by have := HE1.out; omega
  rw [hE1] at hC2 ⊢
  have ed2 := ed1.next hg2 hC2
  have hE1N : E1 ≤ N := by have := HE1.out; omega
  clear hC2 hg2 ed1 hE1
  have HN0 : Hid (n0 = cb.length) := hn0
  clear hn0
  go_wp2_with fail
  have hF := newBlock w2 (.cells #[.int .u8 128, .int .i64 2, .int .i64 4, .int .i64 E1] 29)
  have ed3 := ed2.since (Since.of (belowAlloc w2 (.cells #[.int .u8 128, .int .i64 2, .int .i64 4, .int .i64 E1] 29)))
  have hfb : w.heap.size ≤ w2.heap.size ∧ w2.heap.size ≠ eb ∧ w2.heap.size ≠ cc ∧ w2.heap.size ≠ w.heap.size := by
    have h1 := sizeOf_block ed2.hE
    have h2 := sizeOf_block ed2.hC
    have h3 := sizeOf_block ed2.hB
    have h4 := ed2.e1
    omega
  obtain ⟨fb, hfbb⟩ : ∃ fb, fb = w2.heap.size := ⟨_, rfl⟩
  rw [← hfbb] at hF hfb
  generalize hW3 : w2.alloc _ = w3 at hF ed3 ⊢
  rw [← hfbb]
  clear hW3 hfbb ed2
  refine wp_loop_rounds 3 ?_
  rw [rounds_succ]
  obtain ⟨⟨f0, f1, f2, f3⟩, q0, q1, q2, q3⟩ := cells4 hF
  go_wp2_with fail
  have hoc : Octs w3 gb 4 E1 cb := by
    refine ⟨by have := HE1.out; have := HN0.out; omega, by have := HE1.out; have := HN0.out; omega, fun j hj => ?_, hcb, hch, hcs⟩
    rw [ed3.hG (4 + j) (by omega), hM.mc j hj]
  refine (uint_ok db gb N cap 4 E1 2 cb _ _ ed3.hD hE1N hN1 hNc hoc v0 v1).mono ?_
  rintro r w4 ⟨rfl, hS4⟩
  obtain ⟨v, HV⟩ : ∃ v, Hid (val (strip cb) = v) := ⟨_, rfl⟩
  rw [HV.out] at v0 v1 ⊢
  have ed4 := ed3.since hS4
  have hF4 := hS4.keep hF
  clear hoc hS4 hF ed3 f0 f1 f2 f3 q0 q1 q2 q3
  obtain ⟨⟨f0, f1, f2, f3⟩, q0, q1, q2, q3⟩ := cells4 hF4
  have g0 : w4.cell? ⟨eb, 0, none⟩ = some (.int .i64 0) := cellOf ed4.hE
  have g1 : w4.frozen? ⟨eb, 0, none⟩ = false := frozenOf ed4.hE
  have l1 := sizeOf_block hF4
  obtain ⟨k1, k2, k3, k4⟩ := hfb
  go_wp2_with fail
  have hF5 := newBlock (w4.setCell ⟨eb, 0, none⟩ (.int .i64 v)) (.cells #[.int .u8 128, .int .i64 2, .int .i64 4, .int .i64 E1] 29)
  have ed5 := (ed4.setCode (v := v)).since (Since.of (belowAlloc _ (.cells #[.int .u8 128, .int .i64 2, .int .i64 4, .int .i64 E1] 29)))
  have hfb5 : w.heap.size ≤ w4.heap.size ∧ w4.heap.size ≠ eb ∧ w4.heap.size ≠ cc ∧ w4.heap.size ≠ w.heap.size := by
    have h1 := sizeOf_block ed4.hE
    have h2 := sizeOf_block ed4.hC
    have h3 := sizeOf_block ed4.hB
    have h4 := ed4.e1
    omega
  have hsz5 : (w4.setCell ⟨eb, 0, none⟩ (.int .i64 v)).heap.size = w4.heap.size := by simp [World.setCell]
  rw [hsz5] at hF5
  obtain ⟨fb5, hfbb⟩ : ∃ fb5, fb5 = w4.heap.size := ⟨_, rfl⟩
  rw [← hfbb] at hF5 hfb5 ⊢
  generalize hW5 : (w4.setCell ⟨eb, 0, none⟩ (.int .i64 v)).alloc _ = w5 at hF5 ed5 ⊢
  clear hW5 hfbb hsz5 ed4 f0 f1 f2 f3 q0 q1 q2 q3 g0 g1 l1 hF4 k1 k2 k3 k4
  obtain ⟨k1, k2, k3, k4⟩ := hfb5
  have hNf : N = E1 + 2 + t.length := by have := HE1.out; have := HN0.out; have := hM.fin; simp at this; omega
  refine (cnext1 cc db gb N cap E1 t.length N WH _ ed5.hD ed5.hC (by have := ed5.e2; omega) (by have := ed5.e2; omega) hN1 (by omega) (by rw [ed5.hG E1 (by omega), show E1 = 4 + cb.length by rw [HE1.out, HN0.out], hM.m4 rfl]) (by rw [ed5.hG (E1 + 1) (by omega), show E1 + 1 = 5 + cb.length by rw [HE1.out, HN0.out]; omega, hM.m5 rfl]) (by omega) (by omega) (by omega) (by omega)).mono ?_
  rintro r w6 ⟨rfl, hC6, hg6⟩
  have hE2 : (E1 : Int) + 2 + (t.length : Int) = (N : Int) := by omega
  rw [hE2] at hC6 ⊢
  have ed6 := ed5.next hg6 hC6
  have hF6 := gKeep hg6 hF5 k3
  clear hC6 hg6 hF5 ed5 hE2
  obtain ⟨⟨f0, f1, f2, f3⟩, q0, q1, q2, q3⟩ := cells4 hF6
  obtain ⟨S2, HS2⟩ : ∃ S2 : Nat, Hid (S2 = E1 + 2) := ⟨_, rfl⟩
  have hS2 : (E1 : Int) + 2 = (S2 : Int) := by have := HS2.out; omega
  rw [hS2]
  have hS2N : S2 ≤ N := by have := HS2.out; omega
  have hS2t : N = S2 + t.length := by have := HS2.out; omega
  have HNF : Hid (N = S2 + t.length) := hS2t
  clear hNf hS2 hS2t
  go_wp2_with fail
  rw [rounds_succ]
  have ed7 := (((ed6.set (o := 0) (v := .int .u8 129) k1 k2 k3 k4).set (o := 1) (v := .int .i64 E1) k1 k2 k3 k4).set (o := 2) (v := .int .i64 S2) k1 k2 k3 k4).set (o := 3) (v := .int .i64 N) k1 k2 k3 k4
  have hF7 := set4 (v0 := .int .u8 129) (v1 := .int .i64 E1) (v2 := .int .i64 S2) (v3 := .int .i64 N) hF6
  generalize hW7 : World.setCell _ ⟨fb5, 3, none⟩ _ = w7 at ed7 hF7 ⊢
  clear hW7 ed6 hF6 f0 f1 f2 f3 q0 q1 q2 q3
  obtain ⟨⟨f0, f1, f2, f3⟩, q0, q1, q2, q3⟩ := cells4 hF7
  go_wp2_with fail
  refine (ia5_bad db gb N cap S2 N E1 t _ _ ed7.hD hS2N (Nat.le_refl _) hN1 hNc (by have := HNF.out; omega) (fun j hj => by rw [ed7.hG (S2 + j) (by have := HNF.out; omega), show S2 + j = 6 + cb.length + j by rw [HS2.out, HE1.out, HN0.out]; omega, hM.mt rfl j hj]) htb hbad).mono ?_
  rintro r w8 ⟨rfl, hF8'⟩
  obtain ⟨xb, tx, hX8, hxb, ed8⟩ := ed7.fail hF8'
  have l0 := sizeOf_block hF7
  have hF8 := gKeep hF8'.grown hF7 (by have := ed7.e7; omega)
  have hxe : xb ≠ eb := by
    have h1 := sizeOf_block ed7.hE
    omega
  clear hF8' hF7 ed7 f0 f1 f2 f3 q0 q1 q2 q3 l0 hxb
  obtain ⟨⟨f0, f1, f2, f3⟩, q0, q1, q2, q3⟩ := cells4 hF8
  have g0 : w8.cell? ⟨eb, 1, none⟩ = some (.string ⟨#[]⟩) := cellOf ed8.hE
  have g1 : w8.frozen? ⟨eb, 1, none⟩ = false := frozenOf ed8.hE
  have l1 := sizeOf_block hF8
  go_wp2_with fail
  have hF9 := newBlock (w8.setCell ⟨eb, 1, none⟩ (.string ⟨#[]⟩)) (.cells #[.int .u8 129, .int .i64 E1, .int .i64 S2, .int .i64 N] 29)
  have ed9 := (ed8.setText (v := ⟨#[]⟩)).since (Since.of (belowAlloc _ (.cells #[.int .u8 129, .int .i64 E1, .int .i64 S2, .int .i64 N] 29)))
  have hX9 := keepB (gKeep (gSet w8 eb 1 (.string ⟨#[]⟩)) hX8 hxe) (belowAlloc _ (.cells #[.int .u8 129, .int .i64 E1, .int .i64 S2, .int .i64 N] 29))
  have hfb9 : w.heap.size ≤ w8.heap.size ∧ w8.heap.size ≠ eb ∧ w8.heap.size ≠ cc ∧ w8.heap.size ≠ w.heap.size ∧ xb ≠ w8.heap.size := by
    have h1 := sizeOf_block ed8.hE
    have h2 := sizeOf_block ed8.hC
    have h3 := sizeOf_block ed8.hB
    have h4 := ed8.e1
    have h5 := sizeOf_block hX8
    omega
  have hsz9 : (w8.setCell ⟨eb, 1, none⟩ (.string ⟨#[]⟩)).heap.size = w8.heap.size := by simp [World.setCell]
  rw [hsz9] at hF9
  obtain ⟨fb9, hfbb⟩ : ∃ fb9, fb9 = w8.heap.size := ⟨_, rfl⟩
  rw [← hfbb] at hF9 hfb9 ⊢
  generalize hW9 : (w8.setCell ⟨eb, 1, none⟩ (.string ⟨#[]⟩)).alloc _ = w9 at hF9 ed9 hX9 ⊢
  clear hW9 hfbb hsz9 ed8 f0 f1 f2 f3 q0 q1 q2 q3 g0 g1 l1 hF8 k1 k2 k3 k4 hX8
  obtain ⟨k1, k2, k3, k4, k5⟩ := hfb9
  refine (cnext_no cc db gb N cap _ N N WH 3 1 _ ed9.hD ed9.hC (.inl (by simp))).mono ?_
  rintro r wA ⟨rfl, hSA⟩
  have edA := ed9.since hSA
  have hFA := hSA.keep hF9
  have hXA := hSA.keep hX9
  clear hSA hF9 ed9 hX9
  obtain ⟨⟨f0, f1, f2, f3⟩, q0, q1, q2, q3⟩ := cells4 hFA
  go_wp2_with fail
  rw [rounds_succ]
  have edB := (((edA.set (o := 0) (v := .int .u8 0) k1 k2 k3 k4).set (o := 1) (v := .int .i64 0) k1 k2 k3 k4).set (o := 2) (v := .int .i64 0) k1 k2 k3 k4).set (o := 3) (v := .int .i64 0) k1 k2 k3 k4
  have hXB := gKeep (gSet _ fb9 3 (.int .i64 0)) (gKeep (gSet _ fb9 2 (.int .i64 0)) (gKeep (gSet _ fb9 1 (.int .i64 0)) (gKeep (gSet _ fb9 0 (.int .u8 0)) hXA k5) k5) k5) k5
  generalize hWB : World.setCell _ ⟨fb9, 3, none⟩ _ = wB at edB hXB ⊢
  clear hWB edA hFA f0 f1 f2 f3 q0 q1 q2 q3 hXA
  obtain ⟨⟨b0, b1, b2, b3⟩, _⟩ := cells4 edB.hB
  go_wp2_with fail
  refine (need_ok cc db gb N cap _ N N WH _ 3 1 48 0 2 N _ edB.hD edB.hC (.inl (by simp))).mono ?_
  rintro r wC ⟨rfl, hSC⟩
  have edC := edB.since hSC
  have hXC := hSC.keep hXB
  clear edB hSC b0 b1 b2 b3 hXB
  go_wp2_with fail
  go_ret
  exact ⟨eb, xb, tx, rfl, by rw [HV.out]; exact edC.hE, by rw [show (4 + cb.length : Nat) = E1 by rw [HE1.out, HN0.out]]; exact hXC, edC.hD, edC.hS⟩
end Go.Proofs.YbulkcvzcFmt
