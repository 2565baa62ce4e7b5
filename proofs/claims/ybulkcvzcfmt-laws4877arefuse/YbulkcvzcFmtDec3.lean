import Derived.Test.YbulkcvzcFmtDec2
set_option linter.unusedSimpArgs false
set_option linter.unusedVariables false
namespace Go.Proofs.YbulkcvzcFmt
open Go.RowKit

theorem gSetNew {a b : World} {k i o : Nat} {v : Value} (h : a.grownBy b (some k)) (hi : a.heap.size ≤ i) : a.grownBy (b.setCell ⟨i, o, none⟩ v) (some k) :=
  ⟨h.os, h.tape, h.output, by simpa [World.setCell] using h.size, fun j hj hk => (Below.heap_setCell _ _ _ _ (by simp; omega)).trans (h.block j hj hk)⟩
theorem gDrewN {a b : World} {k : Option Nat} (n : Nat) (h : a.grownBy b k) : a.grownBy (b.drewN n) k := ⟨h.os, h.tape, h.output, h.size, h.block⟩
theorem gDrew {a b : World} {k : Option Nat} (h : a.grownBy b k) : a.grownBy b.drew k := ⟨h.os, h.tape, h.output, h.size, h.block⟩
theorem set4far {w : World} {b c : Nat} {v0 v1 v2 v3 : Value} (h : c ≠ b) :
    ((((w.setCell ⟨b, 0, none⟩ v0).setCell ⟨b, 1, none⟩ v1).setCell ⟨b, 2, none⟩ v2).setCell ⟨b, 3, none⟩ v3).heap[c]? = w.heap[c]? := by
  rw [setFar h, setFar h, setFar h, setFar h]
theorem set4 {w : World} {b : Nat} {u0 u1 u2 u3 v0 v1 v2 v3 : Value} {T : TypeId} (h : w.heap[b]? = some (.cells #[u0, u1, u2, u3] T)) :
    ((((w.setCell ⟨b, 0, none⟩ v0).setCell ⟨b, 1, none⟩ v1).setCell ⟨b, 2, none⟩ v2).setCell ⟨b, 3, none⟩ v3).heap[b]? = some (.cells #[v0, v1, v2, v3] T) := by
  rw [setOf (setOf (setOf (setOf h)))]; rfl

set_option maxRecDepth 100000 in
set_option maxHeartbeats 2000000 in
/-- elements.next: an element is read. -/
theorem elnext_yes (cb db gb N cap pos : Nat) (id n fin : Int) (what : ByteArray) (seen last : Int) (w : World) (hD : w.heap[db]? = some (decO gb N cap none)) (hC : w.heap[cb]? = some (cmpO db pos fin what seen last)) (hne : cb ≠ db) (hne2 : cb ≠ gb) (hN : N ≤ 1000)
    (hp : pos + 1 < N) (hid : w.cell? ⟨gb, pos, none⟩ = some (.int .u8 id)) (hn : w.cell? ⟨gb, pos + 1, none⟩ = some (.int .u8 n))
    (i0 : 0 ≤ id) (i1 : id < 256) (i2 : id % 32 ≠ 31) (n0 : 0 ≤ n) (n1 : n < 128) (hf : (pos : Int) + 2 + n ≤ fin) (hfin : fin ≤ 1000) :
    Calls Ybaf.prog 37 #[.pointer (some ⟨cb, 0, none⟩)] w fun r w' => r = .returned (.tuple #[.agg #[.int .u8 id, .int .i64 pos, .int .i64 ((pos : Int) + 2), .int .i64 ((pos : Int) + 2 + n)], .bool true]) ∧ w'.heap[cb]? = some (cmpO db ((pos : Int) + 2 + n) fin what seen last) ∧ w.grownBy w' (some cb) := by
  have d1 : w.cell? ⟨db, 1, none⟩ = some (.pointer none) := cellOf hD
  have c0 : w.cell? ⟨cb, 0, none⟩ = some (.pointer (some ⟨db, 0, none⟩)) := cellOf hC
  have c1 : w.cell? ⟨cb, 1, none⟩ = some (.int .i64 pos) := cellOf hC
  have c2 : w.cell? ⟨cb, 2, none⟩ = some (.int .i64 fin) := cellOf hC
  have hds := sizeOf_block hD
  have hcs := sizeOf_block hC
  have hgs := sizeOf_cell hid
  have hlt : (pos : Int) < fin := by omega
  go_enter Ybaf.func37, Ybaf.ntmps37
  go_wp2
  go_quiet (fail)
  go_wp2
  generalize hW : (w.alloc _).drewN nq = W1
  have hBw : Below w.heap.size w W1 := by rw [← hW]; exact below_drewN (belowAlloc _ _) _
  have hR : W1.heap[w.heap.size]? = some zeroE := by rw [← hW]; exact newBlock w zeroE
  clear hW c0 c1 c2 d1
  have hD1 := keepB hD hBw
  have hC1 := keepB hC hBw
  obtain ⟨c0, c1, c2, c3, c4, c5, c6, cz⟩ := cmpS hC1
  have hid' : ∀ w', Since W1 w' → w'.cell? ⟨gb, pos, none⟩ = some (.int .u8 id) := fun w' h => h.cell ((Since.of hBw).cell hid)
  have hn' : ∀ w', Since W1 w' → w'.cell? ⟨gb, pos + 1, none⟩ = some (.int .u8 n) := fun w' h => h.cell ((Since.of hBw).cell hn)
  have y0 : ∀ w', Since (W1.alloc (.cells #[.int .u8 0, .int .i64 0, .int .i64 0, .int .i64 0] 29)).drew w' → w'.cell? ⟨W1.heap.size, 0, none⟩ = some (.int .u8 0) := fun w' h => cellOf h.newD
  have y1 : ∀ w', Since (W1.alloc (.cells #[.int .u8 0, .int .i64 0, .int .i64 0, .int .i64 0] 29)).drew w' → w'.cell? ⟨W1.heap.size, 1, none⟩ = some (.int .i64 0) := fun w' h => cellOf h.newD
  have y2 : ∀ w', Since (W1.alloc (.cells #[.int .u8 0, .int .i64 0, .int .i64 0, .int .i64 0] 29)).drew w' → w'.cell? ⟨W1.heap.size, 2, none⟩ = some (.int .i64 0) := fun w' h => cellOf h.newD
  have y3 : ∀ w', Since (W1.alloc (.cells #[.int .u8 0, .int .i64 0, .int .i64 0, .int .i64 0] 29)).drew w' → w'.cell? ⟨W1.heap.size, 3, none⟩ = some (.int .i64 0) := fun w' h => cellOf h.newD
  have y4 : ∀ w' o, Since (W1.alloc (.cells #[.int .u8 0, .int .i64 0, .int .i64 0, .int .i64 0] 29)).drew w' → w'.frozen? ⟨W1.heap.size, o, none⟩ = false := fun w' o h => frozenOf h.newD
  go_region_held3 (fun w'' => Since W1 w'') (first | exact Since.dr | exact Since.then hb1 (by assumption) | exact Since.alloc (by assumption) | exact Since.drew (by assumption) | exact Since.alloc (Since.then hb1 Since.dr) | exact Since.set4 (by assumption) (Nat.le_refl _)) (first | (go_at_call 53; refine (element_any db gb N cap pos id n fin _ (Since.keep (by assumption) hD1) hN hp (hid' _ (by assumption)) (hn' _ (by assumption)) i0 i1 i2 n0 n1 hf hfin).mono ?_; rintro e1 w1 ⟨rfl, hb1'⟩; have hb1 := Since.of hb1'; clear hb1'))
  · have hE := newBlock w1 (.cells #[.int .u8 id, .int .i64 pos, .int .i64 ((pos : Int) + 2), .int .i64 ((pos : Int) + 2 + n)] 29)
    have hS2 : Since W1 (w1.alloc (.cells #[.int .u8 id, .int .i64 pos, .int .i64 ((pos : Int) + 2), .int .i64 ((pos : Int) + 2 + n)] 29)) := by assumption
    have heb : W1.heap.size ≤ w1.heap.size := hb1.size
    generalize hW2 : w1.alloc _ = W2 at hE hS2 ⊢
    generalize hebb : w1.heap.size = eb at hE heb ⊢
    clear hW2 hebb hb1 y0 y1 y2 y3 y4 hid' hn' c0 c1 c2 c3 c4 c5 c6 cz
    have hC2 := hS2.keep hC1
    have hD2 := hS2.keep hD1
    have hR2 := hS2.keep hR
    have hwW : w.heap.size < W1.heap.size := sizeOf_block hR
    have n1' : cb ≠ eb := by omega
    have n2' : cb ≠ w.heap.size := by omega
    have n3' : eb ≠ w.heap.size := by omega
    have n5' : db ≠ w.heap.size := by omega
    have k1 : W2.cell? ⟨cb, 1, none⟩ = some (.int .i64 pos) := cellOf hC2
    have z1 : W2.frozen? ⟨cb, 1, none⟩ = false := frozenOf hC2
    have hB2 : w.grownBy W2 (some cb) := gBelow _ (hS2.then (Since.of hBw))
    clear hD hC hid hn hBw hR hD1 hC1 hS2 hds hcs hgs
    go_wp2
    have hC3 : (W2.setCell ⟨cb, 1, none⟩ (.int .i64 ((pos : Int) + 2 + n))).heap[cb]? = some (cmpO db ((pos : Int) + 2 + n) fin what seen last) := setOf hC2
    have hD3 : (W2.setCell ⟨cb, 1, none⟩ (.int .i64 ((pos : Int) + 2 + n))).heap[db]? = _ := (setFar (Ne.symm hne)).trans hD2
    have hE3 : (W2.setCell ⟨cb, 1, none⟩ (.int .i64 ((pos : Int) + 2 + n))).heap[eb]? = _ := (setFar (Ne.symm n1')).trans hE
    have hR3 : (W2.setCell ⟨cb, 1, none⟩ (.int .i64 ((pos : Int) + 2 + n))).heap[w.heap.size]? = _ := (setFar (Ne.symm n2')).trans hR2
    have hB3 : w.grownBy (W2.setCell ⟨cb, 1, none⟩ (.int .i64 ((pos : Int) + 2 + n))) (some cb) := gTrans hB2 (gSet _ _ _ _)
    generalize hW3 : W2.setCell _ _ = W3 at hC3 hD3 hE3 hR3 hB3 ⊢
    clear hW3 hC2 hD2 hR2 hE hB2 k1 z1
    have k0 : W3.cell? ⟨cb, 0, none⟩ = some (.pointer (some ⟨db, 0, none⟩)) := cellOf hC3
    have k1 : W3.cell? ⟨db, 1, none⟩ = some (.pointer none) := cellOf hD3
    obtain ⟨⟨e0, e1, e2, e3⟩, _⟩ := cells4 hE3
    obtain ⟨⟨r0, r1, r2, r3⟩, q0, q1, q2, q3⟩ := cells4 hR3
    go_region
    all_goals go_wp2
    refine bodyPost_ret (v := .tuple #[.agg #[.int .u8 id, .int .i64 pos, .int .i64 ((pos : Int) + 2), .int .i64 ((pos : Int) + 2 + n)], .bool true]) (by simp [results, Ybaf.results37, go_sem, r0, r1, r2, r3]) rfl ⟨rfl, ?_, ?_⟩
    · exact (set4far n2').trans hC3
    · exact gSetNew (gSetNew (gSetNew (gSetNew (gDrew hB3) (Nat.le_refl _)) (Nat.le_refl _)) (Nat.le_refl _)) (Nat.le_refl _)
  · have hZ := hb1.newD
    have hE := set4 (v0 := .int .u8 id) (v1 := .int .i64 pos) (v2 := .int .i64 ((pos : Int) + 2)) (v3 := .int .i64 ((pos : Int) + 2 + n)) hZ
    have hS2 : Since W1 ((((w1.setCell ⟨W1.heap.size, 0, none⟩ (.int .u8 id)).setCell ⟨W1.heap.size, 1, none⟩ (.int .i64 pos)).setCell ⟨W1.heap.size, 2, none⟩ (.int .i64 ((pos : Int) + 2))).setCell ⟨W1.heap.size, 3, none⟩ (.int .i64 ((pos : Int) + 2 + n))) := by assumption
    have heb : W1.heap.size ≤ W1.heap.size := Nat.le_refl _
    clear hZ
    generalize hW2 : World.setCell _ ⟨W1.heap.size, 3, none⟩ _ = W2 at hE hS2 ⊢
    obtain ⟨eb, hebb⟩ : ∃ eb, eb = W1.heap.size := ⟨_, rfl⟩
    rw [← hebb] at hE
    have heb : W1.heap.size ≤ eb := by omega
    rw [← hebb]
    clear hW2 hebb hb1 y0 y1 y2 y3 y4 hid' hn' c0 c1 c2 c3 c4 c5 c6 cz
    have hC2 := hS2.keep hC1
    have hD2 := hS2.keep hD1
    have hR2 := hS2.keep hR
    have hwW : w.heap.size < W1.heap.size := sizeOf_block hR
    have n1' : cb ≠ eb := by omega
    have n2' : cb ≠ w.heap.size := by omega
    have n3' : eb ≠ w.heap.size := by omega
    have n5' : db ≠ w.heap.size := by omega
    have k1 : W2.cell? ⟨cb, 1, none⟩ = some (.int .i64 pos) := cellOf hC2
    have z1 : W2.frozen? ⟨cb, 1, none⟩ = false := frozenOf hC2
    have hB2 : w.grownBy W2 (some cb) := gBelow _ (hS2.then (Since.of hBw))
    clear hD hC hid hn hBw hR hD1 hC1 hS2 hds hcs hgs
    go_wp2
    have hC3 : (W2.setCell ⟨cb, 1, none⟩ (.int .i64 ((pos : Int) + 2 + n))).heap[cb]? = some (cmpO db ((pos : Int) + 2 + n) fin what seen last) := setOf hC2
    have hD3 : (W2.setCell ⟨cb, 1, none⟩ (.int .i64 ((pos : Int) + 2 + n))).heap[db]? = _ := (setFar (Ne.symm hne)).trans hD2
    have hE3 : (W2.setCell ⟨cb, 1, none⟩ (.int .i64 ((pos : Int) + 2 + n))).heap[eb]? = _ := (setFar (Ne.symm n1')).trans hE
    have hR3 : (W2.setCell ⟨cb, 1, none⟩ (.int .i64 ((pos : Int) + 2 + n))).heap[w.heap.size]? = _ := (setFar (Ne.symm n2')).trans hR2
    have hB3 : w.grownBy (W2.setCell ⟨cb, 1, none⟩ (.int .i64 ((pos : Int) + 2 + n))) (some cb) := gTrans hB2 (gSet _ _ _ _)
    generalize hW3 : W2.setCell _ _ = W3 at hC3 hD3 hE3 hR3 hB3 ⊢
    clear hW3 hC2 hD2 hR2 hE hB2 k1 z1
    have k0 : W3.cell? ⟨cb, 0, none⟩ = some (.pointer (some ⟨db, 0, none⟩)) := cellOf hC3
    have k1 : W3.cell? ⟨db, 1, none⟩ = some (.pointer none) := cellOf hD3
    obtain ⟨⟨e0, e1, e2, e3⟩, _⟩ := cells4 hE3
    obtain ⟨⟨r0, r1, r2, r3⟩, q0, q1, q2, q3⟩ := cells4 hR3
    go_region
    all_goals go_wp2
    refine bodyPost_ret (v := .tuple #[.agg #[.int .u8 id, .int .i64 pos, .int .i64 ((pos : Int) + 2), .int .i64 ((pos : Int) + 2 + n)], .bool true]) (by simp [results, Ybaf.results37, go_sem, r0, r1, r2, r3]) rfl ⟨rfl, ?_, ?_⟩
    · exact (set4far n2').trans hC3
    · exact gSetNew (gSetNew (gSetNew (gSetNew (gDrew hB3) (Nat.le_refl _)) (Nat.le_refl _)) (Nat.le_refl _)) (Nat.le_refl _)
end Go.Proofs.YbulkcvzcFmt
