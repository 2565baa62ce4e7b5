import Derived.Test.YbulkcwasOffer
set_option linter.unusedSimpArgs false
set_option linter.unusedVariables false
namespace Go.Proofs.Ybulkcwas
open Go.RowKit

/-- Of two copies the one that comes first. -/
def sooner (c e : Ev) : Ev := if c.lt e then c else e

set_option maxRecDepth 100000 in
set_option maxHeartbeats 4000000 in
theorem offer_old (base qb sb n m j : Nat) (c : Ev) (V : Nat → Ev) (T : Nat → Int) (w : World) (h : WholeS base w qb sb n m V T) (c0 : 0 ≤ c.to) (c1 : c.to < n) (hbc : Bnd c) (hj : j < m) (hT : T c.to.toNat = j) (hVj : (V j).to = c.to) :
    Calls Yba.prog 7 #[.pointer (some ⟨qb, 0, none⟩), .agg #[.float .f64 (fl c.time), .int .i32 c.fr, .int .i32 c.to, .int .i32 c.tt]] w fun r w' => r = .returned (.tuple #[]) ∧ ∃ V' T', WholeS base w' qb sb n m V' T' ∧ (∀ v, v < n → view V' T' v = if v = c.to.toNat then some (sooner c (V j)) else view V T v) ∧ Frb base [qb, sb] w w' := by
  obtain ⟨to, hto⟩ : ∃ to : Nat, c.to = to := ⟨c.to.toNat, by omega⟩
  have htn : to < n := by omega
  have HTO : Hid (c.to = to) := ⟨hto⟩
  have HC : Hid (0 ≤ c.to ∧ c.to < n) := ⟨c0, c1⟩
  have e1 : c.to.toNat = to := by omega
  have HE1 : Hid (c.to.toNat = to) := ⟨e1⟩
  have HVJ : Hid ((V j).to = to) := ⟨by omega⟩
  rw [e1] at hT
  rw [e1, hto]
  have HT : Hid (T to = j) := ⟨hT⟩
  obtain ⟨g, cap, hg, hQ⟩ := h.q.qm (by omega)
  have lq := h.q.lq
  have ls := h.q.ls
  have lb := h.q.lb
  have n16 := h.q.n16
  have m16 := h.q.m16
  have hq0 : w.cell? ⟨qb, 0, none⟩ = some (.slice (some ⟨g, 0, none⟩) m cap) := cellOf hQ.hq
  have hq1 : w.cell? ⟨qb, 1, none⟩ = some (.slice (some ⟨sb, 0, none⟩) n n) := cellOf hQ.hq
  have l1 := sizeOf_block hQ.hq
  have l2 := hQ.he.lt
  have l3 := hQ.hs.lt
  have s0 := hQ.hs.cell htn
  rw [hT] at s0
  clear hto e1 c0 c1 hT hVj
  go_enter Yba.func7, Yba.ntmps7
  go_wp2
  go_quiet (fail)
  have hS : Since w ((w.alloc (.cells #[.float .f64 (fl c.time), .int .i32 c.fr, .int .i32 to, .int .i32 c.tt] 36)).drewN nq) := Since.drewN (Since.of (belowAlloc _ _)) _
  have hB : ((w.alloc (.cells #[.float .f64 (fl c.time), .int .i32 c.fr, .int .i32 to, .int .i32 c.tt] 36)).drewN nq).heap[w.heap.size]? = _ := newBlock w _
  obtain ⟨bx, hbx⟩ : ∃ bx, bx = w.heap.size := ⟨_, rfl⟩
  rw [← hbx] at hB ⊢
  generalize hW : World.drewN _ nq = W at hS hB ⊢
  clear hW hbx hq0 hq1 s0 l1 l2 l3
  have hQW := hQ.since hS
  have q0 : ∀ w', Since W w' → w'.cell? ⟨qb, 0, none⟩ = some (.slice (some ⟨g, 0, none⟩) m cap) := fun w' hf => cellOf (hf.keep hQW.hq)
  have b0 : ∀ w', Since W w' → w'.cell? ⟨bx, 0, none⟩ = some (.float .f64 (fl c.time)) := fun w' hf => cellOf (hf.keep hB)
  have b1 : ∀ w', Since W w' → w'.cell? ⟨bx, 1, none⟩ = some (.int .i32 c.fr) := fun w' hf => cellOf (hf.keep hB)
  have b2 : ∀ w', Since W w' → w'.cell? ⟨bx, 2, none⟩ = some (.int .i32 to) := fun w' hf => cellOf (hf.keep hB)
  have b3 : ∀ w', Since W w' → w'.cell? ⟨bx, 3, none⟩ = some (.int .i32 c.tt) := fun w' hf => cellOf (hf.keep hB)
  have p0 := fun w' h => ((hQW.he.since (w' := w') h).cell hj).1
  have p1 := fun w' h => ((hQW.he.since (w' := w') h).cell hj).2.1
  have p2 := fun w' h => ((hQW.he.since (w' := w') h).cell hj).2.2.1
  have p3 := fun w' h => ((hQW.he.since (w' := w') h).cell hj).2.2.2
  have hbj := h.bnd j hj
  obtain ⟨bb, HBB⟩ : ∃ bb, Hid (decide (c.lt (V j)) = bb) := ⟨_, ⟨rfl⟩⟩
  go_wp2
  go_region_held3 (fun w'' => Since W w'') (first | exact Since.dr | exact Since.then hb1 (by assumption) | exact Since.drew (by assumption)) (first | (go_at_call 12; rw [← HTO.out]; refine (before_any c (V j) hbc hbj _).mono ?_; rintro r1 w1 ⟨rfl, hb1⟩; rw [HBB.out]))
  have hS1 : Since W w1 := by assumption
  have hQ1 := hQW.since hS1
  have r0 := b0 _ hS1
  have r1 := b1 _ hS1
  have r2 := b2 _ hS1
  have r3 := b3 _ hS1
  have hSw := hS1.then hS
  have l1 := sizeOf_block (hS1.keep hB)
  clear p0 p1 p2 p3 q0 b0 b1 b2 b3 hb1
  cases bb
  case true =>
    have hlt : Hid (c.lt (V j)) := ⟨of_decide_eq_true HBB.out⟩
    obtain ⟨x1, x2, x3, x4⟩ := old_plain h.good h.heap h.bnd hbc HTO.out htn hj HT.out HVJ.out hlt.out
    rw [← HE1.out] at x1
    have HX4 := Hid.mk x4
    clear x4
    go_wp2_with fail
    rw [← HTO.out]
    refine (up_any qb sb g n m cap j c V T _ hQ1 hj HC.out.1 HC.out.2 x3 x1 x2).mono ?_
    rintro r5 w5 ⟨rfl, V', T', hwh, hvw, hF5⟩
    go_wp2
    go_end0
    have hl1 : base ≤ w1.heap.size := Nat.le_trans lb hSw.size
    have hl5 : base ≤ w5.heap.size := Nat.le_trans hl1 hF5.size
    refine ⟨rfl, V', T', ⟨Qs.of hwh.q hg lq ls hl5, hwh.good, hwh.heap, hwh.bnd⟩, fun v hv => ?_, (Frb.since hSw lb).trans (Frb.of hF5 hl1 (fun i hi => by simp at hi; rcases hi with rfl | rfl <;> simp [hg]))⟩
    rw [hvw v hv, HE1.out, show sooner c (V j) = c from if_pos hlt.out]
    exact HX4.out v hv
  case false =>
    have hlt : Hid (¬ c.lt (V j)) := ⟨of_decide_eq_false HBB.out⟩
    go_wp2
    go_end0
    have hl1 : base ≤ w1.heap.size := Nat.le_trans lb hSw.size
    refine ⟨rfl, V, T, ⟨Qs.of hQ1 hg lq ls hl1, h.good, h.heap, h.bnd⟩, fun v hv => ?_, Frb.since hSw lb⟩
    by_cases e : v = to
    · rw [if_pos e, show sooner c (V j) = V j from if_neg hlt.out, e]
      unfold view
      rw [HT.out, if_neg (by omega)]
      simp
    · rw [if_neg e]
end Go.Proofs.Ybulkcwas
