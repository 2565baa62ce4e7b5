import Derived.Test.YbulkcwasStart
set_option linter.unusedSimpArgs false
set_option linter.unusedVariables false
namespace Go.Proofs.Ybulkcwas
open Go.RowKit

section
variable {base qb sb hb ab n m : Nat} {w w' w2 : World} {V : Nat → Ev} {T : Nat → Int} {H : Nat → Ev} {A : Nat → Bool}
theorem WholeS.far {b o : Nat} {x : Value} (h : WholeS base w qb sb n m V T) (h1 : b ≠ qb) (h2 : b ≠ sb) (h3 : b < base) : WholeS base (w.setCell ⟨b, o, none⟩ x) qb sb n m V T :=
  ⟨h.q.far h1 h2 h3, h.good, h.heap, h.bnd⟩
/-- The law has stored c as its node's; the queue has not yet been told. -/
theorem LInv.stored (h : LInv base w qb sb hb ab n m V T H A) (c : Ev) {to : Nat} (htn : to < n) :
    WholeS base (((((w.setCell ⟨hb, to * 4, none⟩ (.float .f64 (fl c.time))).setCell ⟨hb, to * 4 + 1, none⟩ (.int .i32 c.fr)).setCell ⟨hb, to * 4 + 2, none⟩ (.int .i32 c.to)).setCell ⟨hb, to * 4 + 3, none⟩ (.int .i32 c.tt)).setCell ⟨ab, to, none⟩ (.bool true)) qb sb n m V T ∧
    EvRow (((((w.setCell ⟨hb, to * 4, none⟩ (.float .f64 (fl c.time))).setCell ⟨hb, to * 4 + 1, none⟩ (.int .i32 c.fr)).setCell ⟨hb, to * 4 + 2, none⟩ (.int .i32 c.to)).setCell ⟨hb, to * 4 + 3, none⟩ (.int .i32 c.tt)).setCell ⟨ab, to, none⟩ (.bool true)) hb n n (upd H to c) ∧
    BoRow (((((w.setCell ⟨hb, to * 4, none⟩ (.float .f64 (fl c.time))).setCell ⟨hb, to * 4 + 1, none⟩ (.int .i32 c.fr)).setCell ⟨hb, to * 4 + 2, none⟩ (.int .i32 c.to)).setCell ⟨hb, to * 4 + 3, none⟩ (.int .i32 c.tt)).setCell ⟨ab, to, none⟩ (.bool true)) ab n (upd A to true) := by
  obtain ⟨d1, d2, d3, d4, d5⟩ := h.d
  refine ⟨((((h.q.far d1 d2 h.l1).far d1 d2 h.l1).far d1 d2 h.l1).far d1 d2 h.l1).far d3 d4 h.l2, (h.he.set htn c).keep (setFar d5), ?_⟩
  have e : BoRow ((((w.setCell ⟨hb, to * 4, none⟩ (.float .f64 (fl c.time))).setCell ⟨hb, to * 4 + 1, none⟩ (.int .i32 c.fr)).setCell ⟨hb, to * 4 + 2, none⟩ (.int .i32 c.to)).setCell ⟨hb, to * 4 + 3, none⟩ (.int .i32 c.tt)) ab n A :=
    h.ha.keep (by rw [setFar (Ne.symm d5), setFar (Ne.symm d5), setFar (Ne.symm d5), setFar (Ne.symm d5)])
  exact e.set htn true
/-- Behind an offer. -/
theorem LInv.after {m' : Nat} {V' : Nat → Ev} {T' : Nat → Int} {H' : Nat → Ev} {A' : Nat → Bool} (h : LInv base w qb sb hb ab n m V T H A) (hq : WholeS base w2 qb sb n m' V' T') (he : EvRow w' hb n n H') (ha : BoRow w' ab n A') (hf : Frb base [qb, sb] w' w2)
    (vw : ∀ v, v < n → view V' T' v = if A' v then some (H' v) else none) (ct : cnt A' n = m') : LInv base w2 qb sb hb ab n m' V' T' H' A' := by
  obtain ⟨d1, d2, d3, d4, d5⟩ := h.d
  exact ⟨hq, he.keep (hf.block hb h.l1 (by simp [d1, d2])), ha.keep (hf.block ab h.l2 (by simp [d3, d4])), vw, ct, h.l1, h.l2, h.d, h.n1⟩
theorem upd_true {A : Nat → Bool} {to : Nat} (h : A to = true) : upd A to true = A := by
  funext v
  by_cases e : v = to
  · rw [e, upd_same, h]
  · rw [upd_ne _ _ e]
/-- What the law holds, once c is its node's. -/
theorem vw_store (h : LInv base w qb sb hb ab n m V T H A) {c : Ev} {to : Nat} {V' : Nat → Ev} {T' : Nat → Int} (hv : ∀ v, v < n → view V' T' v = if v = to then some c else view V T v) :
    ∀ v, v < n → view V' T' v = if upd A to true v then some (upd H to c v) else none := by
  intro v hvn
  rw [hv v hvn]
  by_cases e : v = to
  · rw [if_pos e, e, upd_same, upd_same]; rfl
  · rw [if_neg e, upd_ne _ _ e, upd_ne _ _ e]; exact h.vw v hvn
end
end Go.Proofs.Ybulkcwas
