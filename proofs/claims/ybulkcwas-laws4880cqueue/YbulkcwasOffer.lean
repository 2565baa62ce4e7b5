import Derived.Test.YbulkcwasQs
set_option linter.unusedSimpArgs false
set_option linter.unusedVariables false
namespace Go.Proofs.Ybulkcwas
open Go.RowKit

structure WholeS (base : Nat) (w : World) (qb sb n m : Nat) (V : Nat → Ev) (T : Nat → Int) : Prop where
  q : Qs base w qb sb n m V T
  good : Good n m V T
  heap : Heap m V
  bnd : ∀ j, j < m → Bnd (V j)

def HvOf (base : Nat) (w : World) (hv : Value) (m : Nat) (gl : List Nat) (V : Nat → Ev) : Prop :=
  (hv = .slice none 0 0 ∧ m = 0 ∧ gl = []) ∨ ∃ g cap, hv = .slice (some ⟨g, 0, none⟩) m cap ∧ gl = [g] ∧ base ≤ g ∧ EvRow w g m cap V
theorem HvOf.since {base : Nat} {w w' : World} {hv : Value} {m : Nat} {gl : List Nat} {V : Nat → Ev} (h : HvOf base w hv m gl V) (hs : Since w w') : HvOf base w' hv m gl V := by
  rcases h with h | ⟨g, cap, h1, h2, h3, h4⟩
  · exact .inl h
  · exact .inr ⟨g, cap, h1, h2, h3, h4.since hs⟩
theorem Qs.hv {base : Nat} {w : World} {qb sb n m : Nat} {V : Nat → Ev} {T : Nat → Int} (h : Qs base w qb sb n m V T) :
    ∃ a ca gl, w.heap[qb]? = some (.cells #[.slice a m ca, .slice (some ⟨sb, 0, none⟩) n n] 26) ∧ HvOf base w (.slice a m ca) m gl V ∧ ∀ i ∈ gl, base ≤ i ∧ i < w.heap.size := by
  rcases h.ex with ⟨h0, h1⟩ | ⟨g, cap, h1, h2, h3⟩
  · subst h0; exact ⟨_, _, [], h1, .inl ⟨rfl, rfl, rfl⟩, by simp⟩
  · exact ⟨_, _, [g], h2, .inr ⟨g, cap, rfl, rfl, h1, h3⟩, by simp; exact ⟨h1, h3.lt⟩⟩

set_option maxRecDepth 100000 in
set_option maxHeartbeats 4000000 in
theorem offer_new (base qb sb n m : Nat) (c : Ev) (V : Nat → Ev) (T : Nat → Int) (w : World) (h : WholeS base w qb sb n m V T) (c0 : 0 ≤ c.to) (c1 : c.to < n) (hbc : Bnd c) (hm : m ≤ 15) (hT : T c.to.toNat = -1) :
    Calls Yba.prog 7 #[.pointer (some ⟨qb, 0, none⟩), .agg #[.float .f64 (fl c.time), .int .i32 c.fr, .int .i32 c.to, .int .i32 c.tt]] w fun r w' => r = .returned (.tuple #[]) ∧ ∃ V' T', WholeS base w' qb sb n (m + 1) V' T' ∧ (∀ v, v < n → view V' T' v = if v = c.to.toNat then some c else view V T v) ∧ Frb base [qb, sb] w w' := by
  obtain ⟨to, hto⟩ : ∃ to : Nat, c.to = to := ⟨c.to.toNat, by omega⟩
  have htn : to < n := by omega
  have HTO : Hid (c.to = to) := ⟨hto⟩
  have HC : Hid (0 ≤ c.to ∧ c.to < n) := ⟨c0, c1⟩
  have e1 : c.to.toNat = to := by omega
  have HE1 : Hid (c.to.toNat = to) := ⟨e1⟩
  rw [e1] at hT
  rw [e1, hto]
  obtain ⟨a, ca, gl, hq, hhv, hgl⟩ := h.q.hv
  have lq := h.q.lq
  have ls := h.q.ls
  have lb := h.q.lb
  have ne := h.q.ne
  have n16 := h.q.n16
  have hq0 : w.cell? ⟨qb, 0, none⟩ = some (.slice a m ca) := cellOf hq
  have hq1 : w.cell? ⟨qb, 1, none⟩ = some (.slice (some ⟨sb, 0, none⟩) n n) := cellOf hq
  have l1 := sizeOf_block hq
  have l3 := h.q.hs.lt
  have s0 := h.q.hs.cell htn
  rw [hT] at s0
  clear hto e1 c0 c1
  go_enter Yba.func7, Yba.ntmps7
  go_wp2
  go_quiet (fail)
  have hS : Since w ((w.alloc (.cells #[.float .f64 (fl c.time), .int .i32 c.fr, .int .i32 to, .int .i32 c.tt] 36)).drewN nq) := Since.drewN (Since.of (belowAlloc _ _)) _
  have hB : ((w.alloc (.cells #[.float .f64 (fl c.time), .int .i32 c.fr, .int .i32 to, .int .i32 c.tt] 36)).drewN nq).heap[w.heap.size]? = _ := newBlock w _
  obtain ⟨bx, hbx⟩ : ∃ bx, bx = w.heap.size := ⟨_, rfl⟩
  rw [← hbx] at hB ⊢
  have hbg : bx ∉ gl := fun e => by have := hgl bx e; omega
  have hbb : base ≤ bx := by omega
  generalize hW : World.drewN _ nq = W at hS hB ⊢
  clear hW hbx hq0 hq1 s0 l1 l3
  have hqW := hS.keep hq
  have hhW := hhv.since hS
  have hq0 : W.cell? ⟨qb, 0, none⟩ = some (.slice a m ca) := cellOf hqW
  have hz0 := frozenOf (o := 0) hqW
  have u0 : W.cell? ⟨bx, 0, none⟩ = some (.float .f64 (fl c.time)) := cellOf hB
  have u1 : W.cell? ⟨bx, 1, none⟩ = some (.int .i32 c.fr) := cellOf hB
  have u2 : W.cell? ⟨bx, 2, none⟩ = some (.int .i32 to) := cellOf hB
  have u3 : W.cell? ⟨bx, 3, none⟩ = some (.int .i32 c.tt) := cellOf hB
  have l1 := sizeOf_block hqW
  have l2 := sizeOf_block hB
  have hbW : base ≤ W.heap.size := Nat.le_trans lb hS.size
  have hgq : qb ∉ gl := fun e => by have := hgl qb e; omega
  have hgs : sb ∉ gl := fun e => by have := hgl sb e; omega
  have hsW := h.q.hs.since hS
  clear hhv hq
  go_wp2
  go_region_law (refine stepApp base _ (by rfl) _ _ (by rfl) m (.slice a m ca) V c gl (by rfl) (hhW.since (by first | exact Since.alloc Since.dr | exact Since.drew (Since.of (belowAlloc _ _)))) W.heap.size (by rfl) (by go_simp) (by go_simp) (by rw [HTO.out]; go_simp) (by go_simp) hm (Nat.le_trans hbW (Since.size (by first | exact Since.alloc Since.dr | exact Since.drew (Since.of (belowAlloc _ _))))) ?_; intro g cap w3 hg he hfr hgn; have hfw : Fr gl W w3 := Fr.trans (Fr.since (by first | exact Since.alloc Since.dr | exact Since.drew (Since.of (belowAlloc _ _)))) hfr; have hgb : g ≠ bx := (by rcases hgn with e | e; exact fun e' => hbg (e' ▸ e); exact fun e' => absurd (Nat.lt_of_lt_of_le l2 (Since.size (by first | exact Since.alloc Since.dr | exact Since.drew (Since.of (belowAlloc _ _))))) (Nat.not_lt.2 (e' ▸ e))); clear hgn hfr; have hq3 := hfw.keep hqW hgq; have hB3 := hfw.keep hB hbg; have hc3 := cellOf (o := 0) hq3; have hz3 := frozenOf (o := 0) hq3; simp at hc3)
  all_goals
    have hne : qb ≠ g := by omega
    have hQ4 : Qm (w3.setCell ⟨qb, 0, none⟩ (.slice (some ⟨g, 0, none⟩) (m + 1) cap)) qb sb g n (m + 1) cap (upd V m c) T :=
      ⟨setOf hq3, he.keep (setFar (Ne.symm hne)), (hsW.fr hfw hgs).keep (setFar (Ne.symm ne)), hne, ne, by omega, n16, by omega⟩
    have hB4 : (w3.setCell ⟨qb, 0, none⟩ (.slice (some ⟨g, 0, none⟩) (m + 1) cap)).heap[bx]? = _ := (setFar (by omega)).trans hB3
    have hF4 : Frb base [qb, sb] w (w3.setCell ⟨qb, 0, none⟩ (.slice (some ⟨g, 0, none⟩) (m + 1) cap)) :=
      (Frb.since hS lb).trans ((Frb.of hfw hbW (fun i hi => .inr (hgl i hi).1)).trans (Frb.of (K' := [qb]) (Fr.set (Fr.refl _ _) (.inl (by simp))) (Nat.le_trans hbW hfw.size) (by simp)))
    have hl4 : base ≤ (w3.setCell ⟨qb, 0, none⟩ (.slice (some ⟨g, 0, none⟩) (m + 1) cap)).heap.size := by
      have := hfw.size
      simp [World.setCell]
      omega
    generalize hW4 : w3.setCell ⟨qb, 0, none⟩ (.slice (some ⟨g, 0, none⟩) (m + 1) cap) = W4 at hQ4 hB4 hF4 hl4 ⊢
    clear hW4 hq3 hB3 hc3 hz3 he hfw hqW hB hhW hq0 hz0 u0 u1 u2 u3 l1 l2 hsW
    obtain ⟨p1, p2, p3, p4⟩ := new_plain h.good h.heap h.bnd hbc HTO.out htn hT
    have p1' : Good n (m + 1) (upd (upd V m c) m c) (upd T c.to.toNat m) := by rw [upd_idem, HE1.out]; exact p1
    have p2' : UpInv (m + 1) m (upd (upd V m c) m c) := by rw [upd_idem]; exact p2
    have p3' : ∀ j, j < m + 1 → Bnd (upd (upd V m c) m c j) := by rw [upd_idem]; exact p3
    have q0 : ∀ w', Fr [g, sb] W4 w' → w'.cell? ⟨qb, 0, none⟩ = some (.slice (some ⟨g, 0, none⟩) (m + 1) cap) := fun w' hf => cellOf (hf.keep hQ4.hq (by simp [hne, ne]))
    have hbs : bx ≠ sb := by omega
    have b0 : ∀ w', Fr [g, sb] W4 w' → w'.cell? ⟨bx, 0, none⟩ = some (.float .f64 (fl c.time)) := fun w' hf => cellOf (hf.keep hB4 (by simp [hbs, Ne.symm hgb]))
    have b1 : ∀ w', Fr [g, sb] W4 w' → w'.cell? ⟨bx, 1, none⟩ = some (.int .i32 c.fr) := fun w' hf => cellOf (hf.keep hB4 (by simp [hbs, Ne.symm hgb]))
    have b2 : ∀ w', Fr [g, sb] W4 w' → w'.cell? ⟨bx, 2, none⟩ = some (.int .i32 to) := fun w' hf => cellOf (hf.keep hB4 (by simp [hbs, Ne.symm hgb]))
    have b3 : ∀ w', Fr [g, sb] W4 w' → w'.cell? ⟨bx, 3, none⟩ = some (.int .i32 c.tt) := fun w' hf => cellOf (hf.keep hB4 (by simp [hbs, Ne.symm hgb]))
    have HP4 : Hid (∀ v, v < n → view (upd V m c) (upd T to m) v = if v = to then some c else view V T v) := ⟨p4⟩
    clear p1 p2 p3 p4
    have hwr : IntKind.i64.wrap (m : Int) = m := by simp [IntKind.wrap, IntKind.signed, IntKind.bits]; omega
    go_wp2
    go_region_held3 (fun w'' => Fr [g, sb] W4 w'') (first | exact Fr.since Since.dr | exact Fr.trans (Fr.since Since.dr) hF5) (first | (go_at_call 11; rw [← HTO.out]; refine (up_any qb sb g n (m + 1) cap m c (upd V m c) T _ (hQ4.since Since.dr) (by omega) HC.out.1 HC.out.2 p3' p1' p2').mono ?_; rintro r5 w5 ⟨rfl, V', T', hwh, hvw, hF5⟩))
    go_wp2
    go_end0
    have hl5 : base ≤ w5.heap.size := by have := hF5.size; simp at this; omega
    refine ⟨rfl, V', T', ⟨Qs.of hwh.q hg lq ls hl5, hwh.good, hwh.heap, hwh.bnd⟩, fun v hv => ?_, hF4.trans (Frb.of (Fr.trans (Fr.since Since.dr) hF5) hl4 (fun i hi => by simp at hi; rcases hi with rfl | rfl <;> simp [hg]))⟩
    rw [hvw v hv, upd_idem, HE1.out]
    exact HP4.out v hv
end Go.Proofs.Ybulkcwas
