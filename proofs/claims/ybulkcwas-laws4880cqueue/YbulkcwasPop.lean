import Derived.Test.YbulkcwasDown
import Derived.BigRegion
set_option linter.unusedSimpArgs false
set_option linter.unusedVariables false
namespace Go.Proofs.Ybulkcwas
open Go.RowKit

theorem Qm.far {w : World} {qb sb g n m cap b o : Nat} {V : Nat → Ev} {T : Nat → Int} {x : Value} (h : Qm w qb sb g n m cap V T) (h1 : b ≠ qb) (h2 : b ≠ g) (h3 : b ≠ sb) : Qm (w.setCell ⟨b, o, none⟩ x) qb sb g n m cap V T :=
  ⟨(setFar (Ne.symm h1)).trans h.hq, h.he.keep (setFar (Ne.symm h2)), h.hs.keep (setFar (Ne.symm h3)), h.d1, h.d2, h.d3, h.n16, h.m16⟩
theorem drewH {x : World} {i : Nat} {o : Obj} (h : x.heap[i]? = some o) : x.drew.heap[i]? = some o := h

/-- The last copy is put at the root, the root's slot emptied. -/
theorem pop_plain {n m1 to : Nat} {V : Nat → Ev} {T : Nat → Int} (hg : Good n (m1 + 1) V T) (hh : Heap (m1 + 1) V) (hb : ∀ j, j < m1 + 1 → Bnd (V j)) (hto : (V 0).to = to) (h0 : 0 < m1) :
    Good n m1 (upd V 0 (V m1)) (upd (upd T to (-1)) (V m1).to.toNat 0) ∧ DownInv m1 0 (upd V 0 (V m1)) ∧ (∀ j, j < m1 → Bnd (upd V 0 (V m1) j)) ∧
    ∀ v, v < n → view (upd V 0 (V m1)) (upd (upd T to (-1)) (V m1).to.toNat 0) v = if v = to then none else view V T v := by
  have a0 := hg.at1 0 (by omega)
  have a1 := hg.at1 m1 (by omega)
  have hd : (V m1).to.toNat ≠ to := fun e => by
    have := hg.inj (i := m1) (j := 0) (by omega) (by omega) (by omega)
    omega
  have ht0 : T to = 0 := by have := a0.2.2; rw [hto] at this; simpa using this
  refine ⟨⟨fun j hj => ?_, fun v hv => ?_⟩, ⟨fun j j0 jm jp => ?_, fun j _ _ _ h => absurd h (Nat.lt_irrefl 0)⟩, fun j hj => ?_, fun v hv => ?_⟩
  · by_cases e : j = 0
    · subst e; rw [upd_same]; exact ⟨a1.1, a1.2.1, by rw [upd_same]; rfl⟩
    · rw [upd_ne _ _ e]
      have a := hg.at1 j (by omega)
      have d1 : (V j).to.toNat ≠ (V m1).to.toNat := fun e' => by have := hg.inj (i := j) (j := m1) (by omega) (by omega) (by omega); omega
      have d2 : (V j).to.toNat ≠ to := fun e' => by have := hg.inj (i := j) (j := 0) (by omega) (by omega) (by omega); omega
      exact ⟨a.1, a.2.1, by rw [upd_ne _ _ d1, upd_ne _ _ d2]; exact a.2.2⟩
  · by_cases e : v = (V m1).to.toNat
    · rw [e, upd_same]; exact .inr ⟨0, h0, rfl, by rw [upd_same]; omega⟩
    · rw [upd_ne _ _ e]
      by_cases e2 : v = to
      · rw [e2, upd_same]; exact .inl rfl
      · rw [upd_ne _ _ e2]
        rcases hg.at2 v hv with h1 | ⟨j, hj, h1, h2⟩
        · exact .inl h1
        · have j0 : j ≠ 0 := by rintro rfl; omega
          have j1 : j ≠ m1 := by rintro rfl; omega
          exact .inr ⟨j, by omega, h1, by rw [upd_ne _ _ j0]; exact h2⟩
  · rw [upd_ne _ _ (by omega), upd_ne _ _ jp]; exact hh j j0 (by omega)
  · by_cases e : j = 0
    · subst e; rw [upd_same]; exact hb m1 (by omega)
    · rw [upd_ne _ _ e]; exact hb j (by omega)
  · unfold view
    by_cases e : v = (V m1).to.toNat
    · rw [e, upd_same, if_neg hd, a1.2.2, if_neg (by omega), if_neg (by omega)]; simp [upd_same]
    · rw [upd_ne _ _ e]
      by_cases e2 : v = to
      · rw [e2, upd_same, if_pos rfl]; rfl
      · rw [upd_ne _ _ e2, if_neg e2]
        rcases hg.at2 v hv with h1 | ⟨j, hj, h1, h2⟩
        · simp [h1]
        · have j0 : j ≠ 0 := by rintro rfl; omega
          simp [h1, upd_ne _ _ j0]
theorem pop_plain0 {n to : Nat} {V : Nat → Ev} {T : Nat → Int} (hg : Good n 1 V T) (hto : (V 0).to = to) :
    Good n 0 V (upd T to (-1)) ∧ ∀ v, v < n → view V (upd T to (-1)) v = if v = to then none else view V T v := by
  refine ⟨⟨fun j hj => absurd hj (Nat.not_lt_zero _), fun v hv => ?_⟩, fun v hv => ?_⟩
  · by_cases e2 : v = to
    · rw [e2, upd_same]; exact .inl rfl
    · rw [upd_ne _ _ e2]
      rcases hg.at2 v hv with h1 | ⟨j, hj, h1, h2⟩
      · exact .inl h1
      · exfalso
        have : j = 0 := by omega
        subst this
        omega
  · unfold view
    by_cases e2 : v = to
    · rw [e2, upd_same, if_pos rfl]; rfl
    · rw [upd_ne _ _ e2, if_neg e2]

set_option maxRecDepth 100000 in
set_option maxHeartbeats 2000000 in
theorem pop_any (qb sb g n m cap : Nat) (V : Nat → Ev) (T : Nat → Int) (w : World) (h : Whole w qb sb g n m cap V T) (hm : 0 < m) :
    Calls Yba.prog 10 #[.pointer (some ⟨qb, 0, none⟩)] w fun r w' => r = .returned (.agg #[.float .f64 (fl (V 0).time), .int .i32 (V 0).fr, .int .i32 (V 0).to, .int .i32 (V 0).tt]) ∧ ∃ V' T', Whole w' qb sb g n (m - 1) cap V' T' ∧ (∀ v, v < n → view V' T' v = if v = (V 0).to.toNat then none else view V T v) ∧ Fr [qb, g, sb] w w' := by
  have hq := h.q
  have a0 := h.good.at1 0 hm
  obtain ⟨to, hto⟩ : ∃ to : Nat, (V 0).to = to := ⟨(V 0).to.toNat, by omega⟩
  have htn : to < n := by omega
  have HTO : Hid ((V 0).to = to) := ⟨hto⟩
  obtain ⟨m1, hm1⟩ : ∃ m1 : Nat, m = m1 + 1 := ⟨m - 1, by omega⟩
  subst hm1
  have n16 := hq.n16
  have m16 := hq.m16
  have hq0 : w.cell? ⟨qb, 0, none⟩ = some (.slice (some ⟨g, 0, none⟩) (m1 + 1) cap) := cellOf hq.hq
  have hq1 : w.cell? ⟨qb, 1, none⟩ = some (.slice (some ⟨sb, 0, none⟩) n n) := cellOf hq.hq
  have l1 := sizeOf_block hq.hq
  have l2 := hq.he.lt
  have l3 := hq.hs.lt
  obtain ⟨h0, h1, h2, h3⟩ := hq.he.cell (j := 0) (by omega)
  rw [hto] at h2
  simp only [Nat.zero_mul, Nat.zero_add] at h0 h1 h2 h3
  have s0 := hq.hs.cell htn
  have sz := hq.hs.frozen to
  have d1 := hq.d1
  have d2 := hq.d2
  have d3 := hq.d3
  clear hto a0
  go_enter Yba.func10, Yba.ntmps10
  go_wp2
  go_region
  have hs1 := hq.hs.set htn (-1)
  have hQ1 : Qm (w.setCell ⟨sb, to, none⟩ (.int .i32 (-1))) qb sb g n (m1 + 1) cap V (upd T to (-1)) :=
    ⟨by rw [setFar d2]; exact hq.hq, hq.he.keep (setFar d3), hs1, d1, d2, d3, n16, m16⟩
  have hF1 : Fr [qb, g, sb] w (w.setCell ⟨sb, to, none⟩ (.int .i32 (-1))) := Fr.set (Fr.refl _ _) (.inl (by simp))
  have hsz : (w.setCell ⟨sb, to, none⟩ (.int .i32 (-1))).heap.size = w.heap.size := by simp [World.setCell]
  generalize hW1 : w.setCell ⟨sb, to, none⟩ (.int .i32 (-1)) = W1 at hs1 hQ1 hF1 hsz ⊢
  rw [← hsz]
  have hR := newBlock W1 (.cells #[.float .f64 0, .int .i32 0, .int .i32 0, .int .i32 0] 36)
  have hT := newBlock (W1.alloc (.cells #[.float .f64 0, .int .i32 0, .int .i32 0, .int .i32 0] 36)) (.cells #[.float .f64 (fl (V 0).time), .int .i32 (V 0).fr, .int .i32 to, .int .i32 (V 0).tt] 36)
  have hR2 := keepB hR (belowAlloc _ (.cells #[.float .f64 (fl (V 0).time), .int .i32 (V 0).fr, .int .i32 to, .int .i32 (V 0).tt] 36))
  have hS2 : Since W1 _ := Since.drew (Since.of (belowAlloc W1 (.cells #[.float .f64 0, .int .i32 0, .int .i32 0, .int .i32 0] 36)) |>.alloc (o := (.cells #[.float .f64 (fl (V 0).time), .int .i32 (V 0).fr, .int .i32 to, .int .i32 (V 0).tt] 36)))
  have hsz2 : (W1.alloc (.cells #[.float .f64 0, .int .i32 0, .int .i32 0, .int .i32 0] 36)).heap.size = W1.heap.size + 1 := by simp
  rw [hsz2] at hT
  obtain ⟨rb, hrb⟩ : ∃ rb, rb = W1.heap.size := ⟨_, rfl⟩
  obtain ⟨tb, htb⟩ : ∃ tb, tb = W1.heap.size + 1 := ⟨_, rfl⟩
  rw [← htb] at hT ⊢
  rw [← hrb] at hR2 ⊢
  have k1 : rb ≠ tb := by omega
  have k2 : rb ≠ qb ∧ rb ≠ g ∧ rb ≠ sb ∧ tb ≠ qb ∧ tb ≠ g ∧ tb ≠ sb := by omega
  have HRB : Hid (rb = w.heap.size) := ⟨by omega⟩
  have HTB : Hid (tb = w.heap.size + 1) := ⟨by omega⟩
  have hR3 := drewH hR2
  have hT3 := drewH hT
  have hQ2 := hQ1.since hS2
  have hF2 : Fr [qb, g, sb] w _ := hF1.trans (Fr.since hS2)
  generalize hW2 : World.drew _ = W2 at hR3 hT3 hQ2 hF2 ⊢
  clear hW2 hW1 hS2 hsz hsz2 hR hT hR2 hrb htb hQ1 hF1 hs1 hq0 hq1 l1 l2 l3 h0 h1 h2 h3 s0 sz
  have hq0 : W2.cell? ⟨qb, 0, none⟩ = some (.slice (some ⟨g, 0, none⟩) (m1 + 1) cap) := cellOf hQ2.hq
  have hz0 := frozenOf (o := 0) hQ2.hq
  have l1 := sizeOf_block hQ2.hq
  have l2 := hQ2.he.lt
  obtain ⟨h0, h1, h2, h3⟩ := hQ2.he.cell (j := m1) (by omega)
  have hmc := hQ2.he.mc
  have hmc2 : (m1 : Int) ≤ (cap : Int) := by omega
  have hwr : IntKind.i64.wrap (m1 : Int) = m1 := by simp [IntKind.wrap, IntKind.signed, IntKind.bits]; omega
  go_wp2
  go_region
  have hS3 := Since.drew (Since.of (belowAlloc W2 (.cells #[.float .f64 (fl (V m1).time), .int .i32 (V m1).fr, .int .i32 (V m1).to, .int .i32 (V m1).tt] 36)))
  have hL := drewH (newBlock W2 (.cells #[.float .f64 (fl (V m1).time), .int .i32 (V m1).fr, .int .i32 (V m1).to, .int .i32 (V m1).tt] 36))
  have hQ3 := hQ2.since hS3
  have hF3 : Fr [qb, g, sb] w _ := hF2.trans (Fr.since hS3)
  have hR4 := hS3.keep hR3
  have hT4 := hS3.keep hT3
  obtain ⟨lb, hlb⟩ : ∃ lb, lb = W2.heap.size := ⟨_, rfl⟩
  rw [← hlb] at hL ⊢
  have k3 : lb ≠ qb ∧ lb ≠ g ∧ lb ≠ sb ∧ lb ≠ rb ∧ lb ≠ tb := by
    have h1 := sizeOf_block hR3
    have h2 := sizeOf_block hT3
    have h3 := hQ2.hs.lt
    omega
  generalize hW3 : World.drew _ = W3 at hL hQ3 hF3 hR4 hT4 ⊢
  clear hW3 hS3 hlb hQ2 hF2 hR3 hT3 hq0 hz0 l1 l2 h0 h1 h2 h3
  have hq0 : W3.cell? ⟨qb, 0, none⟩ = some (.slice (some ⟨g, 0, none⟩) (m1 + 1) cap) := cellOf hQ3.hq
  have hz0 := frozenOf (o := 0) hQ3.hq
  have l1 := sizeOf_block hQ3.hq
  go_wp2
  go_region
  have hQ4 : Qm (W3.setCell ⟨qb, 0, none⟩ (.slice (some ⟨g, 0, none⟩) m1 cap)) qb sb g n m1 cap V (upd T to (-1)) :=
    ⟨setOf hQ3.hq, (hQ3.he.shrink (by omega)).keep (setFar (Ne.symm d1)), hQ3.hs.keep (setFar (Ne.symm d2)), d1, d2, d3, n16, by omega⟩
  have hF4 : Fr [qb, g, sb] w (W3.setCell ⟨qb, 0, none⟩ (.slice (some ⟨g, 0, none⟩) m1 cap)) := hF3.trans (Fr.set (Fr.refl _ _) (.inl (by simp)))
  have hR5 : (W3.setCell ⟨qb, 0, none⟩ (.slice (some ⟨g, 0, none⟩) m1 cap)).heap[rb]? = _ := (setFar k2.1).trans hR4
  have hT5 : (W3.setCell ⟨qb, 0, none⟩ (.slice (some ⟨g, 0, none⟩) m1 cap)).heap[tb]? = _ := (setFar k2.2.2.2.1).trans hT4
  have hL5 : (W3.setCell ⟨qb, 0, none⟩ (.slice (some ⟨g, 0, none⟩) m1 cap)).heap[lb]? = _ := (setFar k3.1).trans hL
  replace hQ4 := hQ4.since Since.dr
  replace hF4 := hF4.drew
  replace hR5 := drewH hR5
  replace hT5 := drewH hT5
  replace hL5 := drewH hL5
  generalize hW4 : World.drew _ = W4 at hQ4 hF4 hR5 hT5 hL5 ⊢
  clear hW4 hQ3 hF3 hR4 hT4 hL hq0 hz0 l1 hwr hmc2
  have hq0 : W4.cell? ⟨qb, 0, none⟩ = some (.slice (some ⟨g, 0, none⟩) m1 cap) := cellOf hQ4.hq
  have l1 := sizeOf_block hQ4.hq
  have hgood := h.good
  have hheap := h.heap
  have hbnd := h.bnd
  rcases Nat.eq_zero_or_pos m1 with hz | h0
  · subst hz
    have u0 : W4.cell? ⟨tb, 0, none⟩ = some (.float .f64 (fl (V 0).time)) := cellOf hT5
    have u1 : W4.cell? ⟨tb, 1, none⟩ = some (.int .i32 (V 0).fr) := cellOf hT5
    have u2 : W4.cell? ⟨tb, 2, none⟩ = some (.int .i32 to) := cellOf hT5
    have u3 : W4.cell? ⟨tb, 3, none⟩ = some (.int .i32 (V 0).tt) := cellOf hT5
    have x0 : W4.cell? ⟨rb, 0, none⟩ = some (.float .f64 0) := cellOf hR5
    have x1 : W4.cell? ⟨rb, 1, none⟩ = some (.int .i32 0) := cellOf hR5
    have x2 : W4.cell? ⟨rb, 2, none⟩ = some (.int .i32 0) := cellOf hR5
    have x3 : W4.cell? ⟨rb, 3, none⟩ = some (.int .i32 0) := cellOf hR5
    have y0 := frozenOf (o := 0) hR5
    have y1 := frozenOf (o := 1) hR5
    have y2 := frozenOf (o := 2) hR5
    have y3 := frozenOf (o := 3) hR5
    have lr := sizeOf_block hR5
    have lt := sizeOf_block hT5
    go_wp2
    have hQz := hQ4
    have hFz := hF4
    have hpp := pop_plain0 hgood HTO.out
    have e1 : (V 0).to.toNat = to := by have := HTO.out; omega
    rw [e1]
    exact bodyPost_ret (v := .agg #[.float .f64 (fl (V 0).time), .int .i32 (V 0).fr, .int .i32 to, .int .i32 (V 0).tt]) (by simp [results, Yba.results10, go_sem, x0, x1, x2, x3, lr]) rfl ⟨by rw [HTO.out], V, upd T to (-1), ⟨(((hQz.far k2.1 k2.2.1 k2.2.2.1).far k2.1 k2.2.1 k2.2.2.1).far k2.1 k2.2.1 k2.2.2.1).far k2.1 k2.2.1 k2.2.2.1, hpp.1, fun j j0 jm => absurd jm (Nat.not_lt_zero _), fun j jm => absurd jm (Nat.not_lt_zero _)⟩, hpp.2, Fr.set (Fr.set (Fr.set (Fr.set hFz (.inr (by rw [HRB.out]; exact Nat.le_refl _))) (.inr (by rw [HRB.out]; exact Nat.le_refl _))) (.inr (by rw [HRB.out]; exact Nat.le_refl _))) (.inr (by rw [HRB.out]; exact Nat.le_refl _))⟩
  · have hpp := pop_plain hgood hheap hbnd HTO.out h0
    have hat := hgood.at1 m1 (by omega)
    have hat0 := hat.1
    have hat1 := hat.2.1
    have v0 : W4.cell? ⟨lb, 0, none⟩ = some (.float .f64 (fl (V m1).time)) := cellOf hL5
    have v1 : W4.cell? ⟨lb, 1, none⟩ = some (.int .i32 (V m1).fr) := cellOf hL5
    have v2 : W4.cell? ⟨lb, 2, none⟩ = some (.int .i32 (V m1).to) := cellOf hL5
    have v3 : W4.cell? ⟨lb, 3, none⟩ = some (.int .i32 (V m1).tt) := cellOf hL5
    go_wp2_with fail
    refine (down_any qb sb g n m1 cap 0 (V m1) V (upd T to (-1)) _ hQ4 h0 hat0 hat1 hpp.2.2.1 hpp.1 hpp.2.1).mono ?_
    rintro r w5 ⟨rfl, V', T', hwh, hvw, hF5⟩
    have hT6 := hF5.keep hT5 (by simp [k2])
    have hR6 := hF5.keep hR5 (by simp [k2])
    have hFz : Fr [qb, g, sb] w w5 := hF4.trans (hF5.mono (by simp))
    clear hT5 hR5 hL5 v0 v1 v2 v3 hF5 hF4 hQ4 hq0 l1 hat
    have hT5 := hT6
    have hR5 := hR6
    have u0 : w5.cell? ⟨tb, 0, none⟩ = some (.float .f64 (fl (V 0).time)) := cellOf hT5
    have u1 : w5.cell? ⟨tb, 1, none⟩ = some (.int .i32 (V 0).fr) := cellOf hT5
    have u2 : w5.cell? ⟨tb, 2, none⟩ = some (.int .i32 to) := cellOf hT5
    have u3 : w5.cell? ⟨tb, 3, none⟩ = some (.int .i32 (V 0).tt) := cellOf hT5
    have x0 : w5.cell? ⟨rb, 0, none⟩ = some (.float .f64 0) := cellOf hR5
    have x1 : w5.cell? ⟨rb, 1, none⟩ = some (.int .i32 0) := cellOf hR5
    have x2 : w5.cell? ⟨rb, 2, none⟩ = some (.int .i32 0) := cellOf hR5
    have x3 : w5.cell? ⟨rb, 3, none⟩ = some (.int .i32 0) := cellOf hR5
    have y0 := frozenOf (o := 0) hR5
    have y1 := frozenOf (o := 1) hR5
    have y2 := frozenOf (o := 2) hR5
    have y3 := frozenOf (o := 3) hR5
    have lr := sizeOf_block hR5
    have lt := sizeOf_block hT5
    have hQz := hwh.q
    have HE1 : Hid ((V 0).to.toNat = to) := ⟨by have := HTO.out; omega⟩
    go_wp2
    rw [HE1.out]
    exact bodyPost_ret (v := .agg #[.float .f64 (fl (V 0).time), .int .i32 (V 0).fr, .int .i32 to, .int .i32 (V 0).tt]) (by simp [results, Yba.results10, go_sem, x0, x1, x2, x3, lr]) rfl ⟨by rw [HTO.out], V', T', ⟨(((hQz.far k2.1 k2.2.1 k2.2.2.1).far k2.1 k2.2.1 k2.2.2.1).far k2.1 k2.2.1 k2.2.2.1).far k2.1 k2.2.1 k2.2.2.1, hwh.good, hwh.heap, hwh.bnd⟩, fun v hv => (hvw v hv).trans (hpp.2.2.2 v hv), Fr.set (Fr.set (Fr.set (Fr.set hFz (.inr (by rw [HRB.out]; exact Nat.le_refl _))) (.inr (by rw [HRB.out]; exact Nat.le_refl _))) (.inr (by rw [HRB.out]; exact Nat.le_refl _))) (.inr (by rw [HRB.out]; exact Nat.le_refl _))⟩
end Go.Proofs.Ybulkcwas
