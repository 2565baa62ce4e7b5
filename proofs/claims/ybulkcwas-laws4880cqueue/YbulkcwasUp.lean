import Derived.Test.YbulkcwasPlace
import Derived.Deep.RegionHeld3
set_option linter.unusedSimpArgs false
set_option linter.unusedVariables false
namespace Go.Proofs.Ybulkcwas
open Go.RowKit

theorem cells4 {w : World} {b : Nat} {c : Ev} (h : w.heap[b]? = some (.cells #[.float .f64 (fl c.time), .int .i32 c.fr, .int .i32 c.to, .int .i32 c.tt] 36)) :
    ∀ w', Since w w' → w'.cell? ⟨b, 0, none⟩ = some (.float .f64 (fl c.time)) ∧ w'.cell? ⟨b, 1, none⟩ = some (.int .i32 c.fr) ∧ w'.cell? ⟨b, 2, none⟩ = some (.int .i32 c.to) ∧ w'.cell? ⟨b, 3, none⟩ = some (.int .i32 c.tt) :=
  fun w' hs => ⟨cellOf (hs.keep h), cellOf (hs.keep h), cellOf (hs.keep h), cellOf (hs.keep h)⟩

/-- The queue stands whole, its heap in order. -/
structure Whole (w : World) (qb sb g n m cap : Nat) (V : Nat → Ev) (T : Nat → Int) : Prop where
  q : Qm w qb sb g n m cap V T
  good : Good n m V T
  heap : Heap m V
  bnd : ∀ j, j < m → Bnd (V j)

theorem upd_fold1 (V : Nat → Ev) {k p : Nat} (c : Ev) (h : p ≠ k) : upd (upd (upd V k c) k (upd V k c p)) p (upd V k c k) = upd (upd V k (V p)) p c := by
  funext j
  rw [upd_same, upd_ne _ _ h]
  by_cases e : j = p
  · subst e; rw [upd_same, upd_same]
  · rw [upd_ne _ _ e, upd_ne _ _ e]
    by_cases e2 : j = k
    · subst e2; rw [upd_same, upd_same]
    · rw [upd_ne _ _ e2, upd_ne _ _ e2, upd_ne _ _ e2]
theorem upd_fold2 (T : Nat → Int) (a b : Nat) (x y z : Int) : upd (upd (upd T a x) b y) a z = upd (upd T b y) a z := by
  funext j
  by_cases e : j = a
  · subst e; rw [upd_same, upd_same]
  · rw [upd_ne _ _ e, upd_ne _ _ e]
    by_cases e2 : j = b
    · subst e2; rw [upd_same, upd_same]
    · rw [upd_ne _ _ e2, upd_ne _ _ e2, upd_ne _ _ e]
/-- The copy at p is moved to the hole at k. -/
theorem move_step {n m k p to : Nat} {c : Ev} {V : Nat → Ev} {T : Nat → Int} (hg : Good n m (upd V k c) (upd T to k)) (hb : ∀ j, j < m → Bnd (upd V k c j)) (hk : k < m) (hp : p < m) (hne : p ≠ k) (hto : to = c.to.toNat) :
    Good n m (upd (upd V k (V p)) p c) (upd (upd T (V p).to.toNat k) to p) ∧ (∀ v, v < n → view (upd (upd V k (V p)) p c) (upd (upd T (V p).to.toNat k) to p) v = view (upd V k c) (upd T to k) v) ∧ ∀ j, j < m → Bnd (upd (upd V k (V p)) p c j) := by
  have h := hg.swap hk hp hne
  rw [upd_fold1 V c hne, upd_ne V c hne, upd_same, ← hto, upd_fold2] at h
  refine ⟨h.1, h.2, fun j hj => ?_⟩
  by_cases e : j = p
  · subst e; rw [upd_same]; have := hb k hk; rwa [upd_same] at this
  · rw [upd_ne _ _ e]
    by_cases e2 : j = k
    · subst e2; rw [upd_same]; have := hb p hp; rwa [upd_ne _ _ hne] at this
    · rw [upd_ne _ _ e2]; have := hb j hj; rwa [upd_ne _ _ e2] at this

set_option maxRecDepth 100000 in
set_option maxHeartbeats 1000000 in
theorem up_any (qb sb g n m cap i : Nat) (c : Ev) (V : Nat → Ev) (T : Nat → Int) (w : World) (h : Qm w qb sb g n m cap V T) (hi : i < m) (c0 : 0 ≤ c.to) (c1 : c.to < n)
    (hb : ∀ j, j < m → Bnd (upd V i c j)) (hg : Good n m (upd V i c) (upd T c.to.toNat i)) (hu : UpInv m i (upd V i c)) :
    Calls Yba.prog 11 #[.pointer (some ⟨qb, 0, none⟩), .int .i64 i, .agg #[.float .f64 (fl c.time), .int .i32 c.fr, .int .i32 c.to, .int .i32 c.tt]] w fun r w' => r = .returned (.tuple #[]) ∧ ∃ V' T', Whole w' qb sb g n m cap V' T' ∧ (∀ v, v < n → view V' T' v = view (upd V i c) (upd T c.to.toNat i) v) ∧ Fr [g, sb] w w' := by
  obtain ⟨to, hto⟩ : ∃ to : Nat, to = c.to.toNat := ⟨_, rfl⟩
  rw [← hto] at hg ⊢
  have HTO : Hid (to = c.to.toNat) := ⟨hto⟩
  have l1 := sizeOf_block h.hq
  have l2 := h.he.lt
  have l3 := h.hs.lt
  clear hto
  go_enter Yba.func11, Yba.ntmps11
  go_wp2
  have hB := newBlock w (.cells #[.float .f64 (fl c.time), .int .i32 c.fr, .int .i32 c.to, .int .i32 c.tt] 36)
  have hS := Since.of (belowAlloc w (.cells #[.float .f64 (fl c.time), .int .i32 c.fr, .int .i32 c.to, .int .i32 c.tt] 36))
  have hQ := h.since hS
  have hF : Fr [g, sb] w _ := Fr.since hS
  obtain ⟨bx, hbx⟩ : ∃ bx, bx = w.heap.size := ⟨_, rfl⟩
  rw [← hbx] at hB ⊢
  have b1 : bx ≠ g := by omega
  have b2 : bx ≠ sb := by omega
  generalize hW : w.alloc _ = W at hB hS hQ hF ⊢
  clear hW hS hbx l1 l2 l3 h
  go_loopw [1] (fun a wr => ∃ (k : Nat) (Vr : Nat → Ev) (Tr : Nat → Int), a = .int .i64 k ∧ k < m ∧ Qm wr qb sb g n m cap Vr Tr ∧ Good n m (upd Vr k c) (upd Tr to k) ∧ UpInv m k (upd Vr k c) ∧ (∀ v, v < n → view (upd Vr k c) (upd Tr to k) v = view (upd V i c) (upd T to i) v) ∧ (∀ j, j < m → Bnd (upd Vr k c j)) ∧ Fr [g, sb] w wr ∧ wr.heap[bx]? = some (.cells #[.float .f64 (fl c.time), .int .i32 c.fr, .int .i32 c.to, .int .i32 c.tt] 36)) (fun a _ => (intOf a).toNat)
  case atStart => exact ⟨i, V, T, rfl, hi, hQ, hg, hu, fun _ _ => rfl, hb, hF, hB⟩
  case round =>
    obtain ⟨k, Vr, Tr, rfl, hk, hQ, hg, hu, hv, hb, hF, hB⟩ := hrel
    have e0 := fun w' h => (cells4 hB w' h).1
    have e1 := fun w' h => (cells4 hB w' h).2.1
    have e2 := fun w' h => (cells4 hB w' h).2.2.1
    have e3 := fun w' h => (cells4 hB w' h).2.2.2
    have r0 := e0 _ (Since.refl _)
    have r1 := e1 _ (Since.refl _)
    have r2 := e2 _ (Since.refl _)
    have r3 := e3 _ (Since.refl _)
    rcases Nat.eq_zero_or_pos k with hk0 | h0
    · subst hk0
      clear e0 e1 e2 e3
      go_wp2_with fail
      refine (place_any qb sb g n m cap 0 c Vr Tr _ hQ hk c0 c1).mono ?_
      rintro r w2 ⟨rfl, hQ2, hF2⟩
      rw [← HTO.out] at hQ2
      go_wp2
      go_end0
      exact ⟨rfl, _, _, ⟨hQ2, hg, hu.done (fun h => absurd h (Nat.lt_irrefl 0)), hb⟩, hv, hF.trans hF2⟩
    · obtain ⟨p, hp⟩ : ∃ p, p = par k := ⟨_, rfl⟩
      have hpk : p < k := by rw [hp]; unfold par; omega
      have hpm : p < m := by omega
      have hdiv : ((k : Int) - 1) / 2 = (p : Int) := by rw [hp]; unfold par; omega
      have hne : p ≠ k := by omega
      have hvp : upd Vr k c p = Vr p := upd_ne _ _ hne
      have hbp : Bnd (Vr p) := by have := hb p hpm; rwa [hvp] at this
      have hbc : Bnd c := by have := hb k hk; rwa [upd_same] at this
      have q0 : ∀ w', Since wr w' → w'.cell? ⟨qb, 0, none⟩ = some (.slice (some ⟨g, 0, none⟩) m cap) := fun w' h => cellOf (h.keep hQ.hq)
      have p0 := fun w' h => ((hQ.he.since (w' := w') h).cell hpm).1
      have p1 := fun w' h => ((hQ.he.since (w' := w') h).cell hpm).2.1
      have p2 := fun w' h => ((hQ.he.since (w' := w') h).cell hpm).2.2.1
      have p3 := fun w' h => ((hQ.he.since (w' := w') h).cell hpm).2.2.2
      have m16 := hQ.m16
      have l1 := sizeOf_block hQ.hq
      have l2 := hQ.he.lt
      have HP : Hid (p = par k) := ⟨hp⟩
      have HV : Hid (upd Vr k c p = Vr p) := ⟨hvp⟩
      clear hp hvp
      obtain ⟨bb, HBB⟩ : ∃ bb, Hid (decide (c.lt (Vr p)) = bb) := ⟨_, ⟨rfl⟩⟩
      go_wp2
      go_region_held3 (fun w'' => Since wr w'') (first | exact Since.dr | exact Since.then hb1 (by assumption) | exact Since.drew (by assumption)) (first | (go_at_call 12; refine (before_any c (Vr p) hbc hbp _).mono ?_; rintro r1 w1 ⟨rfl, hb1⟩; rw [HBB.out]))
      have hS1 : Since wr w1 := by assumption
      have hQ1 := hQ.since hS1
      have r0 := e0 _ hS1
      have r1 := e1 _ hS1
      have r2 := e2 _ hS1
      have r3 := e3 _ hS1
      have t0 := p0 _ hS1
      have t1 := p1 _ hS1
      have t2 := p2 _ hS1
      have t3 := p3 _ hS1
      have q00 := q0 _ hS1
      have l1 := sizeOf_block hQ1.hq
      have l2 := hQ1.he.lt
      have hF1 : Fr [g, sb] w w1 := hF.trans (Fr.since hS1)
      have hB1 := hS1.keep hB
      clear e0 e1 e2 e3 p0 p1 p2 p3 q0 hb1 hB hQ hF
      cases bb
      case true =>
        have hlt : Hid (c.lt (Vr p)) := ⟨of_decide_eq_true HBB.out⟩
        have hat := hg.at1 p hpm
        rw [HV.out] at hat
        have hat0 := hat.1
        have hat1 := hat.2.1
        go_wp2_with fail
        refine (place_any qb sb g n m cap k (Vr p) Vr Tr _ hQ1 hk hat0 hat1).mono ?_
        rintro r w2 ⟨rfl, hQ2, hF2⟩
        have hms := move_step hg hb hk hpm hne HTO.out
        have hus := hu.step h0 hk (by rw [upd_same, ← HP.out, HV.out]; exact hlt.out)
        rw [← HP.out, upd_fold1 Vr c hne] at hus
        have hB2 := hF2.keep hB1 (by simp [b1, b2])
        clear hat hat0 hat1 t0 t1 t2 t3 r0 r1 r2 r3
        go_wp2
        go_roundw
        case rel => exact ⟨p, _, _, rfl, hpm, hQ2, hms.1, hus, fun v hv' => (hms.2.1 v hv').trans (hv v hv'), hms.2.2, hF1.trans hF2, hB2⟩
        case measure => simp [intOf]; omega
      case false =>
        have hlt : Hid (¬ c.lt (Vr p)) := ⟨of_decide_eq_false HBB.out⟩
        go_wp2_with fail
        refine (place_any qb sb g n m cap k c Vr Tr _ hQ1 hk c0 c1).mono ?_
        rintro r w2 ⟨rfl, hQ2, hF2⟩
        rw [← HTO.out] at hQ2
        go_wp2
        go_end0
        exact ⟨rfl, _, _, ⟨hQ2, hg, hu.done (fun _ => by rw [upd_same, ← HP.out, HV.out]; exact hlt.out), hb⟩, hv, hF1.trans hF2⟩
end Go.Proofs.Ybulkcwas
