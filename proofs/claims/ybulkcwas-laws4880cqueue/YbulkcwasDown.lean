import Derived.Test.YbulkcwasUp
import Derived.BigQuiet
set_option linter.unusedSimpArgs false
set_option linter.unusedVariables false
namespace Go.Proofs.Ybulkcwas
open Go.RowKit

theorem Since.drewN {x y : World} (h : Since x y) (n : Nat) : Since x (y.drewN n) := Since.of ⟨h.out.os, h.out.tape, h.out.output, h.out.size, h.out.block⟩

set_option maxRecDepth 100000 in
set_option maxHeartbeats 2000000 in
theorem down_any (qb sb g n m cap i : Nat) (c : Ev) (V : Nat → Ev) (T : Nat → Int) (w : World) (h : Qm w qb sb g n m cap V T) (hi : i < m) (c0 : 0 ≤ c.to) (c1 : c.to < n)
    (hb : ∀ j, j < m → Bnd (upd V i c j)) (hg : Good n m (upd V i c) (upd T c.to.toNat i)) (hu : DownInv m i (upd V i c)) :
    Calls Yba.prog 13 #[.pointer (some ⟨qb, 0, none⟩), .int .i64 i, .agg #[.float .f64 (fl c.time), .int .i32 c.fr, .int .i32 c.to, .int .i32 c.tt]] w fun r w' => r = .returned (.tuple #[]) ∧ ∃ V' T', Whole w' qb sb g n m cap V' T' ∧ (∀ v, v < n → view V' T' v = view (upd V i c) (upd T c.to.toNat i) v) ∧ Fr [g, sb] w w' := by
  obtain ⟨to, hto⟩ : ∃ to : Nat, to = c.to.toNat := ⟨_, rfl⟩
  rw [← hto] at hg ⊢
  have HTO : Hid (to = c.to.toNat) := ⟨hto⟩
  have l1 := sizeOf_block h.hq
  have l2 := h.he.lt
  have l3 := h.hs.lt
  clear hto
  go_enter Yba.func13, Yba.ntmps13
  go_wp2
  have hB := newBlock w (.cells #[.float .f64 (fl c.time), .int .i32 c.fr, .int .i32 c.to, .int .i32 c.tt] 36)
  have hS := Since.of (belowAlloc w (.cells #[.float .f64 (fl c.time), .int .i32 c.fr, .int .i32 c.to, .int .i32 c.tt] 36))
  have hQ := h.since hS
  have hF : Fr [g, sb] w _ := Fr.since hS
  obtain ⟨bx, hbx⟩ : ∃ bx, bx = w.heap.size := ⟨_, rfl⟩
  rw [← hbx] at hB ⊢
  have b1 : bx ≠ g := by omega
  have b2 : bx ≠ sb := by omega
  generalize hW : w.alloc _ = W at hB hS hQ hF ⊢
  clear hW hS hbx l1 l2 l3 h
  go_loopw [1] (fun a wr => ∃ (k : Nat) (Vr : Nat → Ev) (Tr : Nat → Int), a = .int .i64 k ∧ k < m ∧ Qm wr qb sb g n m cap Vr Tr ∧ Good n m (upd Vr k c) (upd Tr to k) ∧ DownInv m k (upd Vr k c) ∧ (∀ v, v < n → view (upd Vr k c) (upd Tr to k) v = view (upd V i c) (upd T to i) v) ∧ (∀ j, j < m → Bnd (upd Vr k c j)) ∧ Fr [g, sb] w wr ∧ wr.heap[bx]? = some (.cells #[.float .f64 (fl c.time), .int .i32 c.fr, .int .i32 c.to, .int .i32 c.tt] 36)) (fun a _ => m - (intOf a).toNat)
  case atStart => exact ⟨i, V, T, rfl, hi, hQ, hg, hu, fun _ _ => rfl, hb, hF, hB⟩
  case round =>
    obtain ⟨k, Vr, Tr, rfl, hk, hQ, hg, hu, hv, hb, hF, hB⟩ := hrel
    have e0 := fun w' h => (cells4 hB w' h).1
    have e1 := fun w' h => (cells4 hB w' h).2.1
    have e2 := fun w' h => (cells4 hB w' h).2.2.1
    have e3 := fun w' h => (cells4 hB w' h).2.2.2
    have r0 := e0 _ (Since.refl _)
    have r1 := e1 _ (Since.refl _)
    have r2 := e2 _ (Since.refl _)
    have r3 := e3 _ (Since.refl _)
    have m16 := hQ.m16
    have l1 := sizeOf_block hQ.hq
    have l2 := hQ.he.lt
    have q0 : ∀ w', Since wr w' → w'.cell? ⟨qb, 0, none⟩ = some (.slice (some ⟨g, 0, none⟩) m cap) := fun w' h => cellOf (h.keep hQ.hq)
    have q00 := q0 _ (Since.refl _)
    obtain ⟨ch, hch⟩ : ∃ ch : Nat, ch = 2 * k + 1 := ⟨_, rfl⟩
    have hci : 2 * (k : Int) + 1 = (ch : Int) := by omega
    have HCH : Hid (ch = 2 * k + 1) := ⟨hch⟩
    clear hch
    by_cases hcm : ch < m
    · obtain ⟨rt, hrt⟩ : ∃ rt : Nat, rt = ch + 1 := ⟨_, rfl⟩
      have hri : (ch : Int) + 1 = (rt : Int) := by omega
      have HRT : Hid (rt = ch + 1) := ⟨hrt⟩
      have hcne : ch ≠ k := by have := HCH.out; omega
      have hrne : rt ≠ k := by have := HCH.out; omega
      clear hrt
      have hpc : par ch = k := by have := HCH.out; unfold par; omega
      have c00 : 0 < ch := by have := HCH.out; omega
      have p0 := fun w' h => ((hQ.he.since (w' := w') h).cell hcm).1
      have p1 := fun w' h => ((hQ.he.since (w' := w') h).cell hcm).2.1
      have p2 := fun w' h => ((hQ.he.since (w' := w') h).cell hcm).2.2.1
      have p3 := fun w' h => ((hQ.he.since (w' := w') h).cell hcm).2.2.2
      have hvc : Hid (upd Vr k c ch = Vr ch) := ⟨upd_ne _ _ hcne⟩
      have hbch : Bnd (Vr ch) := by have := hb ch hcm; rwa [hvc.out] at this
      by_cases hrm : rt < m
      · have hpr : par rt = k := by have := HCH.out; have := HRT.out; unfold par; omega
        have s0 := fun w' h => ((hQ.he.since (w' := w') h).cell hrm).1
        have s1 := fun w' h => ((hQ.he.since (w' := w') h).cell hrm).2.1
        have s2 := fun w' h => ((hQ.he.since (w' := w') h).cell hrm).2.2.1
        have s3 := fun w' h => ((hQ.he.since (w' := w') h).cell hrm).2.2.2
        have hvr : Hid (upd Vr k c rt = Vr rt) := ⟨upd_ne _ _ hrne⟩
        have hbrt : Bnd (Vr rt) := by have := hb rt hrm; rwa [hvr.out] at this
        obtain ⟨bb, HBB⟩ : ∃ bb, Hid (decide ((Vr rt).lt (Vr ch)) = bb) := ⟨_, ⟨rfl⟩⟩
        go_wp2
        go_region_held3 (fun w'' => Since wr w'') (first | exact Since.dr | exact Since.then hb1 (by assumption) | exact Since.drew (by assumption)) (first | (go_at_call 12; refine (before_any (Vr rt) (Vr ch) hbrt hbch _).mono ?_; rintro r1 wx ⟨rfl, hb1⟩; rw [HBB.out]))
        have hSx : Since wr wx := by assumption
        have hQx := hQ.since hSx
        have hFx : Fr [g, sb] w wx := hF.trans (Fr.since hSx)
        have hBx := hSx.keep hB
        clear e0 e1 e2 e3 p0 p1 p2 p3 s0 s1 s2 s3 q0 q00 r0 r1 r2 r3 hb1 hB hQ hF hSx l1 l2
        cases bb
        case true =>
          have hdne := hrne
          have hdp := hpr
          have hd0 : 0 < rt := by have := HRT.out; omega
          have hmin : Hid (∀ j, 0 < j → j < m → par j = k → ¬ (upd Vr k c j).lt (upd Vr k c rt)) := ⟨fun j j0 jm jp => by
            have h1 := HCH.out
            have h2 := HRT.out
            rcases (by unfold par at jp; omega : j = ch ∨ j = rt) with e | e
            · rw [e, hvr.out, hvc.out]; exact Ev.asym (of_decide_eq_true HBB.out)
            · rw [e]; exact Ev.irrefl _⟩
          have hdm : rt < m := by omega
          have hvd : upd Vr k c rt = Vr rt := upd_ne _ _ (by omega)
          have HVD : Hid (upd Vr k c rt = Vr rt) := ⟨hvd⟩
          have hbd : Bnd (Vr rt) := by have := hb rt hdm; rwa [hvd] at this
          have hbc : Bnd c := by have := hb k hk; rwa [upd_same] at this
          clear hvd
          have e0 := fun w' h => (cells4 hBx w' h).1
          have e1 := fun w' h => (cells4 hBx w' h).2.1
          have e2 := fun w' h => (cells4 hBx w' h).2.2.1
          have e3 := fun w' h => (cells4 hBx w' h).2.2.2
          have q0 : ∀ w', Since wx w' → w'.cell? ⟨qb, 0, none⟩ = some (.slice (some ⟨g, 0, none⟩) m cap) := fun w' h => cellOf (h.keep hQx.hq)
          have p0 := fun w' h => ((hQx.he.since (w' := w') h).cell hdm).1
          have p1 := fun w' h => ((hQx.he.since (w' := w') h).cell hdm).2.1
          have p2 := fun w' h => ((hQx.he.since (w' := w') h).cell hdm).2.2.1
          have p3 := fun w' h => ((hQx.he.since (w' := w') h).cell hdm).2.2.2
          have l1 := sizeOf_block hQx.hq
          have l2 := hQx.he.lt
          obtain ⟨bc, HBC⟩ : ∃ bc, Hid (decide ((Vr rt).lt c) = bc) := ⟨_, ⟨rfl⟩⟩
          go_wp2
          go_region_held3 (fun w'' => Since wx w'') (first | exact Since.dr | exact Since.then hb1 (by assumption) | exact Since.drew (by assumption)) (first | (go_at_call 12; refine (before_any (Vr rt) c hbd hbc _).mono ?_; rintro r1 w1 ⟨rfl, hb1⟩; rw [HBC.out]))
          have hS1 : Since wx w1 := by assumption
          have hQ1 := hQx.since hS1
          have r0 := e0 _ hS1
          have r1 := e1 _ hS1
          have r2 := e2 _ hS1
          have r3 := e3 _ hS1
          have t0 := p0 _ hS1
          have t1 := p1 _ hS1
          have t2 := p2 _ hS1
          have t3 := p3 _ hS1
          have q00 := q0 _ hS1
          have l1 := sizeOf_block hQ1.hq
          have l2 := hQ1.he.lt
          have hF1 : Fr [g, sb] w w1 := hFx.trans (Fr.since hS1)
          have hB1 := hS1.keep hBx
          clear e0 e1 e2 e3 p0 p1 p2 p3 q0 hb1 hBx hQx hFx
          cases bc
          case true =>
            have hlt : Hid ((Vr rt).lt c) := ⟨of_decide_eq_true HBC.out⟩
            have hat := hg.at1 rt hdm
            rw [HVD.out] at hat
            have hat0 := hat.1
            have hat1 := hat.2.1
            go_wp2_with fail
            refine (place_any qb sb g n m cap k (Vr rt) Vr Tr _ hQ1 hk hat0 hat1).mono ?_
            rintro r w2 ⟨rfl, hQ2, hF2⟩
            have hms := move_step hg hb hk hdm hdne HTO.out
            have hus := hu.step hdp hd0 (by rw [upd_same, HVD.out]; exact hlt.out) hmin.out hdm
            rw [upd_fold1 Vr c hdne] at hus
            have hB2 := hF2.keep hB1 (by simp [b1, b2])
            clear hat hat0 hat1 t0 t1 t2 t3 r0 r1 r2 r3
            go_wp2
            go_roundw
            case rel => exact ⟨rt, _, _, rfl, hdm, hQ2, hms.1, hus, fun v hv' => (hms.2.1 v hv').trans (hv v hv'), hms.2.2, hF1.trans hF2, hB2⟩
            case measure => have := HCH.out; simp [intOf]; omega
          case false =>
            have hlt : Hid (¬ (Vr rt).lt c) := ⟨of_decide_eq_false HBC.out⟩
            go_wp2_with fail
            refine (place_any qb sb g n m cap k c Vr Tr _ hQ1 hk c0 c1).mono ?_
            rintro r w2 ⟨rfl, hQ2, hF2⟩
            rw [← HTO.out] at hQ2
            go_wp2
            go_end0
            exact ⟨rfl, _, _, ⟨hQ2, hg, hu.done (fun j j0 jm jp => by rw [upd_same]; exact Ev.ntrans (hmin.out j j0 jm jp) (by rw [HVD.out]; exact hlt.out)), hb⟩, hv, hF1.trans hF2⟩
        case false =>
          have hdne := hcne
          have hdp := hpc
          have hd0 := c00
          have hmin : Hid (∀ j, 0 < j → j < m → par j = k → ¬ (upd Vr k c j).lt (upd Vr k c ch)) := ⟨fun j j0 jm jp => by
            have h1 := HCH.out
            have h2 := HRT.out
            rcases (by unfold par at jp; omega : j = ch ∨ j = rt) with e | e
            · rw [e]; exact Ev.irrefl _
            · rw [e, hvr.out, hvc.out]; exact of_decide_eq_false HBB.out⟩
          have hdm : ch < m := by omega
          have hvd : upd Vr k c ch = Vr ch := upd_ne _ _ (by omega)
          have HVD : Hid (upd Vr k c ch = Vr ch) := ⟨hvd⟩
          have hbd : Bnd (Vr ch) := by have := hb ch hdm; rwa [hvd] at this
          have hbc : Bnd c := by have := hb k hk; rwa [upd_same] at this
          clear hvd
          have e0 := fun w' h => (cells4 hBx w' h).1
          have e1 := fun w' h => (cells4 hBx w' h).2.1
          have e2 := fun w' h => (cells4 hBx w' h).2.2.1
          have e3 := fun w' h => (cells4 hBx w' h).2.2.2
          have q0 : ∀ w', Since wx w' → w'.cell? ⟨qb, 0, none⟩ = some (.slice (some ⟨g, 0, none⟩) m cap) := fun w' h => cellOf (h.keep hQx.hq)
          have p0 := fun w' h => ((hQx.he.since (w' := w') h).cell hdm).1
          have p1 := fun w' h => ((hQx.he.since (w' := w') h).cell hdm).2.1
          have p2 := fun w' h => ((hQx.he.since (w' := w') h).cell hdm).2.2.1
          have p3 := fun w' h => ((hQx.he.since (w' := w') h).cell hdm).2.2.2
          have l1 := sizeOf_block hQx.hq
          have l2 := hQx.he.lt
          obtain ⟨bc, HBC⟩ : ∃ bc, Hid (decide ((Vr ch).lt c) = bc) := ⟨_, ⟨rfl⟩⟩
          go_wp2
          go_region_held3 (fun w'' => Since wx w'') (first | exact Since.dr | exact Since.then hb1 (by assumption) | exact Since.drew (by assumption)) (first | (go_at_call 12; refine (before_any (Vr ch) c hbd hbc _).mono ?_; rintro r1 w1 ⟨rfl, hb1⟩; rw [HBC.out]))
          have hS1 : Since wx w1 := by assumption
          have hQ1 := hQx.since hS1
          have r0 := e0 _ hS1
          have r1 := e1 _ hS1
          have r2 := e2 _ hS1
          have r3 := e3 _ hS1
          have t0 := p0 _ hS1
          have t1 := p1 _ hS1
          have t2 := p2 _ hS1
          have t3 := p3 _ hS1
          have q00 := q0 _ hS1
          have l1 := sizeOf_block hQ1.hq
          have l2 := hQ1.he.lt
          have hF1 : Fr [g, sb] w w1 := hFx.trans (Fr.since hS1)
          have hB1 := hS1.keep hBx
          clear e0 e1 e2 e3 p0 p1 p2 p3 q0 hb1 hBx hQx hFx
          cases bc
          case true =>
            have hlt : Hid ((Vr ch).lt c) := ⟨of_decide_eq_true HBC.out⟩
            have hat := hg.at1 ch hdm
            rw [HVD.out] at hat
            have hat0 := hat.1
            have hat1 := hat.2.1
            go_wp2_with fail
            refine (place_any qb sb g n m cap k (Vr ch) Vr Tr _ hQ1 hk hat0 hat1).mono ?_
            rintro r w2 ⟨rfl, hQ2, hF2⟩
            have hms := move_step hg hb hk hdm hdne HTO.out
            have hus := hu.step hdp hd0 (by rw [upd_same, HVD.out]; exact hlt.out) hmin.out hdm
            rw [upd_fold1 Vr c hdne] at hus
            have hB2 := hF2.keep hB1 (by simp [b1, b2])
            clear hat hat0 hat1 t0 t1 t2 t3 r0 r1 r2 r3
            go_wp2
            go_roundw
            case rel => exact ⟨ch, _, _, rfl, hdm, hQ2, hms.1, hus, fun v hv' => (hms.2.1 v hv').trans (hv v hv'), hms.2.2, hF1.trans hF2, hB2⟩
            case measure => have := HCH.out; simp [intOf]; omega
          case false =>
            have hlt : Hid (¬ (Vr ch).lt c) := ⟨of_decide_eq_false HBC.out⟩
            go_wp2_with fail
            refine (place_any qb sb g n m cap k c Vr Tr _ hQ1 hk c0 c1).mono ?_
            rintro r w2 ⟨rfl, hQ2, hF2⟩
            rw [← HTO.out] at hQ2
            go_wp2
            go_end0
            exact ⟨rfl, _, _, ⟨hQ2, hg, hu.done (fun j j0 jm jp => by rw [upd_same]; exact Ev.ntrans (hmin.out j j0 jm jp) (by rw [HVD.out]; exact hlt.out)), hb⟩, hv, hF1.trans hF2⟩
      · have hdr : decide ((rt : Int) < (m : Int)) = false := decide_eq_false (by omega)
        go_wp2
        go_quiet (fail)
        have hSx : Since wr (wr.drewN nq) := Since.drewN (Since.refl _) _
        have hQx := hQ.since hSx
        have hFx : Fr [g, sb] w (wr.drewN nq) := hF.trans (Fr.since hSx)
        have hBx := hSx.keep hB
        generalize hWx : wr.drewN nq = wx at hSx hQx hFx hBx ⊢
        clear hWx e0 e1 e2 e3 p0 p1 p2 p3 q0 q00 r0 r1 r2 r3 hB hQ hF hSx l1 l2
        have hdne := hcne
        have hdp := hpc
        have hd0 := c00
        have hmin : Hid (∀ j, 0 < j → j < m → par j = k → ¬ (upd Vr k c j).lt (upd Vr k c ch)) := ⟨fun j j0 jm jp => by
          have h1 := HCH.out
          have h2 := HRT.out
          have e : j = ch := by unfold par at jp; omega
          rw [e]; exact Ev.irrefl _⟩
        have hdm : ch < m := by omega
        have hvd : upd Vr k c ch = Vr ch := upd_ne _ _ (by omega)
        have HVD : Hid (upd Vr k c ch = Vr ch) := ⟨hvd⟩
        have hbd : Bnd (Vr ch) := by have := hb ch hdm; rwa [hvd] at this
        have hbc : Bnd c := by have := hb k hk; rwa [upd_same] at this
        clear hvd
        have e0 := fun w' h => (cells4 hBx w' h).1
        have e1 := fun w' h => (cells4 hBx w' h).2.1
        have e2 := fun w' h => (cells4 hBx w' h).2.2.1
        have e3 := fun w' h => (cells4 hBx w' h).2.2.2
        have q0 : ∀ w', Since wx w' → w'.cell? ⟨qb, 0, none⟩ = some (.slice (some ⟨g, 0, none⟩) m cap) := fun w' h => cellOf (h.keep hQx.hq)
        have p0 := fun w' h => ((hQx.he.since (w' := w') h).cell hdm).1
        have p1 := fun w' h => ((hQx.he.since (w' := w') h).cell hdm).2.1
        have p2 := fun w' h => ((hQx.he.since (w' := w') h).cell hdm).2.2.1
        have p3 := fun w' h => ((hQx.he.since (w' := w') h).cell hdm).2.2.2
        have l1 := sizeOf_block hQx.hq
        have l2 := hQx.he.lt
        obtain ⟨bc, HBC⟩ : ∃ bc, Hid (decide ((Vr ch).lt c) = bc) := ⟨_, ⟨rfl⟩⟩
        go_wp2
        go_region_held3 (fun w'' => Since wx w'') (first | exact Since.dr | exact Since.then hb1 (by assumption) | exact Since.drew (by assumption)) (first | (go_at_call 12; refine (before_any (Vr ch) c hbd hbc _).mono ?_; rintro r1 w1 ⟨rfl, hb1⟩; rw [HBC.out]))
        have hS1 : Since wx w1 := by assumption
        have hQ1 := hQx.since hS1
        have r0 := e0 _ hS1
        have r1 := e1 _ hS1
        have r2 := e2 _ hS1
        have r3 := e3 _ hS1
        have t0 := p0 _ hS1
        have t1 := p1 _ hS1
        have t2 := p2 _ hS1
        have t3 := p3 _ hS1
        have q00 := q0 _ hS1
        have l1 := sizeOf_block hQ1.hq
        have l2 := hQ1.he.lt
        have hF1 : Fr [g, sb] w w1 := hFx.trans (Fr.since hS1)
        have hB1 := hS1.keep hBx
        clear e0 e1 e2 e3 p0 p1 p2 p3 q0 hb1 hBx hQx hFx
        cases bc
        case true =>
          have hlt : Hid ((Vr ch).lt c) := ⟨of_decide_eq_true HBC.out⟩
          have hat := hg.at1 ch hdm
          rw [HVD.out] at hat
          have hat0 := hat.1
          have hat1 := hat.2.1
          go_wp2_with fail
          refine (place_any qb sb g n m cap k (Vr ch) Vr Tr _ hQ1 hk hat0 hat1).mono ?_
          rintro r w2 ⟨rfl, hQ2, hF2⟩
          have hms := move_step hg hb hk hdm hdne HTO.out
          have hus := hu.step hdp hd0 (by rw [upd_same, HVD.out]; exact hlt.out) hmin.out hdm
          rw [upd_fold1 Vr c hdne] at hus
          have hB2 := hF2.keep hB1 (by simp [b1, b2])
          clear hat hat0 hat1 t0 t1 t2 t3 r0 r1 r2 r3
          go_wp2
          go_roundw
          case rel => exact ⟨ch, _, _, rfl, hdm, hQ2, hms.1, hus, fun v hv' => (hms.2.1 v hv').trans (hv v hv'), hms.2.2, hF1.trans hF2, hB2⟩
          case measure => have := HCH.out; simp [intOf]; omega
        case false =>
          have hlt : Hid (¬ (Vr ch).lt c) := ⟨of_decide_eq_false HBC.out⟩
          go_wp2_with fail
          refine (place_any qb sb g n m cap k c Vr Tr _ hQ1 hk c0 c1).mono ?_
          rintro r w2 ⟨rfl, hQ2, hF2⟩
          rw [← HTO.out] at hQ2
          go_wp2
          go_end0
          exact ⟨rfl, _, _, ⟨hQ2, hg, hu.done (fun j j0 jm jp => by rw [upd_same]; exact Ev.ntrans (hmin.out j j0 jm jp) (by rw [HVD.out]; exact hlt.out)), hb⟩, hv, hF1.trans hF2⟩
    · clear e0 e1 e2 e3
      go_wp2_with fail
      refine (place_any qb sb g n m cap k c Vr Tr _ hQ hk c0 c1).mono ?_
      rintro r w2 ⟨rfl, hQ2, hF2⟩
      rw [← HTO.out] at hQ2
      go_wp2
      go_end0
      exact ⟨rfl, _, _, ⟨hQ2, hg, hu.done (fun j j0 jm jp => by exfalso; have := HCH.out; unfold par at jp; omega), hb⟩, hv, hF.trans hF2⟩
end Go.Proofs.Ybulkcwas
