import Derived.Test.YbulkcwasCheck
set_option linter.unusedSimpArgs false
set_option linter.unusedVariables false
namespace Go.Proofs.Ybulkcwas
open Go.RowKit

theorem Qs.far {base : Nat} {w : World} {qb sb n m b o : Nat} {V : Nat → Ev} {T : Nat → Int} {x : Value} (h : Qs base w qb sb n m V T) (h1 : b ≠ qb) (h2 : b ≠ sb) (h3 : b < base) : Qs base (w.setCell ⟨b, o, none⟩ x) qb sb n m V T := by
  refine ⟨?_, h.hs.keep (setFar (Ne.symm h2)), h.lq, h.ls, h.ne, by have := h.lb; simpa [World.setCell] using this, h.n16, h.m16⟩
  rcases h.ex with ⟨e, hq⟩ | ⟨g, cap, hg, hq, he⟩
  · exact .inl ⟨e, (setFar (Ne.symm h1)).trans hq⟩
  · exact .inr ⟨g, cap, hg, (setFar (Ne.symm h1)).trans hq, he.keep (setFar (by omega))⟩

theorem len_any (base qb sb n m : Nat) (V : Nat → Ev) (T : Nat → Int) (w : World) (h : Qs base w qb sb n m V T) :
    Calls Yba.prog 9 #[.pointer (some ⟨qb, 0, none⟩)] w fun r w' => r = .returned (.int .i64 m) ∧ w = w' := by
  obtain ⟨a, ca, gl, hq, hhv, hgl⟩ := h.hv
  have hq0 : w.cell? ⟨qb, 0, none⟩ = some (.slice a m ca) := cellOf hq
  have l1 := sizeOf_block hq
  have m16 := h.m16
  go_enter Yba.func9, Yba.ntmps9
  go_wp2
  go_ret
  exact ⟨rfl, rfl⟩

/-- The best node so far, of those below v. -/
def Best (A : Nat → Bool) (H : Nat → Ev) (v : Nat) (b : Int) : Prop :=
  (b = -1 ∧ ∀ u, u < v → A u = false) ∨ ∃ k : Nat, b = k ∧ k < v ∧ A k = true ∧ ∀ u, u < v → A u = true → ¬ (H u).lt (H k)

set_option maxRecDepth 100000 in
set_option maxHeartbeats 4000000 in
theorem cpop_any (base qb sb hb ab n m : Nat) (V : Nat → Ev) (T : Nat → Int) (H : Nat → Ev) (A : Nat → Bool) (w : World) (h : LInv base w qb sb hb ab n m V T H A) :
    Calls Yba.prog 5 #[.pointer (some ⟨qb, 0, none⟩), .slice (some ⟨hb, 0, none⟩) n n, .slice (some ⟨ab, 0, none⟩) n n] w fun r w' => r = .returned (.bool true) ∧ ∃ V' T' A', LInv base w' qb sb hb ab n (m - 1) V' T' H A' ∧ Frb base [qb, sb, ab] w w' := by
  have n16 := h.q.q.n16
  have m16 := h.q.q.m16
  have lb := h.q.q.lb
  go_enter Yba.func5, Yba.ntmps5
  go_wp2
  go_loopw [7, 8] (fun b i wr => ∃ (k : Nat) (x : Int), k ≤ n ∧ i = .int .i64 k ∧ b = .int .i64 x ∧ Best A H k x ∧ Since w wr) (fun _ i _ => n - (intOf i).toNat)
  case atStart => exact ⟨0, -1, Nat.zero_le _, rfl, rfl, .inl ⟨rfl, fun u hu => absurd hu (Nat.not_lt_zero _)⟩, Since.refl _⟩
  case round =>
    obtain ⟨k, x, hk, rfl, rfl, hbest, hSr⟩ := hrel
    have hI := h.since hSr
    by_cases hlt : k < n
    · have l2 := hI.ha.lt
      have l3 := hI.he.lt
      have a0 : ∀ w', Since wr w' → w'.cell? ⟨ab, k, none⟩ = some (.bool (A k)) := fun w' hf => (hI.ha.since hf).cell hlt
      cases hA : A k with
      | false =>
        rw [hA] at a0
        have a1 := a0 _ (Since.refl _)
        have HB : Hid (Best A H (k + 1) x) := ⟨by
          rcases hbest with ⟨e, hu⟩ | ⟨b, e, hb, hAb, hu⟩
          · exact .inl ⟨e, fun u hu' => by rcases Nat.lt_or_ge u k with h1 | h1; exact hu u h1; rw [show u = k by omega]; exact hA⟩
          · exact .inr ⟨b, e, by omega, hAb, fun u hu' hAu => by rcases Nat.lt_or_ge u k with h1 | h1; exact hu u h1 hAu; rw [show u = k by omega, hA] at hAu; cases hAu⟩⟩
        clear hbest hA a0
        go_wp2
        go_quiet (fail)
        have hSf := (Since.drewN (Since.refl wr) nq).then hSr
        go_wp2
        go_roundw
        case rel => exact ⟨k + 1, x, by omega, by go_num, rfl, HB.out, hSf⟩
        case measure => simp [intOf]; omega
      | true =>
        rw [hA] at a0
        have a1 := a0 _ (Since.refl _)
        have hbk : Bnd (H k) := by obtain ⟨_, _, _, _, _, h1⟩ := h.has hlt hA; exact h1
        rcases hbest with ⟨e, hu⟩ | ⟨b, e, hbk', hAb, hu⟩
        · subst e
          have HB : Hid (Best A H (k + 1) k) := ⟨.inr ⟨k, rfl, by omega, hA, fun u hu' hAu => by
            rcases Nat.lt_or_ge u k with h1 | h1
            · rw [hu u h1] at hAu; cases hAu
            · rw [show u = k by omega]; exact Ev.irrefl _⟩⟩
          clear hA a0 hu
          go_wp2
          go_quiet (fail)
          have hSf := (Since.drewN (Since.refl wr) nq).then hSr
          go_wp2
          go_roundw
          case rel => exact ⟨k + 1, k, by omega, by go_num, rfl, HB.out, hSf⟩
          case measure => simp [intOf]; omega
        · subst e
          have hbn : b < n := by omega
          have hbb : Bnd (H b) := by obtain ⟨_, _, _, _, _, h1⟩ := h.has hbn hAb; exact h1
          have p0 := fun w' h => ((hI.he.since (w' := w') h).cell hlt).1
          have p1 := fun w' h => ((hI.he.since (w' := w') h).cell hlt).2.1
          have p2 := fun w' h => ((hI.he.since (w' := w') h).cell hlt).2.2.1
          have p3 := fun w' h => ((hI.he.since (w' := w') h).cell hlt).2.2.2
          have s0 := fun w' h => ((hI.he.since (w' := w') h).cell hbn).1
          have s1 := fun w' h => ((hI.he.since (w' := w') h).cell hbn).2.1
          have s2 := fun w' h => ((hI.he.since (w' := w') h).cell hbn).2.2.1
          have s3 := fun w' h => ((hI.he.since (w' := w') h).cell hbn).2.2.2
          have HBo : Hid (¬ (H k).lt (H b) → Best A H (k + 1) b) := ⟨fun hn => .inr ⟨b, rfl, by omega, hAb, fun u hu' hAu => by
            rcases Nat.lt_or_ge u k with h1 | h1
            · exact hu u h1 hAu
            · rw [show u = k by omega]; exact hn⟩⟩
          have HBn : Hid ((H k).lt (H b) → Best A H (k + 1) k) := ⟨fun hn => .inr ⟨k, rfl, by omega, hA, fun u hu' hAu => by
            rcases Nat.lt_or_ge u k with h1 | h1
            · exact Ev.ltn (hu u h1 hAu) hn
            · rw [show u = k by omega]; exact Ev.irrefl _⟩⟩
          obtain ⟨bb, HBB⟩ : ∃ bb, Hid (decide ((H k).lt (H b)) = bb) := ⟨_, ⟨rfl⟩⟩
          have hbi : (0 : Int) ≤ (b : Int) := by omega
          have hbi2 : decide ((b : Int) < 0) = false := decide_eq_false (by omega)
          clear hA hu hAb
          go_wp2
          go_region_held3 (fun w'' => Since wr w'') (first | exact Since.dr | exact Since.then hb1 (by assumption) | exact Since.drew (by assumption)) (first | (go_at_call 6; refine (less_any (H k) (H b) hbk hbb _).mono ?_; rintro r1 w1 ⟨rfl, hb1⟩; rw [HBB.out]))
          have hS1 : Since wr w1 := by assumption
          have hSf := hS1.then hSr
          clear p0 p1 p2 p3 s0 s1 s2 s3 a0
          cases bb
          case true =>
            have hb' := HBn.out (of_decide_eq_true HBB.out)
            go_wp2
            go_roundw
            case rel => exact ⟨k + 1, k, by omega, by go_num, rfl, hb', hSf⟩
            case measure => simp [intOf]; omega
          case false =>
            have hb' := HBo.out (of_decide_eq_false HBB.out)
            go_wp2
            go_roundw
            case rel => exact ⟨k + 1, b, by omega, by go_num, rfl, hb', hSf⟩
            case measure => simp [intOf]; omega
    · have hkn : k = n := by omega
      subst hkn
      rcases hbest with ⟨e, hu⟩ | ⟨b, e, hbn, hAb, hu⟩
      · subst e
        have hm0 : m = 0 := by
          rcases Nat.eq_zero_or_pos m with h0 | h0
          · exact h0
          · rw [← h.ct] at h0
            obtain ⟨v, hv, ha⟩ := cnt_pos h0
            rw [hu v hv] at ha; cases ha
        subst hm0
        clear hu
        go_wp2_with fail
        refine (len_any base qb sb k 0 V T _ hI.q.q).mono ?_
        rintro r w1 ⟨rfl, rfl⟩
        go_wp2
        go_ret
        exact ⟨rfl, V, T, A, hI, Frb.since hSr lb⟩
      · subst e
        obtain ⟨jb, hjb, hTb, hHb, hHt, hBb⟩ := h.has hbn hAb
        have hm0 : 0 < m := by omega
        obtain ⟨v0, hv0, ht0, hA0, hH0, hT0⟩ := h.at hm0
        have hroot : ¬ (H b).lt (V 0) := by rw [hHb]; exact h.q.heap.root jb hjb
        have hbst : ¬ (V 0).lt (H b) := by rw [← hH0]; exact hu v0 hv0 hA0
        have hsame := Ev.same hroot hbst
        have hvb : v0 = b := by rw [hHt, ht0] at hsame; omega
        have HV0 : Hid (V 0 = H b) := ⟨by rw [← hH0, hvb]⟩
        have HHT : Hid ((H b).to = b) := ⟨hHt⟩
        obtain ⟨g, cap, hbg, hQ⟩ := hI.q.q.qm hm0
        have HAb := Hid.mk hAb
        have hwhole : Whole wr qb sb g k m cap V T := ⟨hQ, h.q.good, h.q.heap, h.q.bnd⟩
        clear hHb hTb hHt ht0 hA0 hH0 hT0 hroot hbst hsame hu hvb hAb
        have hbi : (0 : Int) ≤ (b : Int) := by omega
        have hmne : ((m : Int) == 0) = false := by simp; omega
        go_wp2_with fail
        refine (len_any base qb sb k m V T _ hI.q.q).mono ?_
        rintro r w1 ⟨rfl, rfl⟩
        go_wp2_with fail
        refine (pop_any qb sb g k m cap V T _ hwhole hm0).mono ?_
        rintro r w2 ⟨rfl, V', T', hwh, hvw, hF2⟩
        rw [HV0.out] at hvw ⊢
        have hlr : base ≤ wr.heap.size := Nat.le_trans lb hSr.size
        have hFb2 : Frb base [qb, sb, ab] wr w2 := Frb.of hF2 hlr (fun i hi => by simp at hi; rcases hi with rfl | rfl | rfl <;> simp [hbg])
        have hFb1 : Frb base [qb, sb] wr w2 := Frb.of hF2 hlr (fun i hi => by simp at hi; rcases hi with rfl | rfl | rfl <;> simp [hbg])
        obtain ⟨d1, d2, d3, d4, d5⟩ := h.d
        have hE2 := hI.he.keep (hFb1.block hb h.l1 (by simp [d1, d2]))
        have hA2 := hI.ha.keep (hFb1.block ab h.l2 (by simp [d3, d4]))
        have hl2 : base ≤ w2.heap.size := Nat.le_trans hlr hFb2.size
        have hQ2 := Qs.of hwh.q hbg h.q.q.lq h.q.q.ls hl2
        obtain ⟨c0, c1, c2, c3⟩ := hE2.cell hbn
        have a0 := hA2.cell hbn
        rw [HAb.out] at a0
        have az := hA2.frozen b
        have lh := hE2.lt
        have la := hA2.lt
        have ho := order_eq _ hBb.t0 hBb.t1
        go_wp2
        go_quiet (fail)
        go_wp2
        go_ret
        have hS3 : Since w2 ((w2.alloc (.cells #[.float .f64 (fl (H b).time), .int .i32 (H b).fr, .int .i32 (H b).to, .int .i32 (H b).tt] 36)).drewN nq) := Since.drewN (Since.of (belowAlloc _ _)) _
        have hQ3 := hQ2.since hS3
        have hct := cnt_clear hbn HAb.out
        rw [h.ct] at hct
        refine ⟨rfl, V', T', upd A b false, ⟨⟨hQ3.far d3 d4 h.l2, hwh.good, hwh.heap, hwh.bnd⟩, (hE2.since hS3).keep (setFar d5), (hA2.since hS3).set hbn false, fun v hv => ?_, by omega, h.l1, h.l2, h.d, h.n1⟩, ?_⟩
        · rw [hvw v hv]
          have hbt : (H b).to.toNat = b := by have := HHT.out; omega
          rw [hbt]
          by_cases e : v = b
          · rw [if_pos e, e, upd_same]; rfl
          · rw [if_neg e, upd_ne _ _ e]; exact h.vw v hv
        · exact (Frb.since hSr lb).trans (hFb2.trans ((Frb.since hS3 hl2).trans (Frb.of (K' := [ab]) (Fr.set (Fr.refl _ _) (.inl (by simp))) (Nat.le_trans hl2 hS3.size) (by simp))))
end Go.Proofs.Ybulkcwas
