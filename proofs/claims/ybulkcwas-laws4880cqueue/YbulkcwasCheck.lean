import Derived.Test.YbulkcwasLInv
set_option linter.unusedSimpArgs false
set_option linter.unusedVariables false
namespace Go.Proofs.Ybulkcwas
open Go.RowKit

theorem run_equalIn_float (d : Nat) (w : World) (a b : Nat) : (Op.equalIn (d + 1) 34 (.float .f64 a) (.float .f64 b)).run Yba.prog w = .ok (FloatKind.f64.format.order a b == some .eq) w := by
  simp only [Op.equalIn]
  simp [underlying, Yba.underlying34, Op.floatEq]
@[go_sem] theorem run_equalIn_float9 (w : World) (a b : Nat) : (Op.equalIn 9999 34 (.float .f64 a) (.float .f64 b)).run Yba.prog w = .ok (FloatKind.f64.format.order a b == some .eq) w :=
  run_equalIn_float 9998 w a b

set_option maxRecDepth 100000 in
set_option maxHeartbeats 4000000 in
theorem check_any (base qb sb hb ab n m : Nat) (V : Nat → Ev) (T : Nat → Int) (H : Nat → Ev) (A : Nat → Bool) (w : World) (h : LInv base w qb sb hb ab n m V T H A) :
    Calls Yba.prog 8 #[.pointer (some ⟨qb, 0, none⟩), .slice (some ⟨hb, 0, none⟩) n n, .slice (some ⟨ab, 0, none⟩) n n] w fun r w' => r = .returned (.bool true) ∧ Since w w' := by
  obtain ⟨a, ca, gl, hq, hhv, hgl⟩ := h.q.q.hv
  have hq0 : w.cell? ⟨qb, 0, none⟩ = some (.slice a m ca) := cellOf hq
  have hq1 : w.cell? ⟨qb, 1, none⟩ = some (.slice (some ⟨sb, 0, none⟩) n n) := cellOf hq
  have l1 := sizeOf_block hq
  have l2 := h.ha.lt
  have l3 := h.q.q.hs.lt
  have n16 := h.q.q.n16
  have m16 := h.q.q.m16
  go_enter Yba.func8, Yba.ntmps8
  go_wp2
  go_loop [8, 9] (fun ct i => ∃ k : Nat, k ≤ n ∧ i = .int .i64 k ∧ ct = .int .i64 (cnt A k)) (fun _ i => n - (intOf i).toNat)
  case atStart => exact ⟨0, Nat.zero_le _, rfl, rfl⟩
  case round =>
    obtain ⟨k, hk, rfl, rfl⟩ := hrel
    have hck := cnt_le A k
    by_cases hlt : k < n
    · have a0 := h.ha.cell hlt
      have t0 := h.q.q.hs.cell hlt
      cases hA : A k with
      | true =>
        rw [hA] at a0
        have hs : cnt A (k + 1) = cnt A k + 1 := by simp [cnt, hA]
        have HS := Hid.mk hs
        clear hs hA
        go_wp2
        go_round
        case rel => exact ⟨k + 1, by omega, by go_num, by rw [HS.out]; go_num⟩
        case measure => simp [intOf]; omega
      | false =>
        rw [hA] at a0
        rw [h.hasnt hlt hA] at t0
        have hs : cnt A (k + 1) = cnt A k := by simp [cnt, hA]
        have HS := Hid.mk hs
        clear hs hA
        go_wp2
        go_round
        case rel => exact ⟨k + 1, by omega, by go_num, by rw [HS.out]⟩
        case measure => simp [intOf]; omega
    · have hkn : k = n := by omega
      subst hkn
      have hct : Hid (cnt A k = m) := ⟨h.ct⟩
      rw [hct.out]
      clear hck
      go_wp2
      go_loopw [10] (fun i wr => ∃ j : Nat, j ≤ m ∧ i = .int .i64 j ∧ Since w wr) (fun i _ => m - (intOf i).toNat)
      case atStart => exact ⟨0, Nat.zero_le _, rfl, Since.refl _⟩
      case round =>
        obtain ⟨j, hj, rfl, hSr⟩ := hrel
        have hq0 : wr.cell? ⟨qb, 0, none⟩ = some (.slice a m ca) := hSr.cell hq0
        have l1 : qb < wr.heap.size := Nat.lt_of_lt_of_le l1 hSr.size
        by_cases hjm : j < m
        · obtain ⟨g, cap, hbg, hQ⟩ := h.q.q.qm (by omega)
          obtain ⟨rfl, rfl⟩ : a = some ⟨g, 0, none⟩ ∧ ca = cap := by
            have := hQ.hq
            rw [hq] at this
            simp at this
            exact this
          have hI := h.since hSr
          have hQr := hQ.since hSr
          obtain ⟨p0, p1, p2, p3⟩ := hQr.he.cell hjm
          obtain ⟨v, hvn, hto, hAv, hHv, hTv⟩ := h.at hjm
          rw [hto] at p2
          have lg := hQr.he.lt
          have HTO := Hid.mk hto
          have HHV := Hid.mk hHv
          have hbj := h.q.bnd j hjm
          clear hto hHv
          go_wp2
          have hB := newBlock wr (.cells #[.float .f64 (fl (V j).time), .int .i32 (V j).fr, .int .i32 v, .int .i32 (V j).tt] 36)
          have hS2 := Since.of (belowAlloc wr (.cells #[.float .f64 (fl (V j).time), .int .i32 (V j).fr, .int .i32 v, .int .i32 (V j).tt] 36))
          obtain ⟨bx, hbx⟩ : ∃ bx, bx = wr.heap.size := ⟨_, rfl⟩
          rw [← hbx] at hB ⊢
          generalize hW : wr.alloc _ = W at hB hS2 ⊢
          have hIW := hI.since hS2
          have hQW := hQr.since hS2
          have hSW := hS2.then hSr
          clear hW hbx hS2 hI hQr p0 p1 p2 p3 hq0 l1 lg
          have q0 : ∀ w', Since W w' → w'.cell? ⟨qb, 0, none⟩ = some (.slice (some ⟨g, 0, none⟩) m ca) := fun w' hf => cellOf (hf.keep hQW.hq)
          have q1 : ∀ w', Since W w' → w'.cell? ⟨qb, 1, none⟩ = some (.slice (some ⟨sb, 0, none⟩) k k) := fun w' hf => cellOf (hf.keep hQW.hq)
          have b0 : ∀ w', Since W w' → w'.cell? ⟨bx, 0, none⟩ = some (.float .f64 (fl (V j).time)) := fun w' hf => cellOf (hf.keep hB)
          have b1 : ∀ w', Since W w' → w'.cell? ⟨bx, 1, none⟩ = some (.int .i32 (V j).fr) := fun w' hf => cellOf (hf.keep hB)
          have b2 : ∀ w', Since W w' → w'.cell? ⟨bx, 2, none⟩ = some (.int .i32 v) := fun w' hf => cellOf (hf.keep hB)
          have b3 : ∀ w', Since W w' → w'.cell? ⟨bx, 3, none⟩ = some (.int .i32 (V j).tt) := fun w' hf => cellOf (hf.keep hB)
          have c0 : ∀ w', Since W w' → w'.cell? ⟨hb, v * 4, none⟩ = some (.float .f64 (fl (V j).time)) := fun w' hf => by rw [← HHV.out]; exact ((hIW.he.since hf).cell hvn).1
          have c1 : ∀ w', Since W w' → w'.cell? ⟨hb, v * 4 + 1, none⟩ = some (.int .i32 (V j).fr) := fun w' hf => by rw [← HHV.out]; exact ((hIW.he.since hf).cell hvn).2.1
          have c2 : ∀ w', Since W w' → w'.cell? ⟨hb, v * 4 + 2, none⟩ = some (.int .i32 v) := fun w' hf => by rw [← HTO.out, ← HHV.out]; exact ((hIW.he.since hf).cell hvn).2.2.1
          have c3 : ∀ w', Since W w' → w'.cell? ⟨hb, v * 4 + 3, none⟩ = some (.int .i32 (V j).tt) := fun w' hf => by rw [← HHV.out]; exact ((hIW.he.since hf).cell hvn).2.2.2
          have a0 : ∀ w', Since W w' → w'.cell? ⟨ab, v, none⟩ = some (.bool true) := fun w' hf => by rw [← hAv]; exact (hIW.ha.since hf).cell hvn
          have t0 : ∀ w', Since W w' → w'.cell? ⟨sb, v, none⟩ = some (.int .i32 j) := fun w' hf => by rw [← hTv]; exact (hQW.hs.since hf).cell hvn
          have HA := Hid.mk hAv
          have HT := Hid.mk hTv
          have ho := order_eq _ hbj.t0 hbj.t1
          clear hAv hTv
          have hwr : IntKind.i32.wrap (j : Int) = j := by simp [IntKind.wrap, IntKind.signed, IntKind.bits]; omega
          go_region_held3 (fun w'' => Since W w'') (first | exact Since.dr | exact Since.drew (by assumption)) (fail)
          have hSd : Since W W.drew := by assumption
          generalize hWd : W.drew = W2 at hSd ⊢
          clear c0 c1 c2 c3 a0 t0 hwr hWd ho q1
          rcases Nat.eq_zero_or_pos j with hj0 | hj0
          · subst hj0
            go_wp2
            go_quiet (fail)
            have hSf := (Since.drewN hSd nq).then hSW
            clear q0 b0 b1 b2 b3
            go_wp2
            go_roundw
            case rel => exact ⟨1, by omega, by go_num, hSf⟩
            case measure => simp [intOf]; omega
          · obtain ⟨p, hp⟩ : ∃ p, p = par j := ⟨_, rfl⟩
            have hpj : p < j := by rw [hp]; unfold par; omega
            have hpm : p < m := by omega
            have hdiv : ((j : Int) - 1) / 2 = (p : Int) := by rw [hp]; unfold par; omega
            have hlt' : decide ((V j).lt (V p)) = false := by rw [hp]; exact decide_eq_false (h.q.heap j hj0 hjm)
            have HLT := Hid.mk hlt'
            have p0 := fun w' h => ((hQW.he.since (w' := w') h).cell hpm).1
            have p1 := fun w' h => ((hQW.he.since (w' := w') h).cell hpm).2.1
            have p2 := fun w' h => ((hQW.he.since (w' := w') h).cell hpm).2.2.1
            have p3 := fun w' h => ((hQW.he.since (w' := w') h).cell hpm).2.2.2
            have hbp := h.q.bnd p hpm
            clear hp hlt'
            have hw1 : IntKind.i64.wrap ((j : Int) - 1) = (j : Int) - 1 := by simp [IntKind.wrap, IntKind.signed, IntKind.bits]; omega
            have hw2 : IntKind.i64.wrap (p : Int) = (p : Int) := by simp [IntKind.wrap, IntKind.signed, IntKind.bits]; omega
            have hpi : (p : Int) < (m : Int) := by omega
            have htd : ((j : Int) - 1).tdiv 2 = (p : Int) := by rw [Int.tdiv_eq_ediv_of_nonneg (by omega)]; exact hdiv
            have hj1 : (0 : Int) < (j : Int) := by omega
            have hpi0 : (0 : Int) ≤ (p : Int) := by omega
            go_wp2
            go_region_held3 (fun w'' => Since W w'') (first | exact Since.drew hSd | exact Since.then hb1 (by assumption) | exact Since.drew (by assumption)) (first | (go_at_call 6; rw [← HTO.out]; refine (less_any (V j) (V p) hbj hbp _).mono ?_; rintro r1 w1 ⟨rfl, hb1⟩; rw [HLT.out]))
            have hS1 : Since W w1 := by assumption
            have hSf := hS1.then hSW
            clear p0 p1 p2 p3 q0 b0 b1 b2 b3
            go_wp2
            go_roundw
            case rel => exact ⟨j + 1, by omega, by go_num, hSf⟩
            case measure => simp [intOf]; omega
        · go_wp2
          go_ret
          exact ⟨rfl, hSr⟩
end Go.Proofs.Ybulkcwas
