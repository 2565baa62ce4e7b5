import Derived.Test.YbulkcvzcFmtBytes
set_option linter.unusedSimpArgs false
set_option linter.unusedVariables false
namespace Go.Proofs.YbulkcvzcFmt
open Go.RowKit

theorem cell1 (w : World) (x : Int) : ∀ j, j < 1 → (w.alloc (.cells #[.int .u8 x] 5)).cell? ((⟨w.heap.size, 0, none⟩ : Addr).add j) = some (.int .u8 ([x].getD j 0)) := by
  intro j hj
  obtain rfl : j = 0 := by omega
  rw [Addr.add_lit]
  exact cellOf (newBlock _ _)

theorem and128 (v : Int) (h0 : 0 ≤ v) (h1 : v < 256) : bits .and .u8 v 128 = if v < 128 then 0 else 128 := by
  have h : ∀ k : Fin 256, bits .and .u8 (k.val : Int) 128 = if (k.val : Int) < 128 then 0 else 128 := by decide +kernel
  have := h ⟨v.toNat, by omega⟩
  have e : ((v.toNat : Nat) : Int) = v := by omega
  simpa [e] using this
theorem and128_lo (v : Int) (h0 : 0 ≤ v) (h1 : v < 128) : bits .and .u8 v 128 = 0 := by rw [and128 v h0 (by omega), if_pos h1]
theorem and128_hi (v : Int) (h0 : 128 ≤ v) (h1 : v < 256) : bits .and .u8 v 128 = 128 := by rw [and128 v (by omega) h1, if_neg (by omega)]

set_option maxRecDepth 100000 in
set_option maxHeartbeats 1000000 in
theorem aint1 (v : Int) (w : World) (h0 : 0 ≤ v) (h1 : v < 128) :
    Calls Ybaf.prog 9 #[.int .u64 v] w fun e w' => ∃ x, e = .returned x ∧ Row w' w.heap.size x [v] ∧ Below w.heap.size w w' := by
  have hand := and128_lo v h0 h1
  go_enter Ybaf.func9, Ybaf.ntmps9
  go_wp2
  refine wp_loop_rounds 1 ?_
  rw [rounds_succ]
  go_wp2_with (at_builtin; refine app _ rfl _ _ rfl w.heap.size _ [] rfl (Row.nil _ _) ⟨w.heap.size, 0, none⟩ 1 1 [v] rfl rfl ?c0a (by simp) ?c0b ?c0c)
  case c0a => exact cell1 _ _
  case c0b => simp
  case c0c =>
    intro v1 w1 hr1 hb1
    have hr1 : Row w1 w.heap.size v1 [v] := hr1
    obtain ⟨g, cap, hv, hg, hgs, hlc, hcm, hcell, hfz, cur, hcur, htk⟩ := hr1.form (by simp)
    have hv : v1 = .slice (some ⟨g, 0, none⟩) 1 cap := hv
    have hc0 : w1.cell? ⟨g, 0, none⟩ = some (.int .u8 (v)) := hcell 0 (by simp)
    clear hcell hfz hcur htk hlc hcm
    subst hv
    have hbw : Below w.heap.size w w1 := ((belowAlloc _ _).trans hb1)
    go_wp2_with fail
    refine wp_loop_rounds 2 ?_
    rw [rounds_succ]
    go_wp2_with (at_builtin; refine app _ rfl _ _ rfl w1.heap.size _ [] rfl (Row.nil _ _) ⟨w1.heap.size, 0, none⟩ 1 1 [v] rfl rfl ?e1a (by simp) ?e1b ?e1c)
    case e1a => exact cell1 _ _
    case e1b => simp
    case e1c =>
      intro u1 y1 hq1 hd1
      have hq1 : Row y1 w1.heap.size u1 [v] := hq1
      have hy1 : Below w1.heap.size w1 y1 := (belowAlloc _ _).trans hd1
      go_wp2_with fail
      rw [rounds_succ]
      go_wp2_with fail
      go_ret
      exact ⟨_, rfl, hq1.mono hbw.size, hbw.trans (hy1.mono hbw.size)⟩

set_option maxRecDepth 100000 in
set_option maxHeartbeats 1000000 in
theorem aint2 (v : Int) (w : World) (h0 : 128 ≤ v) (h1 : v < 256) :
    Calls Ybaf.prog 9 #[.int .u64 v] w fun e w' => ∃ x, e = .returned x ∧ Row w' w.heap.size x [0, v] ∧ Below w.heap.size w w' := by
  have hand := and128_hi v h0 h1
  go_enter Ybaf.func9, Ybaf.ntmps9
  go_wp2
  refine wp_loop_rounds 1 ?_
  rw [rounds_succ]
  go_wp2_with (at_builtin; refine app _ rfl _ _ rfl w.heap.size _ [] rfl (Row.nil _ _) ⟨w.heap.size, 0, none⟩ 1 1 [v] rfl rfl ?c0a (by simp) ?c0b ?c0c)
  case c0a => exact cell1 _ _
  case c0b => simp
  case c0c =>
    intro v1 w1 hr1 hb1
    have hr1 : Row w1 w.heap.size v1 [v] := hr1
    obtain ⟨g, cap, hv, hg, hgs, hlc, hcm, hcell, hfz, cur, hcur, htk⟩ := hr1.form (by simp)
    have hv : v1 = .slice (some ⟨g, 0, none⟩) 1 cap := hv
    have hc0 : w1.cell? ⟨g, 0, none⟩ = some (.int .u8 (v)) := hcell 0 (by simp)
    clear hcell hfz hcur htk hlc hcm
    subst hv
    have hbw : Below w.heap.size w w1 := ((belowAlloc _ _).trans hb1)
    go_wp2_with (at_builtin; refine app _ rfl _ _ rfl w1.heap.size _ [] rfl (Row.nil _ _) ⟨w1.heap.size, 0, none⟩ 1 1 [0] rfl rfl ?za (by simp) ?zb ?zc)
    case za => exact cell1 _ _
    case zb => simp
    case zc =>
      intro u0 y0 hq0 hd0
      have hq0 : Row y0 w1.heap.size u0 [0] := hq0
      have hy0 : Below w1.heap.size w1 y0 := (belowAlloc _ _).trans hd0
      have hc0' : y0.cell? ⟨g, 0, none⟩ = some (.int .u8 (v)) := (hy0.cell (p := ⟨g, 0, none⟩) hgs).trans hc0
      go_wp2_with fail
      refine wp_loop_rounds 2 ?_
      rw [rounds_succ]
      go_wp2_with (at_builtin; refine app _ rfl _ _ rfl w1.heap.size _ [0] rfl (Row.keep hq0 (belowAlloc _ _)) ⟨y0.heap.size, 0, none⟩ 1 1 [v] rfl rfl ?e1a (by simp) ?e1b ?e1c)
      case e1a => exact cell1 _ _
      case e1b => have := hy0.size; simp; omega
      case e1c =>
        intro u1 y1 hq1 hd1
        have hq1 : Row y1 w1.heap.size u1 [0, v] := hq1
        have hy1 : Below w1.heap.size w1 y1 := hy0.trans (((belowAlloc _ _).mono hy0.size).trans hd1)
        go_wp2_with fail
        rw [rounds_succ]
        go_wp2_with fail
        go_ret
        exact ⟨_, rfl, hq1.mono hbw.size, hbw.trans (hy1.mono hbw.size)⟩

set_option maxRecDepth 100000 in
set_option maxHeartbeats 1000000 in
theorem aint3 (v : Int) (w : World) (h0 : 256 ≤ v) (h1 : v < 32768) :
    Calls Ybaf.prog 9 #[.int .u64 v] w fun e w' => ∃ x, e = .returned x ∧ Row w' w.heap.size x [v / 256, v % 256] ∧ Below w.heap.size w w' := by
  have hand := and128_lo (v / 256) (by omega) (by omega)
  go_enter Ybaf.func9, Ybaf.ntmps9
  go_wp2
  refine wp_loop_rounds 2 ?_
  rw [rounds_succ]
  go_wp2_with (at_builtin; refine app _ rfl _ _ rfl w.heap.size _ [] rfl (Row.nil _ _) ⟨w.heap.size, 0, none⟩ 1 1 [v % 256] rfl rfl ?c0a (by simp) ?c0b ?c0c)
  case c0a => exact cell1 _ _
  case c0b => simp
  case c0c =>
    intro v1 w1 hr1 hb1
    have hr1 : Row w1 w.heap.size v1 [v % 256] := hr1
    go_wp2_with fail
    rw [rounds_succ]
    go_wp2_with (at_builtin; refine app _ rfl _ _ rfl w.heap.size _ [v % 256] rfl (Row.keep hr1 (belowAlloc _ _)) ⟨w1.heap.size, 0, none⟩ 1 1 [v / 256] rfl rfl ?c1a (by simp) ?c1b ?c1c)
    case c1a => exact cell1 _ _
    case c1b => have := hb1.size; simp at this ⊢; omega
    case c1c =>
      intro v2 w2 hr2 hb2
      have hr2 : Row w2 w.heap.size v2 [v % 256, v / 256] := hr2
      obtain ⟨g, cap, hv, hg, hgs, hlc, hcm, hcell, hfz, cur, hcur, htk⟩ := hr2.form (by simp)
      have hv : v2 = .slice (some ⟨g, 0, none⟩) 2 cap := hv
      have hc0 : w2.cell? ⟨g, 0, none⟩ = some (.int .u8 (v % 256)) := hcell 0 (by simp)
      have hc1 : w2.cell? ⟨g, 1, none⟩ = some (.int .u8 (v / 256)) := hcell 1 (by simp)
      clear hcell hfz hcur htk hlc hcm
      subst hv
      have hbw : Below w.heap.size w w2 := (((belowAlloc _ _).trans hb1).trans (((belowAlloc _ _).mono (by have := hb1.size; simp at this; omega)).trans hb2))
      go_wp2_with fail
      refine wp_loop_rounds 3 ?_
      rw [rounds_succ]
      go_wp2_with (at_builtin; refine app _ rfl _ _ rfl w2.heap.size _ [] rfl (Row.nil _ _) ⟨w2.heap.size, 0, none⟩ 1 1 [v / 256] rfl rfl ?e1a (by simp) ?e1b ?e1c)
      case e1a => exact cell1 _ _
      case e1b => simp
      case e1c =>
        intro u1 y1 hq1 hd1
        have hq1 : Row y1 w2.heap.size u1 [v / 256] := hq1
        have hy1 : Below w2.heap.size w2 y1 := (belowAlloc _ _).trans hd1
        have hc0_1 : y1.cell? ⟨g, 0, none⟩ = some (.int .u8 (v % 256)) := (hy1.cell (p := ⟨g, 0, none⟩) hgs).trans hc0
        have hc1_1 : y1.cell? ⟨g, 1, none⟩ = some (.int .u8 (v / 256)) := (hy1.cell (p := ⟨g, 1, none⟩) hgs).trans hc1
        go_wp2_with fail
        rw [rounds_succ]
        go_wp2_with (at_builtin; refine app _ rfl _ _ rfl w2.heap.size _ [v / 256] rfl (Row.keep hq1 (belowAlloc _ _)) ⟨y1.heap.size, 0, none⟩ 1 1 [v % 256] rfl rfl ?e2a (by simp) ?e2b ?e2c)
        case e2a => exact cell1 _ _
        case e2b => have := hy1.size; simp; omega
        case e2c =>
          intro u2 y2 hq2 hd2
          have hq2 : Row y2 w2.heap.size u2 [v / 256, v % 256] := hq2
          have hy2 : Below w2.heap.size w2 y2 := hy1.trans (((belowAlloc _ _).mono hy1.size).trans hd2)
          go_wp2_with fail
          rw [rounds_succ]
          go_wp2_with fail
          go_ret
          exact ⟨_, rfl, hq2.mono hbw.size, hbw.trans (hy2.mono hbw.size)⟩

set_option maxRecDepth 100000 in
set_option maxHeartbeats 1000000 in
theorem aint4 (v : Int) (w : World) (h0 : 32768 ≤ v) (h1 : v < 65536) :
    Calls Ybaf.prog 9 #[.int .u64 v] w fun e w' => ∃ x, e = .returned x ∧ Row w' w.heap.size x [0, v / 256, v % 256] ∧ Below w.heap.size w w' := by
  have hand := and128_hi (v / 256) (by omega) (by omega)
  go_enter Ybaf.func9, Ybaf.ntmps9
  go_wp2
  refine wp_loop_rounds 2 ?_
  rw [rounds_succ]
  go_wp2_with (at_builtin; refine app _ rfl _ _ rfl w.heap.size _ [] rfl (Row.nil _ _) ⟨w.heap.size, 0, none⟩ 1 1 [v % 256] rfl rfl ?c0a (by simp) ?c0b ?c0c)
  case c0a => exact cell1 _ _
  case c0b => simp
  case c0c =>
    intro v1 w1 hr1 hb1
    have hr1 : Row w1 w.heap.size v1 [v % 256] := hr1
    go_wp2_with fail
    rw [rounds_succ]
    go_wp2_with (at_builtin; refine app _ rfl _ _ rfl w.heap.size _ [v % 256] rfl (Row.keep hr1 (belowAlloc _ _)) ⟨w1.heap.size, 0, none⟩ 1 1 [v / 256] rfl rfl ?c1a (by simp) ?c1b ?c1c)
    case c1a => exact cell1 _ _
    case c1b => have := hb1.size; simp at this ⊢; omega
    case c1c =>
      intro v2 w2 hr2 hb2
      have hr2 : Row w2 w.heap.size v2 [v % 256, v / 256] := hr2
      obtain ⟨g, cap, hv, hg, hgs, hlc, hcm, hcell, hfz, cur, hcur, htk⟩ := hr2.form (by simp)
      have hv : v2 = .slice (some ⟨g, 0, none⟩) 2 cap := hv
      have hc0 : w2.cell? ⟨g, 0, none⟩ = some (.int .u8 (v % 256)) := hcell 0 (by simp)
      have hc1 : w2.cell? ⟨g, 1, none⟩ = some (.int .u8 (v / 256)) := hcell 1 (by simp)
      clear hcell hfz hcur htk hlc hcm
      subst hv
      have hbw : Below w.heap.size w w2 := (((belowAlloc _ _).trans hb1).trans (((belowAlloc _ _).mono (by have := hb1.size; simp at this; omega)).trans hb2))
      go_wp2_with (at_builtin; refine app _ rfl _ _ rfl w2.heap.size _ [] rfl (Row.nil _ _) ⟨w2.heap.size, 0, none⟩ 1 1 [0] rfl rfl ?za (by simp) ?zb ?zc)
      case za => exact cell1 _ _
      case zb => simp
      case zc =>
        intro u0 y0 hq0 hd0
        have hq0 : Row y0 w2.heap.size u0 [0] := hq0
        have hy0 : Below w2.heap.size w2 y0 := (belowAlloc _ _).trans hd0
        have hc0' : y0.cell? ⟨g, 0, none⟩ = some (.int .u8 (v % 256)) := (hy0.cell (p := ⟨g, 0, none⟩) hgs).trans hc0
        have hc1' : y0.cell? ⟨g, 1, none⟩ = some (.int .u8 (v / 256)) := (hy0.cell (p := ⟨g, 1, none⟩) hgs).trans hc1
        go_wp2_with fail
        refine wp_loop_rounds 3 ?_
        rw [rounds_succ]
        go_wp2_with (at_builtin; refine app _ rfl _ _ rfl w2.heap.size _ [0] rfl (Row.keep hq0 (belowAlloc _ _)) ⟨y0.heap.size, 0, none⟩ 1 1 [v / 256] rfl rfl ?e1a (by simp) ?e1b ?e1c)
        case e1a => exact cell1 _ _
        case e1b => have := hy0.size; simp; omega
        case e1c =>
          intro u1 y1 hq1 hd1
          have hq1 : Row y1 w2.heap.size u1 [0, v / 256] := hq1
          have hy1 : Below w2.heap.size w2 y1 := hy0.trans (((belowAlloc _ _).mono hy0.size).trans hd1)
          have hc0_1 : y1.cell? ⟨g, 0, none⟩ = some (.int .u8 (v % 256)) := (hy1.cell (p := ⟨g, 0, none⟩) hgs).trans hc0
          have hc1_1 : y1.cell? ⟨g, 1, none⟩ = some (.int .u8 (v / 256)) := (hy1.cell (p := ⟨g, 1, none⟩) hgs).trans hc1
          go_wp2_with fail
          rw [rounds_succ]
          go_wp2_with (at_builtin; refine app _ rfl _ _ rfl w2.heap.size _ [0, v / 256] rfl (Row.keep hq1 (belowAlloc _ _)) ⟨y1.heap.size, 0, none⟩ 1 1 [v % 256] rfl rfl ?e2a (by simp) ?e2b ?e2c)
          case e2a => exact cell1 _ _
          case e2b => have := hy1.size; simp; omega
          case e2c =>
            intro u2 y2 hq2 hd2
            have hq2 : Row y2 w2.heap.size u2 [0, v / 256, v % 256] := hq2
            have hy2 : Below w2.heap.size w2 y2 := hy1.trans (((belowAlloc _ _).mono hy1.size).trans hd2)
            go_wp2_with fail
            rw [rounds_succ]
            go_wp2_with fail
            go_ret
            exact ⟨_, rfl, hq2.mono hbw.size, hbw.trans (hy2.mono hbw.size)⟩

/-- The contents of a non-negative BER INTEGER below 2^16. -/
def encI (v : Int) : List Int := if v < 128 then [v] else if v < 256 then [0, v] else if v < 32768 then [v / 256, v % 256] else [0, v / 256, v % 256]

theorem aint (v : Int) (w : World) (h0 : 0 ≤ v) (h1 : v < 65536) :
    Calls Ybaf.prog 9 #[.int .u64 v] w fun e w' => ∃ x, e = .returned x ∧ Row w' w.heap.size x (encI v) ∧ Below w.heap.size w w' := by
  unfold encI
  by_cases a : v < 128
  · rw [if_pos a]; exact aint1 v w h0 a
  · rw [if_neg a]
    by_cases b : v < 256
    · rw [if_pos b]; exact aint2 v w (by omega) b
    · rw [if_neg b]
      by_cases c : v < 32768
      · rw [if_pos c]; exact aint3 v w (by omega) c
      · rw [if_neg c]; exact aint4 v w (by omega) h1
theorem encI_len (v : Int) : 1 ≤ (encI v).length ∧ (encI v).length ≤ 3 := by
  unfold encI; split <;> (try split) <;> (try split) <;> simp
theorem encI_byte (v : Int) (h0 : 0 ≤ v) (h1 : v < 65536) : ∀ x ∈ encI v, 0 ≤ x ∧ x < 256 := by
  unfold encI
  split
  · intro x hx; simp at hx; omega
  · split
    · intro x hx; simp at hx; omega
    · split <;> (intro x hx; simp at hx; omega)
end Go.Proofs.YbulkcvzcFmt
