/- The law itself. -/
import Derived.Test.YbulkcvzqFmtLawB
set_option linter.unusedSimpArgs false
set_option linter.unusedVariables false
namespace Go.Proofs.YbulkcvzqFmt
open Go.RowKit

set_option maxRecDepth 100000 in
set_option maxHeartbeats 8000000 in
theorem law_zero (a0 a1 a2 : Option Addr) (n c0 k c1 t c2 : Nat) (idx : Int) (Z0 Z1 Z2 : Nat → Int) (w : World) (hn : n ≤ 1024) (hk : k ≤ 1024) (ht : t ≤ 1024)
    (h0 : IsIn .u8 0 255 w a0 n c0 Z0) (h1 : IsIn .i8 (-128) 127 w a1 k c1 Z1) (h2 : IsIn .u16 0 65535 w a2 t c2 Z2) (hp0 : Hid (n = 0)) :
    Calls Ybaf.prog 3 #[.slice a0 n c0, .slice a1 k c1, .slice a2 t c2, .int .i64 idx] w fun r w' => r = .returned (.bool true) ∧ Since w w' := by
  have hmm := @run_makeMap Ybaf.prog
  obtain ⟨i3, hi3, hz3, hs3, hy3⟩ := info_parts Ybaf.info3
  obtain ⟨i4, hi4, hz4, hs4, hy4⟩ := info_parts Ybaf.info4
  obtain ⟨i43, hi43, hz43, hs43, hy43⟩ := info_parts Ybaf.info43
  obtain ⟨i58, hi58, hz58, hs58, hy58⟩ := info_parts Ybaf.info58
  obtain ⟨own, hown⟩ : ∃ own : Nat → Nat, own = fun x => (Z0 x % (k + 1 : Int)).toNat := ⟨_, rfl⟩
  obtain ⟨wri, hwri⟩ : ∃ wri : Nat → Bool, wri = fun x => decide (128 ≤ Z0 x) := ⟨_, rfl⟩
  have HOWN := Hid.mk hown
  have HWRI := Hid.mk hwri
  clear hown hwri
  go_enter Ybaf.func3, Ybaf.ntmps3
  go_wp2_with (first | (at_make; refine mkN _ rfl _ _ 42 rfl 3 i3 _ Ybaf.underlying42 hi3 hz3 n rfl rfl (by rw [hy3]; omega) hn ?_; rw [hs3]) | (at_make; refine mkN _ rfl _ _ 32 rfl 43 i43 _ Ybaf.underlying32 hi43 hz43 k rfl rfl (by rw [hy43]; omega) hk ?_; rw [hs43]))
  have hbd := bd0 w n k idx own Z1 wri hn hk rfl
  have hctx : Ctx { base := w.heap.size, n := n, k := k, idx := idx, own := own, lead := Z1, wr := wri, sb := w.heap.size + 1 + 1 + 1 + 1, am := w.heap.size, pm := w.heap.size + 1, rm := w.heap.size + 1 + 1, um := w.heap.size + 1 + 1 + 1, AB := fun _ => 0, MB := fun _ => 0, PB := fun _ => 0, QB := fun _ => 0, TS := fun _ => .slice none 0 0 } w.heap.size n k (w.heap.size + 1 + 1 + 1 + 1) idx own Z1 wri := ⟨rfl, rfl, rfl, rfl, rfl, rfl, rfl, rfl⟩
  have hTS : ∀ j : Nat, ({ base := w.heap.size, n := n, k := k, idx := idx, own := own, lead := Z1, wr := wri, sb := w.heap.size + 1 + 1 + 1 + 1, am := w.heap.size, pm := w.heap.size + 1, rm := w.heap.size + 1 + 1, um := w.heap.size + 1 + 1 + 1, AB := fun _ => 0, MB := fun _ => 0, PB := fun _ => 0, QB := fun _ => 0, TS := fun _ => .slice none 0 0 } : Dat).TS j = .slice none 0 0 := fun _ => rfl
  generalize ({ base := w.heap.size, n := n, k := k, idx := idx, own := own, lead := Z1, wr := wri, sb := w.heap.size + 1 + 1 + 1 + 1, am := w.heap.size, pm := w.heap.size + 1, rm := w.heap.size + 1 + 1, um := w.heap.size + 1 + 1 + 1, AB := fun _ => 0, MB := fun _ => 0, PB := fun _ => 0, QB := fun _ => 0, TS := fun _ => .slice none 0 0 } : Dat) = d0 at hbd hctx hTS
  simp only [shC] at hbd
  generalize hW0 : World.alloc _ (.cells (madeCells #[Value.pointer none] k) 43) = W0 at hbd ⊢
  obtain ⟨sb, hsb⟩ : ∃ sb, sb = w.heap.size + 1 + 1 + 1 + 1 := ⟨_, rfl⟩
  obtain ⟨ob, hob⟩ : ∃ ob, ob = w.heap.size + 1 + 1 + 1 + 1 + 1 := ⟨_, rfl⟩
  obtain ⟨pb, hpb⟩ : ∃ pb, pb = w.heap.size + 1 + 1 + 1 + 1 + 1 + 1 := ⟨_, rfl⟩
  rw [← hpb, ← hob] at hbd
  rw [← hsb] at hctx
  rw [← hpb, ← hob, ← hsb]
  clear hW0 hsb hob hpb hi43 hz43 hs43 hy43
  go_loopw [14] (fun iv wr => ∃ (i : Nat) (d : Dat), i ≤ k ∧ iv = .int .i64 i ∧ Bd w wr d i 0 0 0 ob pb ∧ Ctx d w.heap.size n k sb idx own Z1 wri ∧ ∀ j, d.TS j = .slice none 0 0) (fun iv _ => k - (intOf iv).toNat)
  case atStart => exact ⟨0, d0, Nat.zero_le _, rfl, hbd, hctx, hTS⟩
  case round =>
    clear hbd hctx hTS
    obtain ⟨i, d, hik, rfl, hbd, hctx, hTS⟩ := hrel
    have HC := Hid.mk hctx
    by_cases hlt : i < k
    · obtain ⟨hlc, hcm, hO'⟩ := h1
      rcases hO' with e | ⟨b1, off1, rfl, hcell⟩
      · omega
      · obtain ⟨zl, zh, x0⟩ := hcell i hlt
        have y0 := hbd.sc.cell x0
        have l0 := sizeOf_cell y0
        simp only at l0
        have hik' : i < d.k := by rw [hctx.k]; exact hlt
        have p0 := hbd.pbr.cell hik'
        rw [if_neg (Nat.lt_irrefl i)] at p0
        have pz := hbd.pbr.frozen i
        have lp := hbd.pbr.lt
        unfold maxLen at hcm
        clear hcell x0 hctx
        go_wp2_with fail
        obtain ⟨W1, hW1⟩ : ∃ W1, W1 = ((wr.setCell ⟨pb, i, none⟩ (ptr (wr.heap.size + 1))).alloc (.cells (qaC (1000 + i) d.idx) 47)).alloc (.cells (paC wr.heap.size (d.lead i) (.slice none 0 0)) 52) := ⟨_, rfl⟩
        obtain ⟨q1, q2, q3, q4, q5⟩ := hbd.partW1 hik' hW1
        have hW1' := hW1
        rw [HC.out.idx, HC.out.lead] at hW1'
        simp only [qaC, paC, ptr] at hW1'
        rw [← hW1']
        rw [HC.out.sb] at q3 q5
        obtain ⟨w3, hr3, hmp3, ht3⟩ := (q1.since Since.dr).store Ybaf.underlying27 (x := 1000 + i) (w64 (by omega) (by omega)) (.pointer (some ⟨wr.heap.size + 1, 0, none⟩)) (by omega)
        have hbd3 := hbd.part hik' hTS hW1 ht3 (by
          have e : (partF d i (fun _ => false) (1000 + i)).isSome = false := by
            simp only [partF]
            rw [if_neg (by omega)]
            rfl
          rw [e] at hmp3
          simp only [Bool.false_eq_true, if_false] at hmp3
          exact hmp3)
        have hctx3 : Ctx { d with PB := upd d.PB i (wr.heap.size + 1), QB := upd d.QB i wr.heap.size } w.heap.size n k sb idx own Z1 wri := ⟨HC.out.b, HC.out.n, HC.out.k, HC.out.sb, HC.out.idx, HC.out.own, HC.out.lead, HC.out.wr⟩
        have hTS3 : ∀ j, ({ d with PB := upd d.PB i (wr.heap.size + 1), QB := upd d.QB i wr.heap.size } : Dat).TS j = .slice none 0 0 := hTS
        generalize ({ d with PB := upd d.PB i (wr.heap.size + 1), QB := upd d.QB i wr.heap.size } : Dat) = d3 at hbd3 hctx3 hTS3
        clear hbd HC hTS hmp3 ht3 hW1 hW1' y0 l0 p0 pz lp q1
        go_region
        clear q2 q3 q4 q5 hr3
        go_wp2
        go_roundw
        case rel => exact ⟨i + 1, d3, by omega, by go_num, hbd3, hctx3, hTS3⟩
        case measure => simp [intOf]; omega
    · have hik2 : k = i := by omega
      subst hik2
      clear hlt hik
      go_wp2_with fail
      go_loopw [15] (fun iv wr => ∃ (a : Nat) (d : Dat), a ≤ n ∧ iv = .int .i64 a ∧ Bd w wr d k a a a ob pb ∧ Ctx d w.heap.size n k sb idx own Z1 wri) (fun iv _ => n - (intOf iv).toNat)
      case atStart => exact ⟨0, d, Nat.zero_le _, rfl, hbd, hctx⟩
      case round =>
        clear hbd hctx hTS HC
        obtain ⟨a, d, han, rfl, hbd, hctx⟩ := hrel
        have HC := Hid.mk hctx
        by_cases hlt : a < n
        · have := hp0.out
          omega
        · have hik2 : n = a := by omega
          subst hik2
          clear hlt han
          obtain ⟨WB, rfl⟩ : ∃ WB, WB = wr := ⟨_, rfl⟩
          have hst := (show Bd w WB d d.k d.n n d.n ob pb by rw [HC.out.k, HC.out.n]; exact hbd).st
          have HBD := Hid.mk hbd
          have lsz := hbd.sc.size
          clear hbd hmm
          by_cases hn0 : 0 < n
          case' pos =>
            have := hp0.out
            omega
          case' neg =>
            obtain ⟨WP, hWP⟩ : ∃ WP, WP = WB := ⟨_, rfl⟩
            rw [← hWP]
            obtain ⟨PT, hPT⟩ : ∃ PT : List Nat, PT = [] := ⟨_, rfl⟩
            have hrow : RowL WP WB.heap.size 58 2 ptC (.slice none 0 0) PT := by rw [hPT]; exact RowL.nil _ _ _ _ _
            have hS2 : Since WB WP := by rw [hWP]; exact Since.refl _
            have HPT : Hid (∀ u ∈ PT, u < n) := ⟨by rw [hPT]; simp⟩
            have HPle : Hid (PT.length ≤ 1024) := ⟨by rw [hPT]; simp⟩
            have HP0 : Hid (PT.length = 0) := ⟨by rw [hPT]; rfl⟩
            clear hWP hPT
          all_goals
            go_wp2_with fail
            have hTA : d.base ≤ WB.heap.size := by rw [HBD.out.bs]; exact HBD.out.sc.size
            have esb := HC.out.sb
            subst esb
            refine (seize_any d (WP.heap.size + 1) WP.heap.size 0 _ PT _ (hst.since ((since2 _ _ _).then hS2)) (allocTop2 _ _ _) ((hrow.lower hTA).since (since2 _ _ _)) (by rw [HC.out.n]; exact HPT.out) HPle.out).mono ?_
            rintro r4 w4 ⟨rfl, hT4, hst4⟩
            have hpB4 := hT4.keep (allocTop2 _ _ _) (by decide)
            have hqB4 := hT4.keep (allocTop1 _ _ _) (by decide)
            have hob4 := ((HBD.out.obr.since hS2).since (since2 _ _ _)).tf hT4 (by decide)
            have hpb4 := ((HBD.out.pbr.since hS2).since (since2 _ _ _)).tf hT4 (by decide)
            have hrow4 := hT4.row (hrow.since (since2 _ _ _)) (by decide)
            have hS4 : Since w w4 := ((since2 _ _ _).then (hS2.then HBD.out.sc)).tf hT4 (by rw [HBD.out.bs]; exact Nat.le_refl _)
            clear hrow hS2 hst HBD hT4 lsz
            have en := HC.out.n
            have ek := HC.out.k
            have eown := HC.out.own
            have eidx := HC.out.idx
            have elead := HC.out.lead
            subst en ek eown eidx elead
            have hPle := HPle.out
            have gm := Cells.made w4 4 d.k (.bool false) rfl
            have hcb : (Value.bool false).cells = #[Value.bool false] := rfl
            rw [hcb] at gm
            have hS45 := Since.new w4 (.cells (madeCells #[Value.bool false] d.k) 4)
            obtain ⟨gb, hgb⟩ : ∃ gb, gb = w4.heap.size := ⟨_, rfl⟩
            have hgb4 : w4.heap.size ≤ gb := by omega
            go_wp2_with (first | (at_make; refine mkN _ rfl _ _ 31 rfl 4 i4 _ Ybaf.underlying31 hi4 hz4 d.k rfl rfl (by rw [hy4]; omega) hk ?_; rw [hs4]))
            rw [← hgb] at gm ⊢
            generalize hW5 : w4.alloc (.cells (madeCells #[Value.bool false] d.k) 4) = W5 at *
            clear hW5 hgb
            go_loopw [23, 189] (fun ov iv wr => ∃ j : Nat, j ≤ PT.length ∧ iv = .int .i64 j ∧ Since w4 wr ∧ Cells wr gb 4 d.k (fun x => .bool ((roll d.own d.k (PT.take j)).1 x)) ∧ RowL wr w4.heap.size 3 1 orC ov (roll d.own d.k (PT.take j)).2) (fun _ iv _ => PT.length - (intOf iv).toNat)
            case atStart => exact ⟨0, Nat.zero_le _, rfl, hS45, gm, RowL.nil _ _ _ _ _⟩
            case' round =>
              obtain ⟨j, hjP, rfl, hS6, hg6, ho6⟩ := hrel
              by_cases hlt : j < PT.length
              case pos =>
                exfalso
                have := HP0.out
                omega
              case' neg =>
                have hjP2 : j = PT.length := by omega
                subst hjP2
                rw [List.take_length] at hg6 ho6
                clear hlt hjP
                have hst6 := hst4.since hS6
                have hok6 := roll_ok d.own d.k PT
                have hlen6 := roll_len d.own d.k PT
                have hSw := hS6.then hS4
                obtain ⟨W6, rfl⟩ : ∃ W6, W6 = wr := ⟨_, rfl⟩
                have hob6 := hob4.since hS6
                have hpb6 := hpb4.since hS6
                have hpB6 := hS6.keep hpB4
                have hqB6 := hS6.keep hqB4
                have hrow6 := hrow4.since hS6
                clear hst4 hS6 hob4 hpb4 hpB4 hqB4 hrow4 gm hS45
                obtain ⟨oa, ocap, rfl, _⟩ := ho6.form
                obtain ⟨uo, hsh6, hout6⟩ := hst6.sh
                obtain ⟨xa, xcap, rfl, _⟩ := hout6.form
                have s21 : W6.cell? ⟨d.sb, 21, none⟩ = some (.slice xa (roll d.own d.k PT).2.length xcap) := cellOf hsh6
                have lsb := sizeOf_block hsh6
                go_wp2_with fail
                generalize hrl : roll d.own d.k PT = s at *
                clear hrl
                go_loopw [226] (fun iv wr => ∃ j : Nat, j ≤ s.2.length ∧ iv = .int .i64 j ∧ Since W6 wr) (fun iv _ => s.2.length - (intOf iv).toNat)
                case atStart => exact ⟨0, Nat.zero_le _, rfl, Since.refl _⟩
                case' round =>
                  obtain ⟨j, hjs, rfl, hS7⟩ := hrel
                  by_cases hlt : j < s.2.length
                  case pos =>
                    obtain ⟨go, rfl, _⟩ := ho6.at hlt
                    obtain ⟨gx, rfl, _⟩ := hout6.at hlt
                    obtain ⟨o, ho⟩ : ∃ o, s.2[j]? = some o := ⟨s.2[j], List.getElem?_eq_getElem hlt⟩
                    have hokk := (hok6.mem o (List.mem_of_getElem? ho)).1
                    have r0 := ((ho6.since hS7).cell orC_len (i := 0) (u := .int .i64 o) ho (by omega) rfl rfl).1
                    simp only [Nat.mul_one, Nat.add_zero] at r0
                    have m0 := ((hout6.since hS7).cell (msgC_len _ _) (i := 0) (u := .int .i64 d.idx) ho (by omega) rfl rfl).1
                    have m1 := ((hout6.since hS7).cell (msgC_len _ _) (i := 1) (u := .int .i64 (d.lead o)) ho (by omega) rfl rfl).1
                    have m2 := ((hout6.since hS7).cell (msgC_len _ _) (i := 2) (u := .int .i64 8) ho (by omega) rfl rfl).1
                    have m3 := ((hout6.since hS7).cell (msgC_len _ _) (i := 3) (u := .int .i64 (1000 + o)) ho (by omega) rfl rfl).1
                    have m4 := ((hout6.since hS7).cell (msgC_len _ _) (i := 4) (u := .int .u8 11) ho (by omega) rfl rfl).1
                    have m5 := ((hout6.since hS7).cell (msgC_len _ _) (i := 5) (u := .pointer none) ho (by omega) rfl rfl).1
                    simp only [Nat.add_zero] at m0
                    have s21' := hS7.cell s21
                    have lsb' := Nat.lt_of_lt_of_le lsb hS7.size
                    have lr0 := sizeOf_cell r0
                    have lm0 := sizeOf_cell m0
                    simp only at lr0 lm0
                    obtain ⟨hlc, hcm, hO'⟩ := h1
                    rcases hO' with e | ⟨b1, off1, rfl, hcell⟩
                    · omega
                    · obtain ⟨zl, zh, x0⟩ := hcell o hokk
                      have hSb := Since.new wr (.cells #[.int .i64 d.idx, .int .i64 (d.lead o), .int .i64 8, .int .i64 (1000 + o), .int .u8 11, .pointer none] 63)
                      have hBb := newBlock wr (.cells #[.int .i64 d.idx, .int .i64 (d.lead o), .int .i64 8, .int .i64 (1000 + o), .int .u8 11, .pointer none] 63)
                      have hS8 := hSb.then hS7
                      have y0 := (hS8.then hSw).cell x0
                      have l0 := sizeOf_cell y0
                      simp only at l0
                      unfold maxLen at hcm
                      clear hcell x0 ho
                      go_wp2_with fail
                      obtain ⟨mb, hmb⟩ : ∃ mb, mb = wr.heap.size := ⟨_, rfl⟩
                      rw [← hmb] at hBb ⊢
                      generalize hW8 : wr.alloc (.cells #[.int .i64 d.idx, .int .i64 (d.lead o), .int .i64 8, .int .i64 (1000 + o), .int .u8 11, .pointer none] 63) = W8 at *
                      have e0 : W8.cell? ⟨mb, 0, none⟩ = some (.int .i64 d.idx) := cellOf hBb
                      have e1 : W8.cell? ⟨mb, 1, none⟩ = some (.int .i64 (d.lead o)) := cellOf hBb
                      have e2 : W8.cell? ⟨mb, 2, none⟩ = some (.int .i64 8) := cellOf hBb
                      have e3 : W8.cell? ⟨mb, 3, none⟩ = some (.int .i64 (1000 + o)) := cellOf hBb
                      have e4 : W8.cell? ⟨mb, 4, none⟩ = some (.int .u8 11) := cellOf hBb
                      have e5 : W8.cell? ⟨mb, 5, none⟩ = some (.pointer none) := cellOf hBb
                      have lmb := sizeOf_block hBb
                      clear hW8 hmb hSb hBb hS7 r0 m0 m1 m2 m3 m4 m5 s21' lsb' lr0 lm0
                      go_quiet (fail)
                      have hS9 := Since.drewN nq hS8
                      generalize hW9 : W8.drewN nq = W9 at *
                      clear hW9 hS8 y0 l0 e0 e1 e2 e3 e4 e5 lmb
                      go_wp2
                      go_roundw
                      case rel => exact ⟨j + 1, by omega, by go_num, hS9⟩
                      case measure => simp [intOf]; omega
                  case' neg =>
                    have hjs2 : j = s.2.length := by omega
                    subst hjs2
                    obtain ⟨W7, rfl⟩ : ∃ W7, W7 = wr := ⟨_, rfl⟩
                    clear hlt hjs
                    have hst7 := hst6.since hS7
                    have hg7 := hg6.since hS7
                    have hob7 := hob6.since hS7
                    have hpb7 := hpb6.since hS7
                    have hpB7 := hS7.keep hpB6
                    have hqB7 := hS7.keep hqB6
                    have hSw7 := hS7.then hSw
                    have hsh7 := hS7.keep hsh6
                    have hlU := hst7.mU.len Ybaf.underlying28 3
                    have hlP := hst7.mP.len Ybaf.underlying27 3
                    have hlA := hst7.fx.mA.len Ybaf.underlying26 3
                    have hcast : ((d.k - s.2.length : Nat) : Int) = (d.k : Int) - s.2.length := by omega
                    rw [hcast] at hlP
                    clear hcast
                    have t5 : W7.cell? ⟨d.sb, 5, none⟩ = some (.map (some d.am)) := cellOf hsh7
                    have t6 : W7.cell? ⟨d.sb, 6, none⟩ = some (.map (some d.pm)) := cellOf hsh7
                    have t7 : W7.cell? ⟨d.sb, 7, none⟩ = some (.map (some d.rm)) := cellOf hsh7
                    have t8 : W7.cell? ⟨d.sb, 8, none⟩ = some (.map (some d.um)) := cellOf hsh7
                    have t9 : W7.cell? ⟨d.sb, 9, none⟩ = some (.slice none 0 0) := cellOf hsh7
                    have t11 : W7.cell? ⟨d.sb, 11, none⟩ = some (.slice none 0 0) := cellOf hsh7
                    have lsb7 := sizeOf_block hsh7
                    clear hst6 hg6 hob6 hpb6 hpB6 hqB6 hSw hS7 hsh6 hout6 ho6 s21 lsb hrow6
                    go_wp2_with fail
                    clear hlU hlP hlA
                    go_loopw [30] (fun iv wr => ∃ i : Nat, i ≤ d.k ∧ iv = .int .i64 i ∧ Since W7 wr) (fun iv _ => d.k - (intOf iv).toNat)
                    case atStart => exact ⟨0, Nat.zero_le _, rfl, Since.refl _⟩
                    case' round =>
                      obtain ⟨i, hik, rfl, hS8⟩ := hrel
                      by_cases hlt : i < d.k
                      case pos =>
                        have hst8 := hst7.since hS8
                        have g8 := (hg7.since hS8).cell hlt
                        have lg8 := (hg7.since hS8).lt
                        have t6' := hS8.cell t6
                        have t8' := hS8.cell t8
                        have lsb8 := Nat.lt_of_lt_of_le lsb7 hS8.size
                        have hlook := fun nq => (hst8.since (Since.drewN nq (Since.refl wr))).lookU hlt
                        cases hsi : s.1 i
                        all_goals
                          rw [hsi] at g8 hlook
                          go_wp2_with fail
                          go_quiet (fail)
                          have hSq := Since.drewN nq (Since.refl wr)
                          have hst9 := hst8.since hSq
                          have hS9 := hSq.then hS8
                          have t69 := hSq.cell t6'
                          have g9 := hSq.cell g8
                          have lsb9 : d.sb < (wr.drewN nq).heap.size := Nat.lt_of_lt_of_le lsb8 hSq.size
                          have lg9 : gb < (wr.drewN nq).heap.size := Nat.lt_of_lt_of_le lg8 hSq.size
                          obtain ⟨v9, hv9⟩ := hst9.lookP hlt
                          rw [hsi] at hv9
                          generalize hW9 : wr.drewN nq = W9 at *
                          clear hW9 hSq hst8 hS8 g8 lg8 t6' t8' lsb8 hlook hsi
                          go_wp2_with fail
                          clear hv9 t69 g9 lsb9 lg9 hst9
                          go_wp2
                          go_roundw
                          case rel => exact ⟨i + 1, by omega, by go_num, hS9⟩
                          case measure => simp [intOf]; omega
                      case' neg =>
                        have hik2 : i = d.k := by omega
                        subst hik2
                        obtain ⟨W8, rfl⟩ : ∃ W8, W8 = wr := ⟨_, rfl⟩
                        have hst8 := hst7.since hS8
                        have hg8 := hg7.since hS8
                        have hob8 := hob7.since hS8
                        have hpb8 := hpb7.since hS8
                        have hpB8 := hS8.keep hpB7
                        have hqB8 := hS8.keep hqB7
                        have hSw8 := hS8.then hSw7
                        have hlA := hst8.fx.mA.len Ybaf.underlying26 3
                        have t58 := hS8.cell t5
                        have t78 := hS8.cell t7
                        have t98 := hS8.cell t9
                        have t118 := hS8.cell t11
                        have lsb8 := Nat.lt_of_lt_of_le lsb7 hS8.size
                        clear hlt hik hst7 hg7 hob7 hpb7 hpB7 hqB7 hSw7 hS8 t5 t6 t7 t8 t9 t11 lsb7 hsh7
                        go_wp2_with fail
                        clear hlA
                        go_loopw [34] (fun iv wr => ∃ a : Nat, a ≤ d.n ∧ iv = .int .i64 a ∧ Since W8 wr) (fun iv _ => d.n - (intOf iv).toNat)
                        case atStart => exact ⟨0, Nat.zero_le _, rfl, Since.refl _⟩
                        case' round =>
                          obtain ⟨a, han, rfl, hS9⟩ := hrel
                          by_cases hlt : a < d.n
                          case pos =>
                            exfalso
                            have := hp0.out
                            omega
                          case neg =>
                            have t99 := hS9.cell t98
                            have t79 := hS9.cell t78
                            have t119 := hS9.cell t118
                            have lsb9 := Nat.lt_of_lt_of_le lsb8 hS9.size
                            have hst9 := hst8.since hS9
                            have hlR := hst9.fx.mR.len Ybaf.underlying27 3
                            have hpB9 := hS9.keep hpB8
                            have hqB9 := hS9.keep hqB8
                            have x2 := cellOf (o := 2) hpB9
                            have x0 := cellOf (o := 0) hpB9
                            have y0 := cellOf (o := 0) hqB9
                            simp only [paC, ptr] at x2 x0
                            simp at x2 x0 y0
                            have lx := sizeOf_block hpB9
                            have ly := sizeOf_block hqB9
                            have hSf := hS9.then hSw8
                            clear hst9 hst8 hpB9 hqB9 hpB8 hqB8 hS9 hob8 hpb8 hg8 hSw8 t58 t78 t98 t118 lsb8
                            go_wp2_with fail
                            go_ret
                            exact ⟨rfl, hSf⟩
end Go.Proofs.YbulkcvzqFmt
