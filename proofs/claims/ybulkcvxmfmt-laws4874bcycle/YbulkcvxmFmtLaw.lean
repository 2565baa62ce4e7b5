/- The law (3): the walk. -/
import Derived.Test.YbulkcvxmFmtLaw0
import Derived.Test.YbulkcvxmFmtBuild
import Derived.BigQuiet
set_option linter.unusedSimpArgs false
set_option linter.unusedVariables false
namespace Go.Proofs.YbulkcvxmFmt
open Go.RowKit

theorem reach_lt {E : Nat → List Nat} {n i j : Nat} (h : ∀ i, i < n → ∀ v ∈ E i, v < n) (hi : i < n) (hr : Reach E i j) : j < n := by
  induction hr with
  | self => exact hi
  | step _ hv ih => exact h _ ih _ hv
theorem greatest_succ (own : Nat → Int) (S : Nat → Bool) (a : Int) (m : Nat) : greatest own S a (m + 1) = if S m then max (greatest own S a m) (own m) else greatest own S a m := rfl

set_option maxRecDepth 100000 in
set_option maxHeartbeats 2000000 in
theorem law_any (I : Nat → Rin) (a : Option Addr) (n cap : Nat) (ea : Addr) (T0 : TypeId) (w : World) (hI : Ins w a n cap I) (hT : Tab w) (hG : w.heap[0]? = some (.cells #[.iface 94 (.pointer (some ea))] T0)) :
    Calls Ybaf.prog 3 #[.slice a n cap] w fun r w' => r = .returned (.bool true) ∧ Since w w' := by
  have hcm := hI.cm
  have hnc := hI.nc
  unfold maxLen at hcm
  by_cases hn : n ≤ 300
  · go_enter Ybaf.func3, Ybaf.ntmps3
    go_wp2_with fail
    go_loop [3] (fun iv => ∃ i : Nat, i ≤ n ∧ iv = .int .i64 i ∧ ∀ k, k < i → (I k).inh.length ≤ 1024 ∧ (I k).gr.length ≤ 1024) (fun iv => n - (intOf iv).toNat)
    case atStart => exact ⟨0, Nat.zero_le _, rfl, fun k hk => absurd hk (Nat.not_lt_zero _)⟩
    case round =>
      obtain ⟨i, hi, rfl, hall⟩ := hrel
      have HALL := Hid.mk hall
      clear hall
      by_cases hlt : i < n
      · rcases hI.at' with e | ⟨b, off, rfl, hroles⟩
        · omega
        · have hR := hroles i hlt
          have x0 := hR.c0
          have x1 := hR.c1
          obtain ⟨va, vcap, hiv, -⟩ := hR.s0.ex
          obtain ⟨ua, ucap, hgv, -⟩ := hR.s1.ex
          rw [hiv] at x0
          rw [hgv] at x1
          have lx := sizeOf_cell x0
          simp only at lx
          obtain ⟨la, hla⟩ : ∃ la, la = (I i).inh.length := ⟨_, rfl⟩
          obtain ⟨lg, hlg⟩ : ∃ lg, lg = (I i).gr.length := ⟨_, rfl⟩
          rw [← hla] at x0
          rw [← hlg] at x1
          have HLA := Hid.mk hla
          have HLG := Hid.mk hlg
          clear hiv hgv hR hroles hla hlg
          by_cases h1 : 1024 < la
          · go_wp2
            go_ret
            exact ⟨rfl, Since.refl _⟩
          · by_cases h2 : 1024 < lg
            · go_wp2
              go_ret
              exact ⟨rfl, Since.refl _⟩
            · go_wp2
              go_round
              case rel => exact ⟨i + 1, by omega, by go_num, fun k hk => by
                by_cases e : k = i
                · subst e; rw [← HLA.out, ← HLG.out]; omega
                · exact HALL.out k (by omega)⟩
              case measure => simp [intOf]; omega
      · have hin : i = n := by omega
        subst hin
        go_wp2_with fail
        refine (edges_any I a i cap w hI hn (fun k hk => (HALL.out k hk).1)).mono ?_
        rintro r1 w1 ⟨hS1, eb, rfl, hebl, hE⟩
        go_wp2_with fail
        refine (build_any I a i cap eb w1 (hI.since hS1) hE (fun k hk => (HALL.out k hk).2) (hT.since hS1)).mono ?_
        rintro r2 w2 ⟨lb, mb, rb, F, rfl, hB⟩
        obtain ⟨g, hg⟩ : ∃ g, g = netOf I i mb rb := ⟨_, rfl⟩
        have hok : Gok g := by rw [hg]; exact hB.ok hE (fun k hk => (HALL.out k hk).2)
        have hN0 : Net w2 g [] (fun _ => 0) (fun _ => 0) F := by rw [hg]; exact hB.net
        have HSI : Hid (∀ w', Rf g none w2 w' → Since w w') := ⟨fun w' hr => (hB.rf (by rw [← hg]; exact hr)).then hS1⟩
        have HLST : Hid (∀ w', Rf g none w2 w' → Cells w' lb 35 i (fun k => .pointer (some ⟨rb k, 0, none⟩))) := ⟨fun w' hr => hB.lst (by rw [← hg]; exact hr)⟩
        have HED : Hid (∀ w', Rf g none w2 w' → Ed w' eb i (edgesOf I i)) := ⟨fun w' hr => hE.since (hB.rf (by rw [← hg]; exact hr))⟩
        have HGG : Hid (g.n = i ∧ g.rb = rb ∧ g.E = edgesOf I i ∧ g.mb = mb ∧ g.own = fun k => (I k).rank) := ⟨by rw [hg]; exact ⟨rfl, rfl, rfl, rfl, rfl⟩⟩
        have HNZ : Hid (∀ j, j < g.n → g.rb j ≠ 0) := ⟨fun j hj e => by
          rw [hg] at hj e
          have h1 : w1.heap.size ≤ rb j := hB.lr j hj
          have h2 := sizeOf_block (hS1.keep hG)
          have h3 : rb j = 0 := e
          omega⟩
        have hl2 := (HLST.out w2 (Rf.refl _ _ _)).lt
        clear hB hE hS1 hebl hg
        go_wp2_with fail
        go_loopw [7, 52] (fun ev iv wr => ∃ (j : Nat) (c : Nat → Nat) (R : Nat → Int) (F1 : Nat → Nat → Value), j ≤ i ∧ iv = .int .i64 j ∧ ev = .nilIface ∧ Rf g none w2 wr ∧ Net wr g [] c R F1 ∧ Rk g.E g.own c R ∧ Hid (allOf (vis g.E (i + 1)) (fun _ => 0) (List.range j) = some c)) (fun _ iv _ => i - (intOf iv).toNat)
        case atStart => exact ⟨0, _, _, _, Nat.zero_le _, rfl, rfl, Rf.refl _ _ _, hN0, Rk.none _ _ _, ⟨rfl⟩⟩
        case round =>
          obtain ⟨j, c, R, F1, hj, rfl, rfl, hrf, hN, hRk, HAL⟩ := hrel
          have hEw := HED.out wr hrf
          have hLw := HLST.out wr hrf
          obtain ⟨hd1, hd2⟩ := top_done (n := i) hj HAL.out
          have lcl := hLw.lt
          by_cases hjl : j < i
          · have y0 := hLw.cell hjl
            have hP0 : RowL wr 0 35 1 ptC (.slice none 0 0) (([] : List Nat).map g.rb) := RowL.nil _ _ _ _ _
            have hle : ∀ v, c v ≤ 2 := fun v => (allOf_kept (fun c v c' h => (vis_kept g.E (i + 1) c v c' h).1) HAL.out).le v (by simp)
            have hrec := resolve_any g hok 94 ea T0 (i + 1) c R F1 [] [] (.slice none 0 0) j wr hN hRk (by rw [HGG.out.1]; exact hjl) hle (by rw [HGG.out.1]; have := fresh_le c i; omega) hP0 (by simp) (fun k hk h1 => absurd h1 (hd1 k)) (by have := fresh_le c g.n; simp; omega) (by simp) ((HSI.out wr hrf).keep hG) HNZ.out (by simp [Value.ownBlock])
            rw [HGG.out.2.1, HGG.out.2.2.2.1] at hrec
            have HREC := Hid.mk hrec
            have HTOP := Hid.mk (top_snoc g.E i j)
            clear hrec hle hP0 hLw
            go_wp2_with fail
            refine HREC.out.mono ?_
            rintro r3 w3 ⟨hrf3, ⟨hn3, v3, rfl, hconf⟩ | ⟨c3, R3, F3, hs3, rfl, hN3, hRk3, -, -⟩⟩
            · obtain ⟨b3, x3, rfl, hb3⟩ := hconf.ex
              have hrf4 := hrf.trans hrf3 (fun b hb => by cases hb)
              have hE3 := HED.out w3 hrf4
              have htop : top (edgesOf I i) i = none := by
                rw [← HGG.out.2.2.1]
                exact top_none (j := j + 1) (by omega) (by rw [HTOP.out, HAL.out]; exact hn3)
              have hcy := cyclic_any (edgesOf I i) i eb w3 hE3
              rw [htop] at hcy
              have HCY := Hid.mk hcy
              have hS3 := HSI.out w3 hrf4
              have hG3 := hS3.keep hG
              clear hcy htop hn3 hrf3 hrf4 hE3 hrf hN hRk hd1 hd2 y0 lcl hEw HREC hconf
              go_wp2_with fail
              refine HCY.out.mono ?_
              rintro r4 w4 ⟨rfl, hS4⟩
              have c31 : w4.cell? ⟨b3, 1, none⟩ = some (.iface 94 (.pointer (some ea))) := cellOf (hS4.keep hb3)
              have l31 := sizeOf_block (hS4.keep hb3)
              have c00 : w4.cell? ⟨0, 0, none⟩ = some (.iface 94 (.pointer (some ea))) := cellOf (hS4.keep hG3)
              have l00 := sizeOf_block (hS4.keep hG3)
              have hSf := hS4.then hS3
              have heq := eqErr ea
              have has := as38 (.pointer (some ⟨b3, 0, none⟩))
              clear hb3 hG3 hS4 hS3 HCY
              simp only [Option.isNone_none] at *
              go_wp2
              go_quiet (fail)
              go_wp2
              go_ret
              exact ⟨rfl, hSf.drewN _⟩
            · have hrf4 := hrf.trans hrf3 (fun b hb => by cases hb)
              have HAL3 : Hid (allOf (vis g.E (i + 1)) (fun _ => 0) (List.range (j + 1)) = some c3) := ⟨by rw [HTOP.out, HAL.out]; exact hs3⟩
              clear hrf3 hs3 hN hrf HREC hRk hd1 hd2 y0 lcl hEw
              go_wp2
              go_roundw
              case rel => exact ⟨j + 1, c3, R3, F3, by omega, by go_num, rfl, hrf4, hN3, hRk3, HAL3⟩
              case measure => simp [intOf]; omega
          · have hji : j = i := by omega
            subst hji
            have htop : top (edgesOf I j) j = some c := by
              rw [← HGG.out.2.2.1]
              exact HAL.out
            have hcy := cyclic_any (edgesOf I j) j eb wr hEw
            rw [htop] at hcy
            have HCY := Hid.mk hcy
            have hSw := HSI.out wr hrf
            have HRL : Hid (∀ k, k < j → ∀ S : Nat → Bool, (∀ v, S v = true ↔ Reach (edgesOf I j) k v) → greatest (fun k => (I k).rank) S (I k).rank j = R k) := ⟨fun k hk S hS => by
              have hRk' := hRk
              rw [HGG.out.2.2.1, HGG.out.2.2.2.2] at hRk'
              exact rank_law hRk' (hd2 k hk) (fun v _ => hS v) (fun v hv => reach_lt hEw.lt hk hv)⟩
            have HR10 : Hid (∀ k, k < j → F1 k 10 = .int .i64 2 ∧ F1 k 9 = .int .i64 (R k)) := ⟨fun k hk => by
              have q := hN.role k (by rw [HGG.out.1]; exact hk)
              refine ⟨?_, q.f9 (hd2 k hk)⟩
              rw [q.f10, hd2 k hk]; rfl⟩
            have HCE : Hid (∀ k, k < j → Cells wr (rb k) 51 12 (F1 k)) := ⟨fun k hk => by
              have q := hN.cells k (by rw [HGG.out.1]; exact hk)
              rw [HGG.out.2.1] at q
              exact q⟩
            have HLW := Hid.mk hLw
            have HEW := Hid.mk hEw
            clear hcy htop hrf hN hRk hd1 hd2 hLw hEw HAL hN0 hl2
            go_wp2_with fail
            refine HCY.out.mono ?_
            rintro r4 w4 ⟨rfl, hS4⟩
            simp only [Option.isNone_some] at *
            have HS4 := Hid.mk hS4
            clear HCY hS4
            go_wp2_with fail
            obtain ⟨W4, hW4⟩ : ∃ W4, W4 = w4 := ⟨_, rfl⟩
            rw [← hW4] at HS4 ⊢
            clear hW4
            obtain ⟨W0, hW0⟩ : ∃ W0, W0 = wr := ⟨_, rfl⟩
            rw [← hW0] at HS4 HLW HEW HCE hSw
            clear hW0 lcl
            go_loopw [82] (fun iv wr => ∃ k : Nat, k ≤ j ∧ iv = .int .i64 k ∧ Since W4 wr) (fun iv _ => j - (intOf iv).toNat)
            case atStart => exact ⟨0, Nat.zero_le _, rfl, Since.refl _⟩
            case round =>
              obtain ⟨k, hk, rfl, hS5⟩ := hrel
              by_cases hkl : k < j
              · rcases hI.at' with e | ⟨b, off, rfl, hroles⟩
                · omega
                · have hS0 := hS5.then HS4.out
                  have y0 := (HLW.out.since hS0).cell hkl
                  have ly := (HLW.out.since hS0).lt
                  have hck := (HCE.out k hkl).since hS0
                  have d10 := hck.cell (x := 10) (by omega)
                  rw [(HR10.out k hkl).1] at d10
                  have lk := hck.lt
                  have hre := reach_any (edgesOf I j) j eb k wr (HEW.out.since hS0) hkl
                  have HRE := Hid.mk hre
                  have hS00 := hS0.then hSw
                  clear hre hck
                  go_wp2_with fail
                  refine HRE.out.mono ?_
                  rintro r6 w6 ⟨hS6, sb, S, rfl, hC6, hS⟩
                  have hS06 := hS6.then hS0
                  have hIw : ∀ v, v < j → w6.cell? ⟨b, off + v * 3 + 2, none⟩ = some (.int .i64 (I v).rank) := fun v hv => (hroles v hv |>.since (hS6.then hS00)).c2
                  have x2 := hIw k hkl
                  have lx := sizeOf_cell x2
                  simp only at lx
                  have d9 := ((HCE.out k hkl).since hS06).cell (x := 9) (by omega)
                  rw [(HR10.out k hkl).2] at d9
                  have l9 := ((HCE.out k hkl).since hS06).lt
                  have HGR := Hid.mk (HRL.out k hkl S hS)
                  have HIW := Hid.mk hIw
                  have HC6 := Hid.mk hC6
                  have hS7 := hS6.then hS5
                  have l6 := hC6.lt
                  clear HRE hIw hC6 hS hS6 hS5 hS0 hS00 hS06 y0 ly d10 lk hroles
                  go_wp2_with fail
                  go_loop [15, 16] (fun rv jv => ∃ m : Nat, m ≤ j ∧ jv = .int .i64 m ∧ rv = .int .i64 (greatest (fun k => (I k).rank) S (I k).rank m)) (fun _ jv => j - (intOf jv).toNat)
                  case atStart => exact ⟨0, Nat.zero_le _, rfl, rfl⟩
                  case round =>
                    obtain ⟨m, hm, rfl, rfl⟩ := hrel
                    by_cases hml : m < j
                    · have s0 := HC6.out.cell hml
                      have t2 := HIW.out m hml
                      have HGS := Hid.mk (greatest_succ (fun k => (I k).rank) S (I k).rank m)
                      generalize hG0 : greatest (fun k => (I k).rank) S (I k).rank m = G0 at *
                      simp only [seenF] at s0
                      clear x2
                      cases hSm : S m with
                      | true =>
                        rw [hSm] at s0
                        go_wp2
                        go_round
                        case rel => exact ⟨m + 1, by omega, by go_num, by rw [HGS.out, hSm]; rfl⟩
                        case measure => simp [intOf]; omega
                      | false =>
                        rw [hSm] at s0
                        go_wp2
                        go_round
                        case rel => exact ⟨m + 1, by omega, by go_num, by rw [HGS.out, hSm]; rfl⟩
                        case measure => simp [intOf]; omega
                    · have hmj : m = j := by omega
                      subst hmj
                      rw [HGR.out] at *
                      clear HGR
                      go_wp2
                      go_roundw
                      case rel => exact ⟨k + 1, by omega, by go_num, hS7⟩
                      case measure => simp [intOf]; omega
              · have hSf := (hS5.then HS4.out).then hSw
                clear hS5
                go_wp2
                go_ret
                exact ⟨rfl, hSf⟩
  · go_enter Ybaf.func3, Ybaf.ntmps3
    go_wp2
    go_ret
    exact ⟨rfl, Since.refl _⟩
end Go.Proofs.YbulkcvxmFmt
