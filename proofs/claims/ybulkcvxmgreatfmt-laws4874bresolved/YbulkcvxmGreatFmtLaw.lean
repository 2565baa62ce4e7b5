/- The law (3): the walk. -/
import Derived.Test.YbulkcvxmGreatFmtLaw2
import Derived.BigQuiet
set_option linter.unusedSimpArgs false
set_option linter.unusedVariables false
namespace Go.Proofs.YbulkcvxmGreatFmt
open Go.RowKit

set_option maxRecDepth 100000 in
set_option maxHeartbeats 4000000 in
theorem law_any (I : Nat → Rin) (a : Option Addr) (n cap : Nat) (w : World) (hI : Ins w a n cap I) (hT : Tab w) :
    Calls Ybaz.prog 3 #[.slice a n cap] w fun r w' => r = .returned (.bool true) ∧ Since w w' := by
  obtain ⟨i9, hi9, hz9, hs9, hy9⟩ := info_parts info9
  have hcm := hI.cm
  have hnc := hI.nc
  unfold maxLen at hcm
  by_cases hn : n ≤ 300
  · go_enter Ybaz.func3, Ybaz.ntmps3
    go_wp2_with fail
    go_loop [3] (fun iv => ∃ i : Nat, i ≤ n ∧ iv = .int .i64 i ∧ ∀ k, k < i → (I k).inh.length ≤ 1024 ∧ (I k).gr.length ≤ 1024) (fun iv => n - (intOf iv).toNat)
    case atStart => exact ⟨0, Nat.zero_le _, rfl, fun k hk => absurd hk (Nat.not_lt_zero _)⟩
    case round =>
      obtain ⟨i, hi, rfl, hall⟩ := hrel
      have HALL := Hid.mk hall
      clear hall
      by_cases hlt : i < n
      · rcases hI.at' with e | ⟨b, off, rfl, hroles⟩
        · omega
        · have hR := hroles i hlt
          have x0 := hR.c0
          have x1 := hR.c1
          obtain ⟨va, vcap, hiv, -⟩ := hR.s0.ex
          obtain ⟨ua, ucap, hgv, -⟩ := hR.s1.ex
          rw [hiv] at x0
          rw [hgv] at x1
          have lx := sizeOf_cell x0
          simp only at lx
          obtain ⟨la, hla⟩ : ∃ la, la = (I i).inh.length := ⟨_, rfl⟩
          obtain ⟨lg, hlg⟩ : ∃ lg, lg = (I i).gr.length := ⟨_, rfl⟩
          rw [← hla] at x0
          rw [← hlg] at x1
          have HLA := Hid.mk hla
          have HLG := Hid.mk hlg
          clear hiv hgv hR hroles hla hlg
          as_aux_lemma =>
            by_cases h1 : 1024 < la
            · go_wp2
              go_ret
              exact ⟨rfl, Since.refl _⟩
            · by_cases h2 : 1024 < lg
              · go_wp2
                go_ret
                exact ⟨rfl, Since.refl _⟩
              · go_wp2
                go_round
                case rel => exact ⟨i + 1, by omega, by go_num, fun k hk => by
                  by_cases e : k = i
                  · subst e; rw [← HLA.out, ← HLG.out]; omega
                  · exact HALL.out k (by omega)⟩
                case measure => simp [intOf]; omega
      · have hin : i = n := by omega
        subst hin
        go_wp2_with fail
        generalize hW0 : World.alloc w _ = W0
        have hS0 : Since w W0 := by rw [← hW0]; exact Since.new _ _
        obtain ⟨gb, hgb⟩ : ∃ gb, gb = w.heap.size := ⟨_, rfl⟩
        rw [← hgb]
        clear hW0 hgb
        refine (edges_any I a i cap W0 (hI.since hS0) hn (fun k hk => (HALL.out k hk).1)).mono ?_
        rintro r1 w1 ⟨hS1, eb, rfl, hebl, hE⟩
        go_wp2_with fail
        refine (build_any I a i cap eb gb w1 ((hI.since hS0).since hS1) hE (fun k hk => (HALL.out k hk).2) ((hT.since hS0).since hS1)).mono ?_
        rintro r2 w2 ⟨lb, mb, rb, F, rfl, hB⟩
        obtain ⟨g, hg⟩ : ∃ g, g = netOf I i gb mb rb := ⟨_, rfl⟩
        have hok : Gok g := by rw [hg]; exact hB.ok hE (fun k hk => (HALL.out k hk).2)
        have hN0 : Net w2 g (fun _ => 0) (fun _ => 0) (fun _ _ => 0) (fun _ => []) F := by rw [hg]; exact hB.net
        have hD0 := Dn.start hN0
        have HSI : Hid (∀ w', Rf g w2 w' → Since w w') := ⟨fun w' hr => (hB.rf (by rw [← hg]; exact hr)).then (hS1.then hS0)⟩
        have HLST : Hid (∀ w', Rf g w2 w' → Cells w' lb 44 i (fun k => .pointer (some ⟨rb k, 0, none⟩))) := ⟨fun w' hr => hB.lst (by rw [← hg]; exact hr)⟩
        have HED : Hid (∀ w', Rf g w2 w' → Ed w' eb i (edgesOf I)) := ⟨fun w' hr => hE.since (hB.rf (by rw [← hg]; exact hr))⟩
        have HGG : Hid (g.n = i ∧ g.rb = rb ∧ g.E = edgesOf I ∧ g.mb = mb ∧ g.own = (fun k => (I k).rank) ∧ g.G = gOf I ∧ g.gb = gb) := ⟨by rw [hg]; exact ⟨rfl, rfl, rfl, rfl, rfl, rfl, rfl⟩⟩
        have hl2 := (HLST.out w2 (Rf.refl _ _)).lt
        clear hB hE hS1 hebl hg hN0 hS0
        go_wp2_with fail
        go_loopw [71] (fun iv wr => ∃ (j : Nat) (R : Nat → Int) (Z : Nat → Nat → Nat) (K : Nat → List ByteArray) (F1 : Nat → Nat → Value), j ≤ i ∧ iv = .int .i64 j ∧ Dn g w2 j R Z K F1 wr) (fun iv _ => i - (intOf iv).toNat)
        case atStart => exact ⟨0, _, _, _, _, Nat.zero_le _, rfl, hD0⟩
        case round =>
          clear hD0
          obtain ⟨j, R, Z, K, F1, hj, rfl, hD⟩ := hrel
          have hLw := HLST.out wr hD.rf
          have lcl := hLw.lt
          by_cases hjl : j < i
          · as_aux_lemma =>
              have y0 := hLw.cell hjl
              have hjn : j < g.n := by rw [HGG.out.1]; exact hjl
              have hrec := resolve_new g hok (cj j) R Z K F1 j wr hD.net hjn (by unfold cj; rw [if_neg (Nat.lt_irrefl _)]) (fun v hv => by unfold cj; rw [if_pos (hok.elt j hjn v hv)])
              rw [HGG.out.2.1, HGG.out.2.2.2.1] at hrec
              have HREC := Hid.mk hrec
              have HD := Hid.mk hD
              have HJN := Hid.mk hjn
              clear hrec hLw hD hjn
              go_wp2_with fail
              refine HREC.out.mono ?_
              rintro r3 w3 ⟨rfl, hbt, m, T, l, f, hN3, hg3, hz3, hl3, hm3⟩
              have hD3 := HD.out.next hok HJN.out (by rw [HGG.out.2.1]; exact hbt) hN3 hg3 hz3 hl3 hm3
              clear hbt hN3 hg3 hz3 hl3 hm3 HREC y0 lcl
              go_wp2
              go_roundw
              case rel => exact ⟨j + 1, _, _, _, _, by omega, by go_num, hD3⟩
              case measure => simp [intOf]; omega
          · have hji : j = i := by omega
            subst hji
            have hSw := HSI.out wr hD.rf
            have HRL : Hid (∀ k, k < j → ∀ S : Nat → Bool, (∀ v, S v = true ↔ Reach (edgesOf I) k v) → greatest (fun k => (I k).rank) S (I k).rank j = R k) := ⟨fun k hk S hS => by
              have h1 := hD.rk
              rw [HGG.out.2.2.1, HGG.out.2.2.2.2.1] at h1
              exact rank_law h1 (by unfold cj; rw [if_pos hk]) (fun v _ => hS v) (fun v hv => reach_lt (HED.out wr hD.rf).lt hk hv)⟩
            have HRZ : Hid (∀ k, k < j → ∀ S : Nat → Bool, (∀ v, S v = true ↔ Reach (edgesOf I) k v) → ∀ x, x < 4 → greatest (fun v => (gz (gOf I v) x : Int)) S 0 j = (Z k x : Int)) := ⟨fun k hk S hS x hx => by
              have h1 := hD.rz x hx
              rw [HGG.out.2.2.1, HGG.out.2.2.2.2.2.1] at h1
              exact rank_law0 (c := cj j) (i := k) (R := fun i => (Z i x : Int)) h1 (by unfold cj; rw [if_pos hk]) (fun v _ => hS v) (fun v hv => reach_lt (HED.out wr hD.rf).lt hk hv) (by omega)⟩
            have HCD : Hid (∀ k, k < j → (∃ l0, K k = codesOf l0) ∧ ∀ s, s ∈ K k ↔ ∃ v, Reach (edgesOf I) k v ∧ s = codeS v) := ⟨fun k hk => by
              have h1 := hD.cd k hk
              rw [HGG.out.2.2.1] at h1
              exact h1⟩
            have HCE : Hid (∀ k, k < j → Cells wr (rb k) 56 12 (F1 k) ∧ F1 k 10 = .int .i64 2 ∧ F1 k 9 = .int .i64 (R k) ∧ (∃ e p, F1 k 6 = .map (some e) ∧ F1 k 7 = .map (some p) ∧ PS wr e p gb (Z k)) ∧ CodesL wr (F1 k 8) (K k) ∧ (K k).length ≤ 300) := ⟨fun k hk => by
              have hkn : k < g.n := by rw [HGG.out.1]; exact hk
              have q := hD.net.cells k hkn
              rw [HGG.out.2.1] at q
              have ro := hD.net.role k hkn
              have hc2 : cj j k = 2 := by unfold cj; rw [if_pos hk]
              rw [HGG.out.2.2.2.2.2.2] at ro
              exact ⟨q, by rw [ro.f10, hc2]; rfl, ro.f9 hc2, ro.pm hc2, (ro.codes hc2).1, (ro.codes hc2).2.2.1⟩⟩
            have HLW := Hid.mk hLw
            have HEW := Hid.mk (HED.out wr hD.rf)
            clear hD hLw lcl hl2
            go_wp2_with fail
            obtain ⟨Wd, hWd⟩ : ∃ Wd, Wd = wr := ⟨_, rfl⟩
            rw [← hWd] at HLW HEW HCE hSw ⊢
            clear hWd
            go_loopw [82] (fun iv wr => ∃ k : Nat, k ≤ j ∧ iv = .int .i64 k ∧ Since Wd wr) (fun iv _ => j - (intOf iv).toNat)
            case atStart => exact ⟨0, Nat.zero_le _, rfl, Since.refl _⟩
            case round =>
              obtain ⟨k, hk, rfl, hS5⟩ := hrel
              by_cases hkl : k < j
              · rcases hI.at' with e | ⟨b, off, rfl, hroles⟩
                · omega
                · obtain ⟨hck, f10, f9, ⟨me_, mp_, f6, f7, hPS⟩, hcodes, hc3⟩ := HCE.out k hkl
                  have y0 := (HLW.out.since hS5).cell hkl
                  have ly := (HLW.out.since hS5).lt
                  have d10 := (hck.since hS5).cell (x := 10) (by omega)
                  rw [f10] at d10
                  have lk := (hck.since hS5).lt
                  have HRE := Hid.mk (reach_any (edgesOf I) j eb k wr (HEW.out.since hS5) hkl)
                  have HROL := Hid.mk hroles
                  have HCK := Hid.mk hck
                  have HPS := Hid.mk hPS
                  have HCO := Hid.mk (And.intro hcodes hc3)
                  have HF := Hid.mk (And.intro f9 (And.intro f6 f7))
                  clear hck hPS hcodes hc3 f10 f9 f6 f7 hroles
                  go_wp2_with fail
                  refine HRE.out.mono ?_
                  rintro r6 w6 ⟨hS6, sb, S, rfl, hC6, hS⟩
                  have hS06 := hS6.then hS5
                  have x2 := ((HROL.out k hkl).since (hS06.then hSw)).c2
                  have lx := sizeOf_cell x2
                  simp only at lx
                  have HC6 := Hid.mk hC6
                  have l6 := hC6.lt
                  have HSS := Hid.mk hS
                  clear HRE hC6 hS y0 ly d10 lk hS6 hS5
                  go_wp2_with fail
                  have hS67 := (Since.new (w6.alloc (.cells #[.bool false, .bool false, .bool false, .bool false] 59)) (.cells #[.bool false, .bool false, .bool false, .bool false] 59)).then (Since.new w6 (.cells #[.bool false, .bool false, .bool false, .bool false] 59))
                  have hab := (Since.new (w6.alloc (.cells #[.bool false, .bool false, .bool false, .bool false] 59)) (.cells #[.bool false, .bool false, .bool false, .bool false] 59)).keep (newBlock w6 (.cells #[.bool false, .bool false, .bool false, .bool false] 59))
                  have hbk := newBlock (w6.alloc (.cells #[.bool false, .bool false, .bool false, .bool false] 59)) (.cells #[.bool false, .bool false, .bool false, .bool false] 59)
                  rw [show (w6.alloc (.cells #[.bool false, .bool false, .bool false, .bool false] 59)).heap.size = w6.heap.size + 1 by simp] at hbk
                  obtain ⟨ab, hab'⟩ : ∃ ab, ab = w6.heap.size := ⟨_, rfl⟩
                  obtain ⟨bk, hbk'⟩ : ∃ bk, bk = w6.heap.size + 1 := ⟨_, rfl⟩
                  have hne : ab ≠ bk := by omega
                  have hla : Wd.heap.size ≤ ab := by have := hS06.size; omega
                  have hlb : Wd.heap.size ≤ bk := by omega
                  have hsab : sb ≠ ab := by omega
                  have hsbk : sb ≠ bk := by omega
                  rw [← hbk'] at hbk ⊢
                  rw [← hab'] at hab ⊢
                  generalize hW7 : World.alloc (World.alloc w6 _) _ = W7 at hS67 hab hbk ⊢
                  have c4 : ∀ x, x < 4 → (#[Value.bool false, .bool false, .bool false, .bool false])[x]? = some (.bool false) := fun x hx => by
                    rcases (by omega : x = 0 ∨ x = 1 ∨ x = 2 ∨ x = 3) with rfl | rfl | rfl | rfl <;> rfl
                  have hSn0 : Sn I S W7 ab bk 0 (.slice none 0 0) (fun _ => false) (fun _ => false) (fun _ => 0) (wantL S 0) W7 :=
                    ⟨Bt.refl _ _ _, ⟨_, hab, rfl, fun x hx => c4 x hx⟩, ⟨_, hbk, rfl, fun x hx => c4 x hx⟩, RowL.nil _ _ _ _ _, fun x hx => rfl⟩
                  have hS07 := hS67.then hS06
                  have HSEEN : Hid (∀ w'', Bt ab bk W7 w'' → Cells w'' sb 4 j (seenF S)) := ⟨fun w'' hb => by
                    obtain ⟨cs, q1, q2⟩ := (HC6.out.since hS67).ex
                    exact ⟨cs, hb.keep q1 hsab hsbk, q2⟩⟩
                  have l7a : ab < W7.heap.size := sizeOf_block hab
                  have l7b : bk < W7.heap.size := sizeOf_block hbk
                  clear hW7 hab hbk hab' hbk' c4 x2 lx l6 hS67 hS06 hsab hsbk HC6
                  obtain ⟨wr0, hwr0⟩ : ∃ wr0, wr0 = wr := ⟨_, rfl⟩
                  go_loopw [13, 14, 17] (fun wv rv mv wr => ∃ (m : Nat) (A B : Nat → Bool), m ≤ j ∧ mv = .int .i64 m ∧ rv = .int .i64 (greatest (fun k => (I k).rank) S (I k).rank m) ∧ Sn I S W7 ab bk m wv A B (fun _ => 0) (wantL S m) wr) (fun _ _ mv _ => j - (intOf mv).toNat)
                  case atStart => exact ⟨0, _, _, Nat.zero_le _, rfl, rfl, hSn0⟩
                  case round =>
                    clear hSn0
                    obtain ⟨m, A, B, hm, rfl, rfl, hSn⟩ := hrel
                    by_cases hml : m < j
                    · as_aux_lemma =>
                        have s0 := (HSEEN.out wr hSn.bt).cell hml
                        have ls := (HSEEN.out wr hSn.bt).lt
                        simp only [seenF] at s0
                        have HGS : Hid (greatest (fun k => (I k).rank) S (I k).rank (m + 1) = if S m then max (greatest (fun k => (I k).rank) S (I k).rank m) (I m).rank else greatest (fun k => (I k).rank) S (I k).rank m) := ⟨rfl⟩
                        obtain ⟨G0, hG0⟩ : ∃ G0, G0 = greatest (fun k => (I k).rank) S (I k).rank m := ⟨_, rfl⟩
                        rw [← hG0] at HGS ⊢
                        clear hG0
                        cases hSm : S m with
                        | false =>
                          rw [hSm] at s0
                          have HSM := Hid.mk hSm
                          clear hSm
                          have hSn2 := hSn.skip HSM.out
                          rw [← wantL_no HSM.out] at hSn2
                          clear hSn
                          go_wp2
                          go_roundw
                          case rel => exact ⟨m + 1, A, B, by omega, by go_num, by rw [HGS.out, HSM.out]; rfl, hSn2⟩
                          case measure => simp [intOf]; omega
                        | true =>
                          rw [hSm] at s0
                          have HSM := Hid.mk hSm
                          clear hSm
                          have hSd := hSn.since0 hS07 hla hlb
                          have HIT : Hid (Calls Ybaz.prog 8 #[.int .i64 m] wr fun r w' => r = .returned (.string (itS m)) ∧ Since wr w') := ⟨itoa_any m (by omega) wr (hT.since (hSd.then hSw))⟩
                          have hadd := itS_add m (by omega)
                          have HSN := Hid.mk hSn
                          clear hSn
                          go_wp2_with fail
                          refine HIT.out.mono ?_
                          rintro r8 w8 ⟨rfl, hS8⟩
                          have hSn8 := HSN.out.since hS8
                          obtain ⟨xa, xcap, hwv, -⟩ := hSn8.row.form
                          subst hwv
                          have hTl : (wantL S m).length ≤ 300 := by have := wantL_len S m; omega
                          obtain ⟨T, hTT⟩ : ∃ T, T = wantL S m := ⟨_, rfl⟩
                          rw [← hTT] at hSn8 hTl ⊢
                          have HTK : Hid (wantL S (m + 1) = T ++ [codeS m]) := ⟨by rw [wantL_yes HSM.out, hTT]⟩
                          have HRM := Hid.mk (HROL.out m hml)
                          obtain ⟨va, vcap, hgv, hvc, hvm, hvx⟩ := HRM.out.s1.ex
                          have hGl := (HALL.out m hml).2
                          obtain ⟨G, hG⟩ : ∃ G, G = (I m).gr := ⟨_, rfl⟩
                          rw [← hG] at hgv hvc hvx hGl
                          have HG := Hid.mk hG
                          have HVX : Hid (G = [] ∨ ∃ b2 off2, va = some ⟨b2, off2, none⟩ ∧ ∀ j x, G[j]? = some x → w.cell? ⟨b2, off2 + j, none⟩ = some (.int .u8 x) ∧ 0 ≤ x ∧ x ≤ 255) := ⟨hvx⟩
                          have HGV := Hid.mk hgv
                          unfold maxLen at hvm
                          have HSN8 := Hid.mk hSn8
                          clear hTT hG hvx hgv HSN HIT s0 ls hSn8 hSd hS8
                          go_wp2_with (first | (at_builtin; refine listApp rfl _ _ 48 rfl W7.heap.size 9 i9 _ 1 16 Ybaz.underlying48 hi9 hz9 hs9 hy9 rfl (by decide) (.slice xa T.length xcap) T.length (T.flatMap strC) rfl (RowL.own (HSN8.out.row.since (Since.new _ _))) ⟨w8.heap.size, 0, none⟩ 1 1 [.string (codeS m)] rfl rfl (newsAt (newBlock _ _)) (st_one _) (by unfold maxLen; omega) (by omega) (Nat.le_trans HSN8.out.bt.size (Since.new _ _).size) (by omega) ?_; intro g1 cap1 w9 hbg hown hgr hloc; have hR9 : RowL w9 W7.heap.size 9 1 strC (.slice (some ⟨g1, 0, none⟩) (T.length + 1) cap1) (T ++ [codeS m]) := ⟨by rw [List.length_append, List.flatMap_append]; simpa [strC] using hown⟩; have hSn9 := (HSN8.out.since (Since.new _ _)).app hgr hR9; have hSd9 := (hSn9.since0 hS07 hla hlb).then hSw; have x2 := (HRM.out.since hSd9).c2; have x1 := (HRM.out.since hSd9).c1; rw [HGV.out] at x1; have lx := sizeOf_cell x2; simp only at lx))
                          have hSn5 : Sn I S W7 ab bk m (.slice (some ⟨g1, 0, none⟩) (T.length + 1) cap1) A B (gz ((G.take 0).map fun s => (s % 8).toNat)) (wantL S (m + 1)) w9 := by
                            rw [HTK.out]
                            exact ⟨hSn9.bt, hSn9.ca, hSn9.cb, hSn9.row, fun x hx => hSn9.cm x hx⟩
                          clear hSn9 hR9 hown hgr hloc hbg HSN8 x1 x2 lx hSd9
                          obtain ⟨W9, hW9⟩ : ∃ W9, W9 = w9 := ⟨_, rfl⟩
                          go_loopw [130] (fun iv wr => ∃ (q : Nat) (A' B' : Nat → Bool), q ≤ G.length ∧ iv = .int .i64 q ∧ Sn I S W7 ab bk m (.slice (some ⟨g1, 0, none⟩) (T.length + 1) cap1) A' B' (gz ((G.take q).map fun s => (s % 8).toNat)) (wantL S (m + 1)) wr) (fun iv _ => G.length - (intOf iv).toNat)
                          case atStart => exact ⟨0, A, B, Nat.zero_le _, rfl, hSn5⟩
                          case round =>
                            clear hSn5
                            obtain ⟨q, A', B', hq, rfl, hSq⟩ := hrel
                            by_cases hql : q < G.length
                            · rcases HVX.out with e | ⟨b2, off2, rfl, hcell⟩
                              · rw [e] at hql; simp at hql
                              · obtain ⟨x, hx⟩ : ∃ x, G[q]? = some x := ⟨G[q], List.getElem?_eq_getElem hql⟩
                                obtain ⟨y0, zl, zh⟩ := hcell q x hx
                                have y1 := ((hSq.since0 hS07 hla hlb).then hSw).cell y0
                                have ly := sizeOf_cell y1
                                simp only at ly
                                obtain ⟨k8, hk8⟩ : ∃ k8 : Nat, x % 8 = (k8 : Int) := ⟨(x % 8).toNat, by omega⟩
                                obtain ⟨k4, hk4⟩ : ∃ k4 : Nat, (k8 : Int) % 4 = (k4 : Int) := ⟨((k8 : Int) % 4).toNat, by omega⟩
                                have hk4l : k4 < 4 := by omega
                                have hk8l : k8 < 8 := by omega
                                have HGK : Hid ((G.take (q + 1)).map (fun s => (s % 8).toNat) = (G.take q).map (fun s => (s % 8).toNat) ++ [k8]) := ⟨by
                                  obtain ⟨hjj, ev⟩ := List.getElem?_eq_some_iff.1 hx
                                  have e2 : (x % 8).toNat = k8 := by omega
                                  rw [List.take_succ_eq_append_getElem hjj, List.map_append, ev]
                                  show _ ++ [(x % 8).toNat] = _
                                  rw [e2]⟩
                                obtain ⟨Wg, hWg⟩ : ∃ Wg, Wg = (G.take q).map (fun s => (s % 8).toNat) := ⟨_, rfl⟩
                                rw [← hWg] at hSq HGK
                                clear hx y0 hcell hWg
                                by_cases h4 : (4 : Int) ≤ (k8 : Int)
                                · have hk84 : k8 % 4 = k4 := by omega
                                  have c1 := hSq.cb.cell (x := k4) (by omega)
                                  have z1 := hSq.cb.frozen k4
                                  have l1 := hSq.cb.lt
                                  have hSr := hSq.grd (k8 := k8) (by omega) hne
                                  rw [hk84, ← HGK.out] at hSr
                                  have HSR := Hid.mk hSr
                                  clear hSq hSr hk84
                                  go_wp2
                                  go_roundw
                                  case rel => exact ⟨q + 1, _, _, by omega, by go_num, HSR.out⟩
                                  case measure => simp [intOf]; omega
                                · have c1 := hSq.ca.cell (x := k8) (by omega)
                                  have z1 := hSq.ca.frozen k8
                                  have l1 := hSq.ca.lt
                                  have hSr := hSq.alw (k8 := k8) (by omega) hne (by omega) (by omega)
                                  rw [← HGK.out] at hSr
                                  have HSR := Hid.mk hSr
                                  clear hSq hSr
                                  go_wp2
                                  go_roundw
                                  case rel => exact ⟨q + 1, _, _, by omega, by go_num, HSR.out⟩
                                  case measure => simp [intOf]; omega
                            · have hqg : q = G.length := by omega
                              rw [hqg, List.take_length, HG.out] at hSq
                              have hSc := Sn.close (I := I) (m := m) hSq HSM.out
                              clear hSq hqg
                              go_wp2
                              go_roundw
                              case rel => exact ⟨m + 1, A', B', by omega, by go_num, by rw [HGS.out, HSM.out]; rfl, hSc⟩
                              case measure => simp [intOf]; omega
                    · have hmj : m = j := by omega
                      rw [hmj] at hSn
                      have HGR : Hid (greatest (fun k => (I k).rank) S (I k).rank m = R k) := ⟨by rw [hmj]; exact HRL.out k hkl S HSS.out⟩
                      rw [HGR.out]
                      have HAB : Hid (∀ x, x < 4 → comb A B x = Z k x) := ⟨fun x hx => by
                        have h1 := hSn.cm x hx
                        rw [HRZ.out k hkl S HSS.out x hx] at h1
                        show comb A B x = Z k x
                        omega⟩
                      have hSk : S k = true := (HSS.out k).2 .self
                      have hmem : codeS k ∈ wantL S j := mem_wantL.2 ⟨k, hkl, hSk, rfl⟩
                      obtain ⟨xa, xcap, hwv, -⟩ := hSn.row.form
                      subst hwv
                      obtain ⟨g1, rfl, -⟩ := hSn.row.at (j := 0) (List.length_pos_of_mem hmem)
                      have hWl : (wantL S j).length ≤ 300 := by have := wantL_len S j; omega
                      have hxc := hSn.row.cap
                      unfold maxLen at hxc
                      obtain ⟨hxc1, hxc2⟩ := hxc
                      have hg1 := (hSn.row.base_ge g1 rfl).1
                      have hSdr := hSn.since0 hS07 hla hlb
                      obtain ⟨⟨l0, hl0⟩, hKm⟩ := HCD.out k hkl
                      have hwc := want_codes hl0 hKm HSS.out (fun v hv => reach_lt HEW.out.lt hkl hv)
                      have HSRT := Hid.mk (sortStr_any g1 xcap W7.heap.size (wantL S j) wr hSn.row (by omega))
                      obtain ⟨cg, ccap, ccs, hcv, hcc1, hcc2, hcg, hcc⟩ := HCO.out.1.ex
                      have HCC : Hid (Wd.heap[cg]? = some (.cells ccs 20) ∧ ∀ (k' : Nat) s, (K k)[k']? = some s → ccs[k']? = some (.iface 9 (.string s))) := ⟨hcg, hcc⟩
                      have HCV := Hid.mk hcv
                      have hlenK : (K k).length = (wantL S j).length := by
                        have := congrArg List.length hwc
                        rw [List.length_mergeSort, List.length_map, List.length_map] at this
                        exact this.symm
                      have HWC := Hid.mk hwc
                      have HSN := Hid.mk hSn
                      obtain ⟨wl, hwl⟩ : ∃ wl, wl = (wantL S j).length := ⟨_, rfl⟩
                      rw [← hwl] at hlenK hWl hxc1 HSRT ⊢
                      rw [hlenK] at HCV hcc1
                      have HWLL : Hid (wl = (wantL S j).length ∧ (K k).length = wl) := ⟨hwl, hlenK⟩
                      unfold maxLen at hcc2
                      have hgd : Wd.heap.size ≤ g1 := by have := hS07.size; omega
                      clear hSn hmem hSk hl0 hKm hwc hcv hcg hcc hlenK hwl hmj
                      go_wp2_with fail
                      refine HSRT.out.mono ?_
                      rintro r8 w8 ⟨rfl, hbut, hsrt⟩
                      have hS8 : Since Wd w8 := hSdr.but hbut hgd
                      have HSO := Hid.mk hsrt
                      have HBU := Hid.mk hbut
                      have hck8 := HCK.out.since hS8
                      have d9 := hck8.cell (x := 9) (by omega)
                      rw [HF.out.1] at d9
                      have d8 := hck8.cell (x := 8) (by omega)
                      rw [HCV.out] at d8
                      have lk8 := hck8.lt
                      clear hbut hsrt HSRT hck8
                      go_wp2_with fail
                      go_loop [21] (fun iv => ∃ x : Nat, x ≤ wl ∧ iv = .int .i64 x) (fun iv => wl - (intOf iv).toNat)
                      case atStart => exact ⟨0, Nat.zero_le _, rfl⟩
                      case round =>
                        obtain ⟨x, hx, rfl⟩ := hrel
                        by_cases hxl : x < wl
                        · have hxK : x < (K k).length := by rw [HWLL.out.2]; exact hxl
                          have q1 : w8.cell? ⟨cg, x, none⟩ = some (.iface 9 (.string (K k)[x])) := by
                            rw [cellOf (hS8.keep HCC.out.1)]
                            exact HCC.out.2 x _ (List.getElem?_eq_getElem hxK)
                          have q2 : w8.cell? ⟨g1, x, none⟩ = some (.string (K k)[x]) := by
                            have := HSO.out x ((K k)[x]).data.toList (by rw [HWC.out]; simp [hxK])
                            simpa using this
                          have lq1 := sizeOf_cell q1
                          have lq2 := sizeOf_cell q2
                          simp only at lq1 lq2
                          have has := as9t (.string (K k)[x])
                          generalize (K k)[x] = sx at q1 q2 has
                          go_wp2
                          go_round
                          case rel => exact ⟨x + 1, by omega, by go_num⟩
                          case measure => simp [intOf]; omega
                        · have hck8 := HCK.out.since hS8
                          have d6 := hck8.cell (x := 6) (by omega)
                          have d7 := hck8.cell (x := 7) (by omega)
                          rw [HF.out.2.1] at d6
                          rw [HF.out.2.2] at d7
                          have hP8 := HPS.out.since hS8
                          have ca8 := HBU.out.cells HSN.out.ca (by omega)
                          have cb8 := HBU.out.cells HSN.out.cb (by omega)
                          have D67 := Hid.mk (And.intro d6 d7)
                          have HP8 := Hid.mk hP8
                          have HCAB := Hid.mk (And.intro ca8 cb8)
                          have HD9 := Hid.mk d9
                          have HS8 := Hid.mk hS8
                          clear d6 d7 hP8 ca8 cb8 hck8 d9 d8 hS8 hSdr
                          go_wp2_with fail
                          go_loopw [24, 25, 26] (fun ev pv iv wr => ∃ x : Nat, x ≤ 4 ∧ iv = .int .i64 x ∧ ev = .int .i64 (nE (Z k) x) ∧ pv = .int .i64 (nP (Z k) x) ∧ Since w8 wr) (fun _ _ iv _ => 4 - (intOf iv).toNat)
                          case atStart => exact ⟨0, Nat.zero_le _, rfl, rfl, rfl, Since.refl _⟩
                          case round =>
                            obtain ⟨x, hx, rfl, rfl, rfl, hSr⟩ := hrel
                            have lrb := Nat.lt_of_lt_of_le lk8 hSr.size
                            have d6 := hSr.cell D67.out.1
                            have d7 := hSr.cell D67.out.2
                            have hE2 := nE_le (Z k) x
                            have hP2 := nP_le (Z k) x
                            by_cases hx4 : x < 4
                            · have a0 := (HCAB.out.1.since hSr).cell hx4
                              have b0 := (HCAB.out.2.since hSr).cell hx4
                              have la0 := (HCAB.out.1.since hSr).lt
                              have lb0 := (HCAB.out.2.since hSr).lt
                              have hcomb := HAB.out x hx4
                              unfold comb at hcomb
                              rcases (by omega : x = 0 ∨ x = 1 ∨ x = 2 ∨ x = 3) with rfl | rfl | rfl | rfl
                              · obtain ⟨v, hv, -, hlk⟩ := (HP8.out.pe.since hSr).look (i := 0) (by omega)
                                have hmz : me (Z k) 0 = Z k 0 := by simp [me]
                                rw [hmz] at hv hlk
                                simp only [keyB] at hlk
                                cases hA : A 0 with
                                | true =>
                                  rw [hA] at a0
                                  simp only [hA, if_true] at hcomb
                                  rw [← hcomb] at hv hlk
                                  have hvv : v = .agg #[.bool true, .slice none 0 0] := by
                                    rcases hv.ex with ⟨_, h⟩ | ⟨h, _⟩ | ⟨h, _⟩
                                    · exact h
                                    · omega
                                    · omega
                                  subst hvv
                                  have HNX : Hid (nE (Z k) 1 = nE (Z k) 0 + 1 ∧ nP (Z k) 1 = nP (Z k) 0) := ⟨by simp [nP, nE, one, ← hcomb]⟩
                                  generalize nE (Z k) 0 = eN at *
                                  generalize nP (Z k) 0 = pN at *
                                  clear hv hmz hcomb b0
                                  simp at hlk
                                  as_aux_lemma =>
                                    go_wp2_with fail
                                    refine (code_any 0 _ (by omega)).mono ?_
                                    rintro r9 w9 ⟨rfl, rfl⟩
                                    simp only [codeB]
                                    go_wp2
                                    go_roundw
                                    case rel => exact ⟨1, by omega, rfl, by rw [HNX.out.1]; first | done | rfl | go_num, by rw [HNX.out.2]; first | done | rfl | go_num, hSr.alloc⟩
                                    case measure => simp [intOf]
                                | false =>
                                  cases hB : B 0 with
                                  | true =>
                                    rw [hA] at a0
                                    rw [hB] at b0
                                    simp only [hA, hB, if_true, if_false, Bool.false_eq_true] at hcomb
                                    rw [← hcomb] at hv hlk
                                    obtain ⟨q, qcap, qcs, hvv, hq1, hq2, hq3, hq4⟩ : ∃ q qcap qcs, v = .agg #[.bool false, .slice (some ⟨q, 0, none⟩) 1 qcap] ∧ 1 ≤ qcap ∧ qcap ≤ maxLen ∧ wr.heap[q]? = some (.cells qcs 27) ∧ qcs[0]? = some (.pointer (some ⟨gb, 0, none⟩)) := by
                                      rcases hv.ex with ⟨h, _⟩ | ⟨h, _⟩ | ⟨_, h⟩
                                      · omega
                                      · omega
                                      · exact h
                                    subst hvv
                                    have q0 : wr.cell? ⟨q, 0, none⟩ = some (.pointer (some ⟨gb, 0, none⟩)) := (cellOf hq3).trans hq4
                                    have lq0 := sizeOf_block hq3
                                    have hng := neG gb
                                    unfold maxLen at hq2
                                    clear hq3 hq4
                                    have HNX : Hid (nE (Z k) 1 = nE (Z k) 0 + 1 ∧ nP (Z k) 1 = nP (Z k) 0) := ⟨by simp [nP, nE, one, ← hcomb]⟩
                                    generalize nE (Z k) 0 = eN at *
                                    generalize nP (Z k) 0 = pN at *
                                    clear hv hmz hcomb
                                    simp at hlk
                                    as_aux_lemma =>
                                      go_wp2_with fail
                                      refine (code_any 0 _ (by omega)).mono ?_
                                      rintro r9 w9 ⟨rfl, rfl⟩
                                      simp only [codeB]
                                      go_wp2
                                      go_roundw
                                      case rel => exact ⟨1, by omega, rfl, by rw [HNX.out.1]; first | done | rfl | go_num, by rw [HNX.out.2]; first | done | rfl | go_num, hSr.alloc⟩
                                      case measure => simp [intOf]
                                  | false =>
                                    rw [hA] at a0
                                    rw [hB] at b0
                                    simp only [hA, hB, if_false, Bool.false_eq_true] at hcomb
                                    rw [← hcomb] at hv hlk
                                    have hvv : v = .agg #[.bool false, .slice none 0 0] := by
                                      rcases hv.ex with ⟨h, _⟩ | ⟨_, h⟩ | ⟨h, _⟩
                                      · omega
                                      · exact h
                                      · omega
                                    subst hvv
                                    have HNX : Hid (nE (Z k) 1 = nE (Z k) 0 ∧ nP (Z k) 1 = nP (Z k) 0) := ⟨by simp [nP, nE, one, ← hcomb]⟩
                                    generalize nE (Z k) 0 = eN at *
                                    generalize nP (Z k) 0 = pN at *
                                    clear hv hmz hcomb
                                    simp at hlk
                                    as_aux_lemma =>
                                      go_wp2_with fail
                                      refine (code_any 0 _ (by omega)).mono ?_
                                      rintro r9 w9 ⟨rfl, rfl⟩
                                      simp only [codeB]
                                      go_wp2
                                      go_roundw
                                      case rel => exact ⟨1, by omega, rfl, by rw [HNX.out.1]; first | done | rfl | go_num, by rw [HNX.out.2]; first | done | rfl | go_num, hSr.alloc⟩
                                      case measure => simp [intOf]
                              · obtain ⟨v, hv, -, hlk⟩ := (HP8.out.pe.since hSr).look (i := 1) (by omega)
                                have hmz : me (Z k) 1 = Z k 1 := by simp [me]
                                rw [hmz] at hv hlk
                                simp only [keyB] at hlk
                                cases hA : A 1 with
                                | true =>
                                  rw [hA] at a0
                                  simp only [hA, if_true] at hcomb
                                  rw [← hcomb] at hv hlk
                                  have hvv : v = .agg #[.bool true, .slice none 0 0] := by
                                    rcases hv.ex with ⟨_, h⟩ | ⟨h, _⟩ | ⟨h, _⟩
                                    · exact h
                                    · omega
                                    · omega
                                  subst hvv
                                  have HNX : Hid (nE (Z k) 2 = nE (Z k) 1 + 1 ∧ nP (Z k) 2 = nP (Z k) 1) := ⟨by simp [nP, nE, one, ← hcomb]⟩
                                  generalize nE (Z k) 1 = eN at *
                                  generalize nP (Z k) 1 = pN at *
                                  clear hv hmz hcomb b0
                                  simp at hlk
                                  as_aux_lemma =>
                                    go_wp2_with fail
                                    refine (code_any 1 _ (by omega)).mono ?_
                                    rintro r9 w9 ⟨rfl, rfl⟩
                                    simp only [codeB]
                                    go_wp2
                                    go_roundw
                                    case rel => exact ⟨2, by omega, rfl, by rw [HNX.out.1]; first | done | rfl | go_num, by rw [HNX.out.2]; first | done | rfl | go_num, hSr.alloc⟩
                                    case measure => simp [intOf]
                                | false =>
                                  cases hB : B 1 with
                                  | true =>
                                    rw [hA] at a0
                                    rw [hB] at b0
                                    simp only [hA, hB, if_true, if_false, Bool.false_eq_true] at hcomb
                                    rw [← hcomb] at hv hlk
                                    obtain ⟨q, qcap, qcs, hvv, hq1, hq2, hq3, hq4⟩ : ∃ q qcap qcs, v = .agg #[.bool false, .slice (some ⟨q, 0, none⟩) 1 qcap] ∧ 1 ≤ qcap ∧ qcap ≤ maxLen ∧ wr.heap[q]? = some (.cells qcs 27) ∧ qcs[0]? = some (.pointer (some ⟨gb, 0, none⟩)) := by
                                      rcases hv.ex with ⟨h, _⟩ | ⟨h, _⟩ | ⟨_, h⟩
                                      · omega
                                      · omega
                                      · exact h
                                    subst hvv
                                    have q0 : wr.cell? ⟨q, 0, none⟩ = some (.pointer (some ⟨gb, 0, none⟩)) := (cellOf hq3).trans hq4
                                    have lq0 := sizeOf_block hq3
                                    have hng := neG gb
                                    unfold maxLen at hq2
                                    clear hq3 hq4
                                    have HNX : Hid (nE (Z k) 2 = nE (Z k) 1 + 1 ∧ nP (Z k) 2 = nP (Z k) 1) := ⟨by simp [nP, nE, one, ← hcomb]⟩
                                    generalize nE (Z k) 1 = eN at *
                                    generalize nP (Z k) 1 = pN at *
                                    clear hv hmz hcomb
                                    simp at hlk
                                    as_aux_lemma =>
                                      go_wp2_with fail
                                      refine (code_any 1 _ (by omega)).mono ?_
                                      rintro r9 w9 ⟨rfl, rfl⟩
                                      simp only [codeB]
                                      go_wp2
                                      go_roundw
                                      case rel => exact ⟨2, by omega, rfl, by rw [HNX.out.1]; first | done | rfl | go_num, by rw [HNX.out.2]; first | done | rfl | go_num, hSr.alloc⟩
                                      case measure => simp [intOf]
                                  | false =>
                                    rw [hA] at a0
                                    rw [hB] at b0
                                    simp only [hA, hB, if_false, Bool.false_eq_true] at hcomb
                                    rw [← hcomb] at hv hlk
                                    have hvv : v = .agg #[.bool false, .slice none 0 0] := by
                                      rcases hv.ex with ⟨h, _⟩ | ⟨_, h⟩ | ⟨h, _⟩
                                      · omega
                                      · exact h
                                      · omega
                                    subst hvv
                                    have HNX : Hid (nE (Z k) 2 = nE (Z k) 1 ∧ nP (Z k) 2 = nP (Z k) 1) := ⟨by simp [nP, nE, one, ← hcomb]⟩
                                    generalize nE (Z k) 1 = eN at *
                                    generalize nP (Z k) 1 = pN at *
                                    clear hv hmz hcomb
                                    simp at hlk
                                    as_aux_lemma =>
                                      go_wp2_with fail
                                      refine (code_any 1 _ (by omega)).mono ?_
                                      rintro r9 w9 ⟨rfl, rfl⟩
                                      simp only [codeB]
                                      go_wp2
                                      go_roundw
                                      case rel => exact ⟨2, by omega, rfl, by rw [HNX.out.1]; first | done | rfl | go_num, by rw [HNX.out.2]; first | done | rfl | go_num, hSr.alloc⟩
                                      case measure => simp [intOf]
                              · obtain ⟨v, hv, -, hlk⟩ := (HP8.out.pp.since hSr).look (i := 2) (by omega)
                                have hmz : mp (Z k) 2 = Z k 2 := by simp [mp]
                                rw [hmz] at hv hlk
                                simp only [keyB] at hlk
                                rw [← ext2] at hlk
                                cases hA : A 2 with
                                | true =>
                                  rw [hA] at a0
                                  simp only [hA, if_true] at hcomb
                                  rw [← hcomb] at hv hlk
                                  have hvv : v = .agg #[.bool true, .slice none 0 0] := by
                                    rcases hv.ex with ⟨_, h⟩ | ⟨h, _⟩ | ⟨h, _⟩
                                    · exact h
                                    · omega
                                    · omega
                                  subst hvv
                                  have HNX : Hid (nP (Z k) 3 = nP (Z k) 2 + 1 ∧ nE (Z k) 3 = nE (Z k) 2) := ⟨by simp [nP, nE, one, ← hcomb]⟩
                                  generalize nE (Z k) 2 = eN at *
                                  generalize nP (Z k) 2 = pN at *
                                  clear hv hmz hcomb b0
                                  simp at hlk
                                  as_aux_lemma =>
                                    go_wp2_with fail
                                    refine (code_any 2 _ (by omega)).mono ?_
                                    rintro r9 w9 ⟨rfl, rfl⟩
                                    simp only [codeB]
                                    go_wp2
                                    go_roundw
                                    case rel => exact ⟨3, by omega, rfl, by rw [HNX.out.2]; first | done | rfl | go_num, by rw [HNX.out.1]; first | done | rfl | go_num, hSr.alloc⟩
                                    case measure => simp [intOf]
                                | false =>
                                  cases hB : B 2 with
                                  | true =>
                                    rw [hA] at a0
                                    rw [hB] at b0
                                    simp only [hA, hB, if_true, if_false, Bool.false_eq_true] at hcomb
                                    rw [← hcomb] at hv hlk
                                    obtain ⟨q, qcap, qcs, hvv, hq1, hq2, hq3, hq4⟩ : ∃ q qcap qcs, v = .agg #[.bool false, .slice (some ⟨q, 0, none⟩) 1 qcap] ∧ 1 ≤ qcap ∧ qcap ≤ maxLen ∧ wr.heap[q]? = some (.cells qcs 27) ∧ qcs[0]? = some (.pointer (some ⟨gb, 0, none⟩)) := by
                                      rcases hv.ex with ⟨h, _⟩ | ⟨h, _⟩ | ⟨_, h⟩
                                      · omega
                                      · omega
                                      · exact h
                                    subst hvv
                                    have q0 : wr.cell? ⟨q, 0, none⟩ = some (.pointer (some ⟨gb, 0, none⟩)) := (cellOf hq3).trans hq4
                                    have lq0 := sizeOf_block hq3
                                    have hng := neG gb
                                    unfold maxLen at hq2
                                    clear hq3 hq4
                                    have HNX : Hid (nP (Z k) 3 = nP (Z k) 2 + 1 ∧ nE (Z k) 3 = nE (Z k) 2) := ⟨by simp [nP, nE, one, ← hcomb]⟩
                                    generalize nE (Z k) 2 = eN at *
                                    generalize nP (Z k) 2 = pN at *
                                    clear hv hmz hcomb
                                    simp at hlk
                                    as_aux_lemma =>
                                      go_wp2_with fail
                                      refine (code_any 2 _ (by omega)).mono ?_
                                      rintro r9 w9 ⟨rfl, rfl⟩
                                      simp only [codeB]
                                      go_wp2
                                      go_roundw
                                      case rel => exact ⟨3, by omega, rfl, by rw [HNX.out.2]; first | done | rfl | go_num, by rw [HNX.out.1]; first | done | rfl | go_num, hSr.alloc⟩
                                      case measure => simp [intOf]
                                  | false =>
                                    rw [hA] at a0
                                    rw [hB] at b0
                                    simp only [hA, hB, if_false, Bool.false_eq_true] at hcomb
                                    rw [← hcomb] at hv hlk
                                    have hvv : v = .agg #[.bool false, .slice none 0 0] := by
                                      rcases hv.ex with ⟨h, _⟩ | ⟨_, h⟩ | ⟨h, _⟩
                                      · omega
                                      · exact h
                                      · omega
                                    subst hvv
                                    have HNX : Hid (nP (Z k) 3 = nP (Z k) 2 ∧ nE (Z k) 3 = nE (Z k) 2) := ⟨by simp [nP, nE, one, ← hcomb]⟩
                                    generalize nE (Z k) 2 = eN at *
                                    generalize nP (Z k) 2 = pN at *
                                    clear hv hmz hcomb
                                    simp at hlk
                                    as_aux_lemma =>
                                      go_wp2_with fail
                                      refine (code_any 2 _ (by omega)).mono ?_
                                      rintro r9 w9 ⟨rfl, rfl⟩
                                      simp only [codeB]
                                      go_wp2
                                      go_roundw
                                      case rel => exact ⟨3, by omega, rfl, by rw [HNX.out.2]; first | done | rfl | go_num, by rw [HNX.out.1]; first | done | rfl | go_num, hSr.alloc⟩
                                      case measure => simp [intOf]
                              · obtain ⟨v, hv, -, hlk⟩ := (HP8.out.pp.since hSr).look (i := 3) (by omega)
                                have hmz : mp (Z k) 3 = Z k 3 := by simp [mp]
                                rw [hmz] at hv hlk
                                simp only [keyB] at hlk
                                rw [← ext3] at hlk
                                cases hA : A 3 with
                                | true =>
                                  rw [hA] at a0
                                  simp only [hA, if_true] at hcomb
                                  rw [← hcomb] at hv hlk
                                  have hvv : v = .agg #[.bool true, .slice none 0 0] := by
                                    rcases hv.ex with ⟨_, h⟩ | ⟨h, _⟩ | ⟨h, _⟩
                                    · exact h
                                    · omega
                                    · omega
                                  subst hvv
                                  have HNX : Hid (nP (Z k) 4 = nP (Z k) 3 + 1 ∧ nE (Z k) 4 = nE (Z k) 3) := ⟨by simp [nP, nE, one, ← hcomb]⟩
                                  generalize nE (Z k) 3 = eN at *
                                  generalize nP (Z k) 3 = pN at *
                                  clear hv hmz hcomb b0
                                  simp at hlk
                                  as_aux_lemma =>
                                    go_wp2_with fail
                                    refine (code_any 3 _ (by omega)).mono ?_
                                    rintro r9 w9 ⟨rfl, rfl⟩
                                    simp only [codeB]
                                    go_wp2
                                    go_roundw
                                    case rel => exact ⟨4, by omega, rfl, by rw [HNX.out.2]; first | done | rfl | go_num, by rw [HNX.out.1]; first | done | rfl | go_num, hSr.alloc⟩
                                    case measure => simp [intOf]
                                | false =>
                                  cases hB : B 3 with
                                  | true =>
                                    rw [hA] at a0
                                    rw [hB] at b0
                                    simp only [hA, hB, if_true, if_false, Bool.false_eq_true] at hcomb
                                    rw [← hcomb] at hv hlk
                                    obtain ⟨q, qcap, qcs, hvv, hq1, hq2, hq3, hq4⟩ : ∃ q qcap qcs, v = .agg #[.bool false, .slice (some ⟨q, 0, none⟩) 1 qcap] ∧ 1 ≤ qcap ∧ qcap ≤ maxLen ∧ wr.heap[q]? = some (.cells qcs 27) ∧ qcs[0]? = some (.pointer (some ⟨gb, 0, none⟩)) := by
                                      rcases hv.ex with ⟨h, _⟩ | ⟨h, _⟩ | ⟨_, h⟩
                                      · omega
                                      · omega
                                      · exact h
                                    subst hvv
                                    have q0 : wr.cell? ⟨q, 0, none⟩ = some (.pointer (some ⟨gb, 0, none⟩)) := (cellOf hq3).trans hq4
                                    have lq0 := sizeOf_block hq3
                                    have hng := neG gb
                                    unfold maxLen at hq2
                                    clear hq3 hq4
                                    have HNX : Hid (nP (Z k) 4 = nP (Z k) 3 + 1 ∧ nE (Z k) 4 = nE (Z k) 3) := ⟨by simp [nP, nE, one, ← hcomb]⟩
                                    generalize nE (Z k) 3 = eN at *
                                    generalize nP (Z k) 3 = pN at *
                                    clear hv hmz hcomb
                                    simp at hlk
                                    as_aux_lemma =>
                                      go_wp2_with fail
                                      refine (code_any 3 _ (by omega)).mono ?_
                                      rintro r9 w9 ⟨rfl, rfl⟩
                                      simp only [codeB]
                                      go_wp2
                                      go_roundw
                                      case rel => exact ⟨4, by omega, rfl, by rw [HNX.out.2]; first | done | rfl | go_num, by rw [HNX.out.1]; first | done | rfl | go_num, hSr.alloc⟩
                                      case measure => simp [intOf]
                                  | false =>
                                    rw [hA] at a0
                                    rw [hB] at b0
                                    simp only [hA, hB, if_false, Bool.false_eq_true] at hcomb
                                    rw [← hcomb] at hv hlk
                                    have hvv : v = .agg #[.bool false, .slice none 0 0] := by
                                      rcases hv.ex with ⟨h, _⟩ | ⟨_, h⟩ | ⟨h, _⟩
                                      · omega
                                      · exact h
                                      · omega
                                    subst hvv
                                    have HNX : Hid (nP (Z k) 4 = nP (Z k) 3 ∧ nE (Z k) 4 = nE (Z k) 3) := ⟨by simp [nP, nE, one, ← hcomb]⟩
                                    generalize nE (Z k) 3 = eN at *
                                    generalize nP (Z k) 3 = pN at *
                                    clear hv hmz hcomb
                                    simp at hlk
                                    as_aux_lemma =>
                                      go_wp2_with fail
                                      refine (code_any 3 _ (by omega)).mono ?_
                                      rintro r9 w9 ⟨rfl, rfl⟩
                                      simp only [codeB]
                                      go_wp2
                                      go_roundw
                                      case rel => exact ⟨4, by omega, rfl, by rw [HNX.out.2]; first | done | rfl | go_num, by rw [HNX.out.1]; first | done | rfl | go_num, hSr.alloc⟩
                                      case measure => simp [intOf]
                            · have hx5 : x = 4 := by omega
                              subst hx5
                              have hl1 : ∀ ty, (Builtin.len_ #[50] ty #[.map (some me_)]).run Ybaz.prog wr = .ok (.int .i64 (nE (Z k) 4)) wr := fun ty => by rw [(HP8.out.pe.since hSr).len ty, cnt_me]
                              have hl2' : ∀ ty, (Builtin.len_ #[50] ty #[.map (some mp_)]).run Ybaz.prog wr = .ok (.int .i64 (nP (Z k) 4)) wr := fun ty => by rw [(HP8.out.pp.since hSr).len ty, cnt_mp]
                              generalize nE (Z k) 4 = eN at *
                              generalize nP (Z k) 4 = pN at *
                              have hSf := hSr.then HS8.out
                              go_wp2
                              go_roundw
                              case rel => exact ⟨k + 1, by omega, by go_num, hSf⟩
                              case measure => simp [intOf]; omega
              · have hSf := hS5.then hSw
                clear hS5
                go_wp2
                go_ret
                exact ⟨rfl, hSf⟩
  · go_enter Ybaz.func3, Ybaz.ntmps3
    go_wp2
    go_ret
    exact ⟨rfl, Since.refl _⟩
end Go.Proofs.YbulkcvxmGreatFmt
