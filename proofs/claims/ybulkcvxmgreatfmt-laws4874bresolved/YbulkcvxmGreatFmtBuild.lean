/- The roles are built (5): the walk. -/
import Derived.Test.YbulkcvxmGreatFmtBld0
import Derived.Test.YbulkcvxmGreatFmtRes
import Derived.Deep.RegionLaw
set_option linter.unusedSimpArgs false
set_option linter.unusedVariables false
namespace Go.Proofs.YbulkcvxmGreatFmt
open Go.RowKit Go.Maps Go.WideMaps

theorem info9 : (Ybaz.prog.info? 9).map (fun i => (i.zero, i.size, i.bytes)) = some (some (.string ⟨#[]⟩), 1, 16) := by kernel_rfl
theorem st_one (s : ByteArray) : ∀ v ∈ [Value.string s], v.oneCell' = true := by
  intro u hu
  simp at hu
  subst hu
  rfl
theorem info60 : (Ybaz.prog.info? 71).map (fun i => (i.zero, i.size, i.bytes)) = some (some (.agg #[.string ⟨#[]⟩, .pointer none]), 2, 24) := by kernel_rfl
theorem run_makeMap41 (x : Int) (w : World) : (Instr.makeMap 41 (some (.int .i64 x))).run Ybaz.prog w = .ok (.map (some w.heap.size)) (w.alloc (.map #[] 0)) := by
  simp [Instr.makeMap, run_underlying Ybaz.underlying41, asInt]
  rfl
/-- A number's text; its code. -/
def itS (k : Nat) : ByteArray := ⟨(Lib.itoa (k : Int)).toArray⟩
theorem itS_add (k : Nat) (hk : k ≤ 1000) (w : World) : (Op.stringOp .add ⟨#[114]⟩ (itS k)).run Ybaz.prog w = .ok (.string (codeS k)) w := by
  have h := codeS_size k hk
  have e : codeS k = ⟨#[114]⟩ ++ itS k := rfl
  rw [e, ByteArray.size_append] at h
  rw [run_string_add_sum w _ _ (by omega), e]
theorem Rb.aft2 {W1 w w4 w5 : World} {gb b : Nat} {code : ByteArray} {rank : Int} {vs : List ByteArray} {gs : List Nat} {f : Nat → Value} (h : Rb W1 gb b code rank vs gs f w) (hs : Since w w4) (hg : w4.grownBy w5 (f 2).ownBlock) : w5.cell? ⟨b, 2, none⟩ = some (f 2) ∧ w5.frozen? ⟨b, 2, none⟩ = false ∧ b < w5.heap.size := by
  have hk : Kx [9] [] w4 w5 := Kx.app hg (h.more hs).inh (by simp)
  have hc := (h.more hs).cells.kx hk (by simp)
  exact ⟨hc.cell (by omega), hc.frozen 2, hc.lt⟩
theorem Rb.aft3 {W1 w w4 w5 : World} {gb b : Nat} {code : ByteArray} {rank : Int} {vs : List ByteArray} {gs : List Nat} {f : Nat → Value} (h : Rb W1 gb b code rank vs gs f w) (hs : Since w w4) (hg : w4.grownBy w5 (f 3).ownBlock) : w5.cell? ⟨b, 3, none⟩ = some (f 3) ∧ w5.frozen? ⟨b, 3, none⟩ = false ∧ b < w5.heap.size := by
  have hk : Kx [71] [] w4 w5 := Kx.app hg (h.more hs).gr (by simp)
  have hc := (h.more hs).cells.kx hk (by simp)
  exact ⟨hc.cell (by omega), hc.frozen 3, hc.lt⟩
theorem gr_one (s : ByteArray) (go : Option Addr) : ∀ u ∈ [Value.string s, Value.pointer go], u.oneCell' = true := by
  intro u hu
  simp at hu
  rcases hu with rfl | rfl <;> rfl
def newR (code : ByteArray) (rank : Int) : Array Value := #[.string code, .string ⟨#[]⟩, .slice none 0 0, .slice none 0 0, .int .i64 rank, .bool false, .map none, .map none, .slice none 0 0, .int .i64 0, .int .i64 0, .slice none 0 0]
theorem rb_start {gb : Nat} {W1 w2 : World} (hs : Since W1 w2) (code : ByteArray) (rank : Int) : Rb W1 gb w2.heap.size code rank [] [] (fun x => (newR code rank).getD x .nilIface) (w2.alloc (.cells (newR code rank) 56)) :=
  ⟨(Since.new _ _).then hs, hs.size, ⟨_, newBlock _ _, rfl, fun x hx => by
    rcases (by omega : x = 0 ∨ x = 1 ∨ x = 2 ∨ x = 3 ∨ x = 4 ∨ x = 5 ∨ x = 6 ∨ x = 7 ∨ x = 8 ∨ x = 9 ∨ x = 10 ∨ x = 11) with rfl | rfl | rfl | rfl | rfl | rfl | rfl | rfl | rfl | rfl | rfl | rfl <;> rfl⟩, rfl, RowL.nil _ _ _ _ _, RowL.nil _ _ _ _ _, rfl, rfl⟩
set_option maxRecDepth 100000 in
set_option maxHeartbeats 1000000 in
theorem build_any (I : Nat → Rin) (a : Option Addr) (n cap eb gb : Nat) (w : World) (hI : Ins w a n cap I) (hE : Ed w eb n (edgesOf I)) (hgl : ∀ i, i < n → (I i).gr.length ≤ 1024) (hT : Tab w) :
    Calls Ybaz.prog 5 #[.slice a n cap, .slice (some ⟨eb, 0, none⟩) n n, .pointer (some ⟨gb, 0, none⟩)] w fun r w' => ∃ lb mb rb F, r = .returned (.tuple #[.slice (some ⟨lb, 0, none⟩) n n, .map (some mb)]) ∧ Bd w I n gb n lb mb rb F w' := by
  have hn := hE.n3
  obtain ⟨i44, hi44, hz44, hs44, hy44⟩ := info_parts info44
  obtain ⟨i9, hi9, hz9, hs9, hy9⟩ := info_parts info9
  obtain ⟨i60, hi60, hz60, hs60, hy60⟩ := info_parts info60
  have hmm := run_makeMap41
  go_enter Ybaz.func5, Ybaz.ntmps5
  go_wp2_with (first | (at_make; refine mkN _ rfl _ _ 40 rfl 44 i44 _ Ybaz.underlying40 hi44 hz44 n rfl rfl (by rw [hy44]; omega) (by omega) ?_; rw [hs44]))
  have hcc : (Value.pointer none).cells = #[Value.pointer none] := rfl
  have hC0 := Cells.made w 44 n (.pointer none) rfl
  rw [hcc] at hC0
  have hS0 := Since.new w (.cells (madeCells #[Value.pointer none] n) 44)
  have hS1 := Since.new (w.alloc (.cells (madeCells #[Value.pointer none] n) 44)) (.map #[] 0)
  have hM0 := RM.made (w.alloc (.cells (madeCells #[Value.pointer none] n) 44)) (fun _ => 0)
  have lw : (w.alloc (.cells (madeCells #[Value.pointer none] n) 44)).heap.size = w.heap.size + 1 := by simp
  rw [lw] at hM0
  have hB0 : Bd w I n gb 0 w.heap.size (w.heap.size + 1) (fun _ => 0) (fun _ _ => .nilIface) ((w.alloc (.cells (madeCells #[Value.pointer none] n) 44)).alloc (.map #[] 0)) :=
    ⟨hS1.then hS0, (hC0.since hS1).congr (fun x hx => by rw [if_neg (Nat.not_lt_zero _)]), hM0, fun k hk => absurd hk (Nat.not_lt_zero _), fun k hk => absurd hk (Nat.not_lt_zero _), fun a b ha => absurd ha (Nat.not_lt_zero _), Nat.le_refl _, by omega, fun k hk => absurd hk (Nat.not_lt_zero _)⟩
  obtain ⟨lb, hlb⟩ : ∃ lb, lb = w.heap.size := ⟨_, rfl⟩
  obtain ⟨mb, hmb⟩ : ∃ mb, mb = w.heap.size + 1 := ⟨_, rfl⟩
  rw [← hmb, ← hlb] at hB0
  rw [← hmb, ← hlb]
  generalize hW : World.alloc (World.alloc w _) _ = W at hB0 ⊢
  clear hW hlb hmb hS0 hS1 hM0 lw hC0 hcc hmm
  go_loopw [11] (fun iv wr => ∃ (i : Nat) (rb : Nat → Nat) (F : Nat → Nat → Value), i ≤ n ∧ iv = .int .i64 i ∧ Bd w I n gb i lb mb rb F wr) (fun iv _ => n - (intOf iv).toNat)
  case atStart => exact ⟨0, _, _, Nat.zero_le _, rfl, hB0⟩
  case round =>
    clear hB0
    obtain ⟨i, rb, F, hi, rfl, hB⟩ := hrel
    by_cases hlt : i < n
    · rcases hI.at' with e | ⟨b, off, rfl, hroles⟩
      · omega
      · have hRI := hroles i hlt
        have hcm := hI.cm
        have hnc := hI.nc
        unfold maxLen at hcm
        obtain ⟨W1, rfl⟩ : ∃ W1, W1 = wr := ⟨_, rfl⟩
        have h0 := Since.refl W1
        have x2 : ∀ w'', Since W1 w'' → w''.cell? ⟨b, off + i * 3 + 2, none⟩ = some (.int .i64 (I i).rank) := fun w'' hs => (hRI.since (hs.then hB.since)).c2
        have lx := sizeOf_cell (x2 W1 h0)
        simp only at lx
        have hit : ∀ w'', Since W1 w'' → Calls Ybaz.prog 8 #[.int .i64 i] w'' fun r w' => r = .returned (.string (itS i)) ∧ Since w'' w' := fun w'' hs => itoa_any i (by omega) w'' (hT.since (hs.then hB.since))
        have hadd := itS_add i (by omega)
        go_wp2_with fail
        go_region_held3 (fun w'' => Since W1 w'') (first | exact Since.drew h0 | exact Since.alloc (by assumption) | exact Since.then hc1 (by assumption) | assumption) (first | (go_at_call 8; refine (hit _ (by assumption)).mono ?_; rintro r2 w2 ⟨rfl, hc1⟩))
        have hS2 : Since W1 w2 := by first | assumption | exact Since.then hc1 (by assumption) | exact Since.then hc1 Since.dr
        have hR0 := rb_start (gb := gb) hS2 (codeS i) (I i).rank
        obtain ⟨bb, hbb⟩ : ∃ bb, bb = w2.heap.size := ⟨_, rfl⟩
        rw [← hbb] at hR0 ⊢
        unfold newR at hR0
        generalize hf0 : (fun x => Array.getD _ x Value.nilIface) = f0 at hR0
        generalize hW2 : World.alloc w2 _ = W2 at hR0 ⊢
        obtain ⟨L, hL⟩ : ∃ L, L = edgesOf I i := ⟨_, rfl⟩
        have HL := Hid.mk hL
        have hEl := hE.len i hlt
        have hElt := hE.lt i hlt
        obtain ⟨ES, hES, hRow⟩ := hE.ex
        have hr := hRow i hlt
        rw [← hL] at hEl hElt hr
        obtain ⟨ta, tcap, hTS, -⟩ := hr.form
        have HRE : Hid (∀ w'', Since W1 w'' → RowL w'' 0 3 1 orC (.slice ta L.length tcap) L) := ⟨fun w'' hs => by rw [← hTS]; exact hr.since (hs.then hB.since)⟩
        have e0 := (hES.since (hR0.since.then hB.since)).cell hlt
        rw [hTS] at e0
        have le := sizeOf_cell e0
        simp only at le
        have HB := Hid.mk hB
        have HRI := Hid.mk hRI
        have HELT := Hid.mk hElt
        clear hf0 hW2 hbb hTS hr hRow hES hL hc1 hS2 x2 lx hit hadd h0 hroles hB hRI hElt
        go_wp2_with fail
        go_loopw [45] (fun iv w2 => ∃ (j : Nat) (f : Nat → Value), j ≤ L.length ∧ iv = .int .i64 j ∧ Rb W1 gb bb (codeS i) (I i).rank ((L.take j).map codeS) [] f w2) (fun iv _ => L.length - (intOf iv).toNat)
        case atStart => exact ⟨0, f0, Nat.zero_le _, rfl, hR0⟩
        case round =>
          clear hR0 e0 le
          obtain ⟨j, f, hj, rfl, hR⟩ := hrel
          by_cases hjl : j < L.length
          · obtain ⟨v, hv⟩ : ∃ v, L[j]? = some v := ⟨L[j], List.getElem?_eq_getElem hjl⟩
            have hvn : v < n := HELT.out v (List.mem_of_getElem? hv)
            have hre := HRE.out wr hR.since
            obtain ⟨tb, rfl, -⟩ := hre.at (j := j) hjl
            have y0 := (hre.cell orC_len (i := 0) (u := .int .i64 v) hv (by omega) rfl rfl).1
            simp only [Nat.mul_one, Nat.add_zero] at y0
            have ly := sizeOf_cell y0
            simp only at ly
            have htc := hre.cap
            unfold maxLen at htc
            obtain ⟨htc1, htc2⟩ := htc
            have HTK : Hid ((L.take (j + 1)).map codeS = (L.take j).map codeS ++ [codeS v]) := ⟨by
              obtain ⟨hjj, ev⟩ := List.getElem?_eq_some_iff.1 hv
              rw [List.take_succ_eq_append_getElem hjj, List.map_append, ev]
              simp⟩
            obtain ⟨T, hT'⟩ : ∃ T, T = (L.take j).map codeS := ⟨_, rfl⟩
            have hTl : T.length ≤ 1024 := by rw [hT', List.length_map, List.length_take]; omega
            rw [← hT'] at hR HTK
            obtain ⟨xa, xcap, hxv, -⟩ := hR.inh.form
            have hinh := hR.inh
            rw [hxv] at hinh
            have hrow : ∀ w'', Since wr w'' → RowL w'' W1.heap.size 9 1 strC (.slice xa T.length xcap) T := fun w'' hs => hinh.since hs
            have dd2 : ∀ w'', Since wr w'' → w''.cell? ⟨bb, 2, none⟩ = some (.slice xa T.length xcap) := fun w'' hs => by rw [← hxv]; exact (hR.cells.since hs).cell (by omega)
            have dz2 : ∀ w'', Since wr w'' → w''.frozen? ⟨bb, 2, none⟩ = false := fun w'' hs => (hR.cells.since hs).frozen 2
            have d2 := dd2 wr (Since.refl _)
            have lb2 := hR.cells.lt
            have hit : ∀ w'', Since wr w'' → Calls Ybaz.prog 8 #[.int .i64 v] w'' fun r w' => r = .returned (.string (itS v)) ∧ Since wr w' := fun w'' hs => (itoa_any v (by omega) w'' (hT.since (hs.then (hR.since.then HB.out.since)))).mono (fun r w' h => ⟨h.1, h.2.then hs⟩)
            have hadd := itS_add v (by omega)
            have HDD := Hid.mk dd2
            have HDZ := Hid.mk dz2
            have HROW := Hid.mk hrow
            have HIT := Hid.mk hit
            have HR := Hid.mk hR
            have HXV := Hid.mk hxv
            have lW1 := hR.since.size
            clear hv hre hT' hinh hrow dd2 dz2 hit hR hxv
            go_wp2_with fail
            go_region_law (first | (refine stepApp (by rfl) _ _ 48 (by rfl) W1.heap.size 9 i9 _ 1 16 Ybaz.underlying48 hi9 hz9 hs9 hy9 (by rfl) (by decide) (.slice xa T.length xcap) T.length (T.flatMap strC) (by rfl) (RowL.own (HROW.out _ (Since.alloc hS3))) ⟨w3.heap.size, 0, none⟩ 1 1 [.string (codeS v)] (by rfl) (by rfl) (newsAt (newBlock _ _)) (st_one _) (by unfold maxLen; omega) (by omega) (Nat.le_trans lW1 (Since.size (Since.alloc hS3))) (by omega) ?_; intro g5 cap5 w5 hbg hown hgr hloc; obtain ⟨c5, z5, l5⟩ := HR.out.aft2 (Since.alloc hS3) (by rw [HXV.out]; exact hgr)) | (go_simp; refine (HIT.out _ (by first | exact Since.dr | exact Since.refl _)).mono ?_; rintro r3 w3 ⟨rfl, hS3⟩; dsimp only; have d3 := HDD.out _ hS3; have l3 := sizeOf_cell d3; simp only at l3))
            all_goals
              have hR5 : RowL w5 W1.heap.size 9 1 strC (.slice (some ⟨g5, 0, none⟩) (T.length + 1) cap5) (T ++ [codeS v]) := ⟨by
                rw [List.length_append, List.flatMap_append]
                simpa [strC] using hown⟩
              have hRf := (HR.out.more (Since.alloc hS3)).inh1 (by rw [HXV.out]; exact hgr) hR5
              clear hown hgr hloc hR5 c5 z5 l5 hS3 d3 l3 hbg
              go_wp2
              go_roundw
              case rel => exact ⟨j + 1, _, by omega, by go_num, by rw [HTK.out]; exact hRf⟩
              case measure => simp [intOf]; omega
          · have hjL : j = L.length := by omega
            rw [hjL, List.take_length] at hR
            obtain ⟨G, hG⟩ : ∃ G, G = (I i).gr := ⟨_, rfl⟩
            have HG := Hid.mk hG
            have hGl := hgl i hlt
            have x1 := (HRI.out.since (hR.since.then HB.out.since)).c1
            obtain ⟨va, vcap, hgv, hvc, hvm, hvx⟩ := HRI.out.s1.ex
            rw [← hG] at hgv hvc hvx hGl
            rw [hgv] at x1
            have lx := sizeOf_cell x1
            simp only at lx
            unfold maxLen at hvm
            have HVX : Hid (G = [] ∨ ∃ b2 off2, va = some ⟨b2, off2, none⟩ ∧ ∀ j x, G[j]? = some x → w.cell? ⟨b2, off2 + j, none⟩ = some (.int .u8 x) ∧ 0 ≤ x ∧ x ≤ 255) := ⟨hvx⟩
            clear hjL hG hgv hvx
            go_wp2_with fail
            go_loopw [68] (fun iv w2 => ∃ (j : Nat) (f : Nat → Value), j ≤ G.length ∧ iv = .int .i64 j ∧ Rb W1 gb bb (codeS i) (I i).rank (L.map codeS) ((G.take j).map fun s => (s % 8).toNat) f w2) (fun iv _ => G.length - (intOf iv).toNat)
            case atStart => exact ⟨0, f, Nat.zero_le _, rfl, hR⟩
            case round =>
              clear hR x1 lx hjl hj
              obtain ⟨j, f, hj, rfl, hR⟩ := hrel
              by_cases hjl : j < G.length
              · rcases HVX.out with e | ⟨b2, off2, rfl, hcell⟩
                · rw [e] at hjl; simp at hjl
                · obtain ⟨x, hx⟩ : ∃ x, G[j]? = some x := ⟨G[j], List.getElem?_eq_getElem hjl⟩
                  obtain ⟨y0, zl, zh⟩ := hcell j x hx
                  have y1 := (hR.since.then HB.out.since).cell y0
                  have ly := sizeOf_cell y1
                  simp only at ly
                  obtain ⟨k8, hk8⟩ : ∃ k8 : Nat, x % 8 = (k8 : Int) := ⟨(x % 8).toNat, by omega⟩
                  obtain ⟨k4, hk4⟩ : ∃ k4 : Nat, (k8 : Int) % 4 = (k4 : Int) := ⟨((k8 : Int) % 4).toNat, by omega⟩
                  have hk4l : k4 < 4 := by omega
                  have hk8l : k8 < 8 := by omega
                  have HTK : Hid ((G.take (j + 1)).map (fun s => (s % 8).toNat) = (G.take j).map (fun s => (s % 8).toNat) ++ [k8]) := ⟨by
                    obtain ⟨hjj, ev⟩ := List.getElem?_eq_some_iff.1 hx
                    have e2 : (x % 8).toNat = k8 := by omega
                    rw [List.take_succ_eq_append_getElem hjj, List.map_append, ev]
                    show _ ++ [(x % 8).toNat] = _
                    rw [e2]⟩
                  obtain ⟨T, hT'⟩ : ∃ T, T = (G.take j).map (fun s => (s % 8).toNat) := ⟨_, rfl⟩
                  have hTl : T.length ≤ 1024 := by rw [hT', List.length_map, List.length_take]; omega
                  rw [← hT'] at hR HTK
                  have hk84 : k8 % 4 = k4 := by omega
                  have HR0 := Hid.mk hR
                  have hlr := hR.cells.lt
                  clear hx y0 hcell hT' hR
                  by_cases h4 : (4 : Int) ≤ (k8 : Int)
                  · have HGC : Hid (grC gb k8 = [.string (codeB k4), .pointer (some ⟨gb, 0, none⟩)]) := ⟨by
                      unfold grC gt gpv
                      rw [hk84]
                      simp
                      omega⟩
                    clear hk84
                    go_wp2_with fail
                    refine (code_any k4 _ hk4l).mono ?_
                    rintro r1 w1 ⟨rfl, rfl⟩
                    go_wp2_with fail
                    have hR2 := HR0.out.more (Since.new wr (.cells #[.string (codeB k4), .pointer (some ⟨gb, 0, none⟩)] 71))
                    have hB2 := newBlock wr (.cells #[.string (codeB k4), .pointer (some ⟨gb, 0, none⟩)] 71)
                    obtain ⟨tb, htb⟩ : ∃ tb, tb = wr.heap.size := ⟨_, rfl⟩
                    rw [← htb] at hB2 ⊢
                    generalize hW3 : wr.alloc (.cells #[.string (codeB k4), .pointer (some ⟨gb, 0, none⟩)] 71) = W3 at hR2 hB2 ⊢
                    have t0 : W3.cell? ⟨tb, 0, none⟩ = some (.string (codeB k4)) := cellOf hB2
                    have t1 : W3.cell? ⟨tb, 1, none⟩ = some (.pointer (some ⟨gb, 0, none⟩)) := cellOf hB2
                    have lt0 := sizeOf_block hB2
                    obtain ⟨xa, xcap, hxv, -⟩ := hR2.gr.form
                    have hgrr := hR2.gr
                    rw [hxv] at hgrr
                    have d3 : W3.cell? ⟨bb, 3, none⟩ = some (.slice xa T.length xcap) := by rw [← hxv]; exact hR2.cells.cell (by omega)
                    have lb3 := hR2.cells.lt
                    have HR := Hid.mk hR2
                    have HXV := Hid.mk hxv
                    have HROW : Hid (∀ w'', Since W3 w'' → RowL w'' W1.heap.size 71 2 (grC gb) (.slice xa T.length xcap) T) := ⟨fun w'' hs => hgrr.since hs⟩
                    have lW1 := hR2.since.size
                    clear hW3 hgrr hxv hR2 htb hB2 y1 ly hlr HR0
                    go_region_law (first | (refine stepApp (by rfl) _ _ 49 (by rfl) W1.heap.size 71 i60 _ 2 24 Ybaz.underlying49 hi60 hz60 hs60 hy60 (by rfl) (by decide) (.slice xa T.length xcap) T.length (T.flatMap (grC gb)) (by rfl) (RowL.own (HROW.out _ (by first | exact Since.alloc Since.dr | exact Since.drew (Since.new _ _)))) ⟨W3.heap.size, 0, none⟩ 1 1 [.string (codeB k4), .pointer (some ⟨gb, 0, none⟩)] (by rfl) (by rfl) (by first | exact newsAt (newBlock _ _) | exact newsAt (drewH (newBlock _ _))) (gr_one _ _) (by unfold maxLen; omega) (by omega) (by simp; omega) (by omega) ?_; intro g5 cap5 w5 hbg hown hgr hloc; have hgr' := hgr; rw [← HXV.out] at hgr'; obtain ⟨c5, z5, l5⟩ := HR.out.aft3 (by first | exact Since.alloc Since.dr | exact Since.drew (Since.new _ _)) hgr'))
                    all_goals
                      have hR5 : RowL w5 W1.heap.size 71 2 (grC gb) (.slice (some ⟨g5, 0, none⟩) (T.length + 1) cap5) (T ++ [k8]) := ⟨by
                        rw [List.length_append, List.flatMap_append, show [k8].flatMap (grC gb) = [.string (codeB k4), .pointer (some ⟨gb, 0, none⟩)] by simp [HGC.out]]
                        simpa using hown⟩
                      have hRf := Rb.gr1 (hr := hR5) (hg := hgr') (h := HR.out.more (by first | exact Since.alloc Since.dr | exact Since.drew (Since.new _ _)))
                      clear hown hgr hgr' hloc hR5 c5 z5 l5 hbg
                      go_wp2
                      go_roundw
                      case rel => exact ⟨j + 1, _, by omega, by go_num, by rw [HTK.out]; exact hRf⟩
                      case measure => simp [intOf]; omega
                  · have HGC : Hid (grC gb k8 = [.string (codeB k4), .pointer none]) := ⟨by
                      unfold grC gt gpv
                      rw [hk84]
                      simp
                      omega⟩
                    clear hk84
                    go_wp2_with fail
                    refine (code_any k4 _ hk4l).mono ?_
                    rintro r1 w1 ⟨rfl, rfl⟩
                    go_wp2_with fail
                    have hR2 := HR0.out.more (Since.new wr (.cells #[.string (codeB k4), .pointer none] 71))
                    have hB2 := newBlock wr (.cells #[.string (codeB k4), .pointer none] 71)
                    obtain ⟨tb, htb⟩ : ∃ tb, tb = wr.heap.size := ⟨_, rfl⟩
                    rw [← htb] at hB2 ⊢
                    generalize hW3 : wr.alloc (.cells #[.string (codeB k4), .pointer none] 71) = W3 at hR2 hB2 ⊢
                    have t0 : W3.cell? ⟨tb, 0, none⟩ = some (.string (codeB k4)) := cellOf hB2
                    have t1 : W3.cell? ⟨tb, 1, none⟩ = some (.pointer none) := cellOf hB2
                    have lt0 := sizeOf_block hB2
                    obtain ⟨xa, xcap, hxv, -⟩ := hR2.gr.form
                    have hgrr := hR2.gr
                    rw [hxv] at hgrr
                    have d3 : W3.cell? ⟨bb, 3, none⟩ = some (.slice xa T.length xcap) := by rw [← hxv]; exact hR2.cells.cell (by omega)
                    have lb3 := hR2.cells.lt
                    have HR := Hid.mk hR2
                    have HXV := Hid.mk hxv
                    have HROW : Hid (∀ w'', Since W3 w'' → RowL w'' W1.heap.size 71 2 (grC gb) (.slice xa T.length xcap) T) := ⟨fun w'' hs => hgrr.since hs⟩
                    have lW1 := hR2.since.size
                    clear hW3 hgrr hxv hR2 htb hB2 y1 ly hlr HR0
                    go_region_law (first | (refine stepApp (by rfl) _ _ 49 (by rfl) W1.heap.size 71 i60 _ 2 24 Ybaz.underlying49 hi60 hz60 hs60 hy60 (by rfl) (by decide) (.slice xa T.length xcap) T.length (T.flatMap (grC gb)) (by rfl) (RowL.own (HROW.out _ (by first | exact Since.alloc Since.dr | exact Since.drew (Since.new _ _)))) ⟨W3.heap.size, 0, none⟩ 1 1 [.string (codeB k4), .pointer none] (by rfl) (by rfl) (by first | exact newsAt (newBlock _ _) | exact newsAt (drewH (newBlock _ _))) (gr_one _ _) (by unfold maxLen; omega) (by omega) (by simp; omega) (by omega) ?_; intro g5 cap5 w5 hbg hown hgr hloc; have hgr' := hgr; rw [← HXV.out] at hgr'; obtain ⟨c5, z5, l5⟩ := HR.out.aft3 (by first | exact Since.alloc Since.dr | exact Since.drew (Since.new _ _)) hgr'))
                    all_goals
                      have hR5 : RowL w5 W1.heap.size 71 2 (grC gb) (.slice (some ⟨g5, 0, none⟩) (T.length + 1) cap5) (T ++ [k8]) := ⟨by
                        rw [List.length_append, List.flatMap_append, show [k8].flatMap (grC gb) = [.string (codeB k4), .pointer none] by simp [HGC.out]]
                        simpa using hown⟩
                      have hRf := Rb.gr1 (hr := hR5) (hg := hgr') (h := HR.out.more (by first | exact Since.alloc Since.dr | exact Since.drew (Since.new _ _)))
                      clear hown hgr hgr' hloc hR5 c5 z5 l5 hbg
                      go_wp2
                      go_roundw
                      case rel => exact ⟨j + 1, _, by omega, by go_num, by rw [HTK.out]; exact hRf⟩
                      case measure => simp [intOf]; omega
              · have hjG : j = G.length := by omega
                rw [hjG, List.take_length] at hR
                have hRe : Rb W1 gb bb (codeS i) (I i).rank ((edgesOf I i).map codeS) (gOf I i) f wr := by
                  have := hR
                  rw [HL.out, HG.out] at this
                  exact this
                have hB2 := HB.out.more hR.since
                have hl0 := hB2.list.cell hlt
                rw [if_neg (Nat.lt_irrefl i)] at hl0
                have hlz := hB2.list.frozen i
                have hll := hB2.list.lt
                have k5 : Kx [44] [] wr (wr.setCell ⟨lb, i, none⟩ (.pointer (some ⟨bb, 0, none⟩))) := hB2.list.kxset (by simp)
                have hc0 := (hR.cells.kx k5 (by simp)).cell (x := 0) (by omega)
                rw [hR.f0] at hc0
                have hlc := (hR.cells.kx k5 (by simp)).lt
                obtain ⟨w6, hupd, hrm, htn⟩ := (hB2.map.kx k5 (by simp)).store (by omega) bb
                have hBn := HB.out.next hlt hRe hrm htn
                have HBN := Hid.mk hBn
                clear hjG hR hRe hB2 k5 hrm htn hBn
                go_wp2
                go_roundw
                case rel => exact ⟨i + 1, _, _, by omega, by go_num, HBN.out⟩
                case measure => simp [intOf]; omega
    · have hin : i = n := by omega
      subst hin
      go_wp2
      go_ret2
      exact ⟨_, _, _, _, rfl, hB⟩
end Go.Proofs.YbulkcvxmGreatFmt
