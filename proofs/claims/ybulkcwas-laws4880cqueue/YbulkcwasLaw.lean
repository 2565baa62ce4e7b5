import Derived.Test.YbulkcwasStep
set_option linter.unusedSimpArgs false
set_option linter.unusedVariables false
namespace Go.Proofs.Ybulkcwas
open Go.RowKit

/-- One step of the script. -/
structure Op5 where
  op : Int
  time : Int
  fr : Int
  to : Int
  tt : Int
def Op5.ok (o : Op5) : Prop := 0 ≤ o.op ∧ o.op < 256 ∧ -128 ≤ o.time ∧ o.time < 128 ∧ -128 ≤ o.fr ∧ o.fr < 128 ∧ 0 ≤ o.to ∧ o.to < 256 ∧ -128 ≤ o.tt ∧ o.tt < 128
/-- The script, as it came in. -/
def IsOps (w : World) (a : Option Addr) (len cap : Nat) (O : Nat → Op5) : Prop :=
  len ≤ cap ∧ cap ≤ maxLen ∧ (len = 0 ∨ ∃ b off, a = some ⟨b, off, none⟩ ∧ ∀ k, k < len → (O k).ok ∧ w.cell? ⟨b, off + k * 5, none⟩ = some (.int .u8 (O k).op) ∧ w.cell? ⟨b, off + k * 5 + 1, none⟩ = some (.int .i8 (O k).time) ∧ w.cell? ⟨b, off + k * 5 + 2, none⟩ = some (.int .i8 (O k).fr) ∧ w.cell? ⟨b, off + k * 5 + 3, none⟩ = some (.int .u8 (O k).to) ∧ w.cell? ⟨b, off + k * 5 + 4, none⟩ = some (.int .i8 (O k).tt))

theorem Frb.toSince {base : Nat} {K : List Nat} {w0 w w' : World} (h : Frb base K w w') (hs : Since w0 w) (hb : w0.heap.size ≤ base) (hk : ∀ i ∈ K, w0.heap.size ≤ i) : Since w0 w' :=
  ⟨h.os.trans hs.out.os, h.tape.trans hs.out.tape, h.output.trans hs.out.output, Nat.le_trans hs.size h.size, fun i hi => (h.block i (by omega) (fun e => by have := hk i e; omega)).trans (hs.out.block i hi)⟩

set_option maxRecDepth 100000 in
set_option maxHeartbeats 4000000 in
theorem law_small (nodes : Int) (a : Option Addr) (len cap : Nat) (O : Nat → Op5) (w : World) (h0 : 0 ≤ nodes) (h1 : nodes < 256) (hO : IsOps w a len cap O) (hl : len ≤ 1024) :
    Calls Yba.prog 3 #[.int .u8 nodes, .slice a len cap] w fun r w' => r = .returned (.bool true) ∧ Since w w' := by
  obtain ⟨n, hn⟩ : ∃ n : Nat, (n : Int) = nodes % 16 + 1 := ⟨(nodes % 16 + 1).toNat, by omega⟩
  have n1 : 1 ≤ n := by omega
  have n16 : n ≤ 16 := by omega
  have hn' : nodes % 16 + 1 = (n : Int) := hn.symm
  obtain ⟨i0, hi, hz0, hz1, hz2⟩ := info_parts Yba.info36
  obtain ⟨i1, gi, gz0, gz1, gz2⟩ := info_parts Yba.info4
  clear hn
  go_enter Yba.func3, Yba.ntmps3
  go_wp2_with fail
  refine (new_any n w n1 n16).mono ?_
  rintro r w1 ⟨sb, rfl, hsb, hS1, hw1⟩
  go_wp2_with (first | (at_make; refine mkN _ rfl _ _ 23 rfl 36 i0 _ Yba.underlying23 hi hz0 n rfl rfl (by rw [hz2]; omega) n16 ?_; rw [hz1]) | (at_make; refine mkN _ rfl _ _ 28 rfl 4 i1 _ Yba.underlying28 gi gz0 n rfl rfl (by rw [gz2]; omega) n16 ?_; rw [gz1]))
  have hq := keepB (keepB (newBlock w1 (.cells #[.slice none 0 0, .slice (some ⟨sb, 0, none⟩) n n] 26)) (belowAlloc _ (.cells (madeCells #[Value.float .f64 0, .int .i32 0, .int .i32 0, .int .i32 0] (n * 4)) 36))) (belowAlloc _ (.cells (madeCells #[Value.bool false] n) 4))
  have hE := (made_ev (w1.alloc (.cells #[.slice none 0 0, .slice (some ⟨sb, 0, none⟩) n n] 26)) n n16).since (Since.of (belowAlloc _ (.cells (madeCells #[Value.bool false] n) 4)))
  have hA := made_bool ((w1.alloc (.cells #[.slice none 0 0, .slice (some ⟨sb, 0, none⟩) n n] 26)).alloc (.cells (madeCells #[Value.float .f64 0, .int .i32 0, .int .i32 0, .int .i32 0] (n * 4)) 36)) n
  have z1 : (w1.alloc (.cells #[.slice none 0 0, .slice (some ⟨sb, 0, none⟩) n n] 26)).heap.size = w1.heap.size + 1 := by simp
  have z2 : ((w1.alloc (.cells #[.slice none 0 0, .slice (some ⟨sb, 0, none⟩) n n] 26)).alloc (.cells (madeCells #[Value.float .f64 0, .int .i32 0, .int .i32 0, .int .i32 0] (n * 4)) 36)).heap.size = w1.heap.size + 1 + 1 := by simp
  have z3 : (((w1.alloc (.cells #[.slice none 0 0, .slice (some ⟨sb, 0, none⟩) n n] 26)).alloc (.cells (madeCells #[Value.float .f64 0, .int .i32 0, .int .i32 0, .int .i32 0] (n * 4)) 36)).alloc (.cells (madeCells #[Value.bool false] n) 4)).heap.size = w1.heap.size + 1 + 1 + 1 := by simp
  rw [z1] at hE
  rw [z2] at hA
  have hSW : Since w1 (((w1.alloc (.cells #[.slice none 0 0, .slice (some ⟨sb, 0, none⟩) n n] 26)).alloc (.cells (madeCells #[Value.float .f64 0, .int .i32 0, .int .i32 0, .int .i32 0] (n * 4)) 36)).alloc (.cells (madeCells #[Value.bool false] n) 4)) := Since.alloc (Since.alloc (Since.of (belowAlloc _ _)))
  have hsl := hS1.since hSW
  have hsb1 := hS1.lt
  generalize hW0 : World.alloc _ (.cells (madeCells #[Value.bool false] n) 4) = W0 at hq hE hA z3 hSW hsl ⊢
  have hL0 := linv0 (base := W0.heap.size) hq hsl hE hA (by omega) (by omega) (by omega) (by omega) (Nat.le_refl _) (by omega) (by omega) n1 n16
  have hw0 := hSW.then hw1
  obtain ⟨base, hbase⟩ : ∃ base, base = W0.heap.size := ⟨_, rfl⟩
  obtain ⟨qb, hqb⟩ : ∃ qb, qb = w1.heap.size := ⟨_, rfl⟩
  obtain ⟨hb, hhb⟩ : ∃ hb, hb = w1.heap.size + 1 := ⟨_, rfl⟩
  obtain ⟨ab, hab⟩ : ∃ ab, ab = w1.heap.size + 1 + 1 := ⟨_, rfl⟩
  rw [← hab, ← hhb, ← hqb, ← hbase] at hL0
  rw [← hab, ← hhb, ← hqb]
  have HB : Hid (w.heap.size ≤ qb ∧ w.heap.size ≤ sb ∧ w.heap.size ≤ hb ∧ w.heap.size ≤ ab ∧ w.heap.size ≤ base) := ⟨by have := hw1.size; omega⟩
  clear hW0 hq hE hA z1 z2 z3 hSW hsl hsb1 hqb hhb hab hbase hS1 hsb hw1
  go_loopw [9] (fun i wr => ∃ (k m : Nat) (V : Nat → Ev) (T : Nat → Int) (H : Nat → Ev) (A : Nat → Bool), k ≤ len ∧ i = .int .i64 k ∧ LInv base wr qb sb hb ab n m V T H A ∧ Since w wr) (fun i _ => len - (intOf i).toNat)
  case atStart => exact ⟨0, 0, _, _, _, _, Nat.zero_le _, rfl, hL0, hw0⟩
  case round =>
    obtain ⟨k, m, V, T, H, A, hk, rfl, hL, hSr⟩ := hrel
    by_cases hlt : k < len
    · obtain ⟨hlc, hcm, hO'⟩ := hO
      rcases hO' with e | ⟨ob, off, rfl, hcell⟩
      · omega
      · obtain ⟨hok, x0, x1, x2, x3, x4⟩ := hcell k hlt
        have y0 := hSr.cell x0
        have y1 := hSr.cell x1
        have y2 := hSr.cell x2
        have y3 := hSr.cell x3
        have y4 := hSr.cell x4
        have lo := sizeOf_cell y0
        simp only at lo
        clear x0 x1 x2 x3 x4 hcell hL0 hw0
        unfold maxLen at hcm
        obtain ⟨g1, g2, g3, g4, g5, g6, g7, g8, g9, g10⟩ := hok
        have hB := newBlock wr (.cells #[.int .u8 (O k).op, .int .i8 (O k).time, .int .i8 (O k).fr, .int .u8 (O k).to, .int .i8 (O k).tt] 31)
        have hSb := Since.of (belowAlloc wr (.cells #[.int .u8 (O k).op, .int .i8 (O k).time, .int .i8 (O k).fr, .int .u8 (O k).to, .int .i8 (O k).tt] 31))
        by_cases hop : (O k).op % 3 = 0
        · go_wp2_with fail
          refine (cpop_any base qb sb hb ab n m V T H A _ (hL.since hSb)).mono ?_
          rintro r w2 ⟨rfl, V', T', A', hL2, hF2⟩
          have hS2 := hF2.toSince (hSb.then hSr) HB.out.2.2.2.2 (fun i hi => by have := HB.out; simp at hi; omega)
          clear hB hSb y0 y1 y2 y3 y4 hF2 lo hL
          go_wp2_with fail
          refine (check_any base qb sb hb ab n (m - 1) V' T' H A' _ hL2).mono ?_
          rintro r w3 ⟨rfl, hS3⟩
          have hL3 := hL2.since hS3
          have hSf := hS3.then hS2
          clear hL2 hS2 hS3
          go_wp2
          go_roundw
          case rel => exact ⟨k + 1, m - 1, V', T', H, A', by omega, by go_num, hL3, hSf⟩
          case measure => simp [intOf]; omega
        · obtain ⟨to, hto'⟩ : ∃ to : Nat, (to : Int) = (O k).to % n := ⟨((O k).to % n).toNat, by have := Int.emod_nonneg (O k).to (b := n) (by omega); omega⟩
          have htn : to < n := by have := Int.emod_lt_of_pos (O k).to (b := n) (by omega); omega
          have hto : (O k).to % (n : Int) = (to : Int) := hto'.symm
          have hfl : floatOfInt FloatKind.f64 (O k).time = fl (O k).time := rfl
          clear hto'
          go_wp2_with fail
          have hLb := hL.since hSb
          have hSw := hSb.then hSr
          obtain ⟨bx, hbx⟩ : ∃ bx, bx = wr.heap.size := ⟨_, rfl⟩
          rw [← hbx] at hB ⊢
          generalize hW : wr.alloc _ = W at hB hLb hSw ⊢
          clear hW hbx hSb y0 y1 y2 y3 y4 lo hL hSr
          have e1 : W.cell? ⟨bx, 1, none⟩ = some (.int .i8 (O k).time) := cellOf hB
          have e2 : W.cell? ⟨bx, 2, none⟩ = some (.int .i8 (O k).fr) := cellOf hB
          have e3 : W.cell? ⟨bx, 3, none⟩ = some (.int .u8 (O k).to) := cellOf hB
          have e4 : W.cell? ⟨bx, 4, none⟩ = some (.int .i8 (O k).tt) := cellOf hB
          have lx := sizeOf_block hB
          go_region
          obtain ⟨c, hc⟩ : ∃ c : Ev, c = ⟨(O k).time, (O k).fr, to, (O k).tt⟩ := ⟨_, rfl⟩
          have hC := drewH (newBlock W (.cells #[.float .f64 (fl (O k).time), .int .i32 (O k).fr, .int .i32 to, .int .i32 (O k).tt] 36))
          have hSc := Since.drew (Since.of (belowAlloc W (.cells #[.float .f64 (fl (O k).time), .int .i32 (O k).fr, .int .i32 to, .int .i32 (O k).tt] 36)))
          have hLc := hLb.since hSc
          have hSw2 := hSc.then hSw
          obtain ⟨cx, hcx⟩ : ∃ cx, cx = W.heap.size := ⟨_, rfl⟩
          rw [← hcx] at hC ⊢
          generalize hW2 : World.drew _ = W2 at hC hLc hSw2 ⊢
          have HCX : Hid (base ≤ cx) := ⟨by have := hLb.q.q.lb; omega⟩
          clear hW2 hSc hLb hSw e1 e2 e3 e4 lx hB hcx
          have hcb : cx < W2.heap.size := sizeOf_block hC
          have e2 : W2.cell? ⟨cx, 2, none⟩ = some (.int .i32 to) := cellOf hC
          go_wp2
          have hct : c.to = to := by rw [hc]
          have hcto : c.to.toNat = to := by rw [hct]; rfl
          have hbc : Bnd c := by rw [hc]; exact ⟨g3, g4⟩
          have hcC : W2.heap[cx]? = some (.cells #[.float .f64 (fl c.time), .int .i32 c.fr, .int .i32 c.to, .int .i32 c.tt] 36) := by rw [hc]; exact hC
          have HCT := Hid.mk hct
          have HCTN := Hid.mk hcto
          clear hct hcto hc hC e2
          cases hA : A to with
          | false =>
            have a1 : W2.cell? ⟨ab, to, none⟩ = some (.bool false) := by rw [← hA]; exact hLc.ha.cell htn
            have la1 := hLc.ha.lt
            have HA := Hid.mk hA
            have HT1 : Hid (T to = -1) := ⟨hLc.hasnt htn hA⟩
            clear hA
            go_quiet (fail)
            have hLd := hLc.since (Since.drewN (Since.refl W2) nq)
            have hCd := (Since.drewN (Since.refl W2) nq).keep hcC
            have hSd := (Since.drewN (Since.refl W2) nq).then hSw2
            generalize hW3 : W2.drewN nq = W3 at hLd hCd hSd ⊢
            clear hW3
            obtain ⟨p0, p1, p2, p3⟩ := hLd.he.cell htn
            have z0 := hLd.he.frozen (to * 4)
            have z1 := hLd.he.frozen (to * 4 + 1)
            have z2 := hLd.he.frozen (to * 4 + 2)
            have z3 := hLd.he.frozen (to * 4 + 3)
            have a0 := hLd.ha.cell htn
            have az := hLd.ha.frozen to
            have la := hLd.ha.lt
            have lh := hLd.he.lt
            have hne1 : hb ≠ ab := hLd.d.2.2.2.2
            have hne2 : hb ≠ cx := by have := HCX.out; have := hLd.l1; omega
            have hne3 : ab ≠ cx := by have := HCX.out; have := hLd.l2; omega
            have u0 : W3.cell? ⟨cx, 0, none⟩ = some (.float .f64 (fl c.time)) := cellOf hCd
            have u1 : W3.cell? ⟨cx, 1, none⟩ = some (.int .i32 c.fr) := cellOf hCd
            have u2 : W3.cell? ⟨cx, 2, none⟩ = some (.int .i32 c.to) := cellOf hCd
            have u3 : W3.cell? ⟨cx, 3, none⟩ = some (.int .i32 c.tt) := cellOf hCd
            have lc := sizeOf_block hCd
            obtain ⟨hwS, heS, haS⟩ := hLd.stored c htn
            clear a1 la1 hcb hLc hcC hSw2
            have hm15 : m ≤ 15 := by
              have e := cnt_set htn HA.out
              rw [hLd.ct] at e
              have e' := cnt_le (upd A to true) n
              omega
            go_wp2_with fail
            have hSs : Since w (((((W3.setCell ⟨hb, to * 4, none⟩ (.float .f64 (fl c.time))).setCell ⟨hb, to * 4 + 1, none⟩ (.int .i32 c.fr)).setCell ⟨hb, to * 4 + 2, none⟩ (.int .i32 c.to)).setCell ⟨hb, to * 4 + 3, none⟩ (.int .i32 c.tt)).setCell ⟨ab, to, none⟩ (.bool true)) := by
              have hB := HB.out
              exact Below.setCell (Below.setCell (Below.setCell (Below.setCell (Below.setCell hSd.out hB.2.2.1 _) hB.2.2.1 _) hB.2.2.1 _) hB.2.2.1 _) hB.2.2.2.1 _
            generalize hW4 : (((((W3.setCell ⟨hb, to * 4, none⟩ (.float .f64 (fl c.time))).setCell ⟨hb, to * 4 + 1, none⟩ (.int .i32 c.fr)).setCell ⟨hb, to * 4 + 2, none⟩ (.int .i32 c.to)).setCell ⟨hb, to * 4 + 3, none⟩ (.int .i32 c.tt)).setCell ⟨ab, to, none⟩ (.bool true)) = W4 at hwS heS haS hSs ⊢
            clear hW4 p0 p1 p2 p3 z0 z1 z2 z3 a0 az la lh u0 u1 u2 u3 lc hCd
            refine (offer_new base qb sb n m c V T _ hwS (by rw [HCT.out]; omega) (by rw [HCT.out]; omega) hbc hm15 (by rw [HCTN.out]; exact HT1.out)).mono ?_
            rintro r w4 ⟨rfl, V', T', hwh, hvw, hF4⟩
            rw [HCTN.out] at hvw
            have hL4 := hLd.after hwh heS haS hF4 (vw_store hLd hvw) (by rw [cnt_set htn HA.out, hLd.ct])
            have hS4 := hF4.toSince (w0 := w) hSs HB.out.2.2.2.2 (fun i hi => by have := HB.out; simp at hi; omega)
            clear hF4
            go_wp2_with fail
            refine (check_any base qb sb hb ab n _ V' T' _ _ _ hL4).mono ?_
            rintro r w5 ⟨rfl, hS5⟩
            have hL5 := hL4.since hS5
            have hSf := hS5.then hS4
            clear hL4 hS4 hS5
            go_wp2
            go_roundw
            case rel => exact ⟨k + 1, _, V', T', _, _, by omega, by go_num, hL5, hSf⟩
            case measure => simp [intOf]; omega
          | true =>
            have a0 : ∀ w', Since W2 w' → w'.cell? ⟨ab, to, none⟩ = some (.bool true) := fun w' hf => by rw [← hA]; exact (hLc.ha.since hf).cell htn
            have HA := Hid.mk hA
            obtain ⟨j, hj, hTj, hHV, hHt, hbh⟩ := hLc.has htn hA
            have HTJ := Hid.mk hTj
            have HHV := Hid.mk hHV
            have HHT := Hid.mk hHt
            clear hA hTj hHV hHt
            have c0 : ∀ w', Since W2 w' → w'.cell? ⟨cx, 0, none⟩ = some (.float .f64 (fl c.time)) := fun w' hf => cellOf (hf.keep hcC)
            have c1 : ∀ w', Since W2 w' → w'.cell? ⟨cx, 1, none⟩ = some (.int .i32 c.fr) := fun w' hf => cellOf (hf.keep hcC)
            have c2 : ∀ w', Since W2 w' → w'.cell? ⟨cx, 2, none⟩ = some (.int .i32 c.to) := fun w' hf => cellOf (hf.keep hcC)
            have c3 : ∀ w', Since W2 w' → w'.cell? ⟨cx, 3, none⟩ = some (.int .i32 c.tt) := fun w' hf => cellOf (hf.keep hcC)
            have p0 := fun w' h => ((hLc.he.since (w' := w') h).cell htn).1
            have p1 := fun w' h => ((hLc.he.since (w' := w') h).cell htn).2.1
            have p2 := fun w' h => ((hLc.he.since (w' := w') h).cell htn).2.2.1
            have p3 := fun w' h => ((hLc.he.since (w' := w') h).cell htn).2.2.2
            have hti0 : (0 : Int) ≤ (to : Int) := by omega
            have hti1 : (to : Int) < (n : Int) := by omega
            obtain ⟨bb, HBB⟩ : ∃ bb, Hid (decide (c.lt (H to)) = bb) := ⟨_, ⟨rfl⟩⟩
            go_region_held3 (fun w'' => Since W2 w'') (first | exact Since.dr | exact Since.then hb1 (by assumption) | exact Since.drew (by assumption)) (first | (go_at_call 6; refine (less_any c (H to) hbc hbh _).mono ?_; rintro r1 w1 ⟨rfl, hb1⟩; rw [HBB.out]))
            have hS1 : Since W2 w1 := by assumption
            have hLd := hLc.since hS1
            have hCd := hS1.keep hcC
            have hSd := hS1.then hSw2
            clear a0 c0 c1 c2 c3 p0 p1 p2 p3 hcb hLc hcC hSw2 hb1 hS1
            have u0 : w1.cell? ⟨cx, 0, none⟩ = some (.float .f64 (fl c.time)) := cellOf hCd
            have u1 : w1.cell? ⟨cx, 1, none⟩ = some (.int .i32 c.fr) := cellOf hCd
            have u2 : w1.cell? ⟨cx, 2, none⟩ = some (.int .i32 c.to) := cellOf hCd
            have u3 : w1.cell? ⟨cx, 3, none⟩ = some (.int .i32 c.tt) := cellOf hCd
            have lc := sizeOf_block hCd
            cases bb
            case true =>
              have hlt : Hid (c.lt (H to)) := ⟨of_decide_eq_true HBB.out⟩
              obtain ⟨p0, p1, p2, p3⟩ := hLd.he.cell htn
              have z0 := hLd.he.frozen (to * 4)
              have z1 := hLd.he.frozen (to * 4 + 1)
              have z2 := hLd.he.frozen (to * 4 + 2)
              have z3 := hLd.he.frozen (to * 4 + 3)
              have a0 := hLd.ha.cell htn
              have az := hLd.ha.frozen to
              have la := hLd.ha.lt
              have lh := hLd.he.lt
              have hne1 : hb ≠ ab := hLd.d.2.2.2.2
              have hne2 : hb ≠ cx := by have := HCX.out; have := hLd.l1; omega
              have hne3 : ab ≠ cx := by have := HCX.out; have := hLd.l2; omega
              obtain ⟨hwS, heS, haS⟩ := hLd.stored c htn
              go_wp2_with fail
              have hSs : Since w (((((w1.setCell ⟨hb, to * 4, none⟩ (.float .f64 (fl c.time))).setCell ⟨hb, to * 4 + 1, none⟩ (.int .i32 c.fr)).setCell ⟨hb, to * 4 + 2, none⟩ (.int .i32 c.to)).setCell ⟨hb, to * 4 + 3, none⟩ (.int .i32 c.tt)).setCell ⟨ab, to, none⟩ (.bool true)) := by
                have hB := HB.out
                exact Below.setCell (Below.setCell (Below.setCell (Below.setCell (Below.setCell hSd.out hB.2.2.1 _) hB.2.2.1 _) hB.2.2.1 _) hB.2.2.1 _) hB.2.2.2.1 _
              generalize hW4 : (((((w1.setCell ⟨hb, to * 4, none⟩ (.float .f64 (fl c.time))).setCell ⟨hb, to * 4 + 1, none⟩ (.int .i32 c.fr)).setCell ⟨hb, to * 4 + 2, none⟩ (.int .i32 c.to)).setCell ⟨hb, to * 4 + 3, none⟩ (.int .i32 c.tt)).setCell ⟨ab, to, none⟩ (.bool true)) = W4 at hwS heS haS hSs ⊢
              clear hW4 p0 p1 p2 p3 z0 z1 z2 z3 a0 az la lh u0 u1 u2 u3 lc hCd
              refine (offer_old base qb sb n m j c V T _ hwS (by rw [HCT.out]; omega) (by rw [HCT.out]; omega) hbc hj (by rw [HCTN.out]; exact HTJ.out) (by rw [← HHV.out, HHT.out, HCT.out])).mono ?_
              rintro r w4 ⟨rfl, V', T', hwh, hvw, hF4⟩
              rw [HCTN.out, ← HHV.out, show sooner c (H to) = c from if_pos hlt.out] at hvw
              have hL4 := hLd.after hwh heS haS hF4 (vw_store hLd hvw) (by rw [upd_true HA.out]; exact hLd.ct)
              have hS4 := hF4.toSince (w0 := w) hSs HB.out.2.2.2.2 (fun i hi => by have := HB.out; simp at hi; omega)
              clear hF4
              go_wp2_with fail
              refine (check_any base qb sb hb ab n _ V' T' _ _ _ hL4).mono ?_
              rintro r w5 ⟨rfl, hS5⟩
              have hL5 := hL4.since hS5
              have hSf := hS5.then hS4
              clear hL4 hS4 hS5
              go_wp2
              go_roundw
              case rel => exact ⟨k + 1, _, V', T', _, _, by omega, by go_num, hL5, hSf⟩
              case measure => simp [intOf]; omega
            case false =>
              have hlt : Hid (¬ c.lt (H to)) := ⟨of_decide_eq_false HBB.out⟩
              go_wp2_with fail
              clear u0 u1 u2 u3 lc hCd
              refine (offer_old base qb sb n m j c V T _ hLd.q (by rw [HCT.out]; omega) (by rw [HCT.out]; omega) hbc hj (by rw [HCTN.out]; exact HTJ.out) (by rw [← HHV.out, HHT.out, HCT.out])).mono ?_
              rintro r w4 ⟨rfl, V', T', hwh, hvw, hF4⟩
              rw [HCTN.out, ← HHV.out, show sooner c (H to) = H to from if_neg hlt.out] at hvw
              have hL4 := hLd.after hwh hLd.he hLd.ha hF4 (fun v hv => by
                rw [hvw v hv]
                by_cases e : v = to
                · rw [if_pos e, e, HA.out, if_pos rfl]
                · rw [if_neg e]; exact hLd.vw v hv) hLd.ct
              have hS4 := hF4.toSince (w0 := w) hSd HB.out.2.2.2.2 (fun i hi => by have := HB.out; simp at hi; omega)
              clear hF4
              go_wp2_with fail
              refine (check_any base qb sb hb ab n _ V' T' _ _ _ hL4).mono ?_
              rintro r w5 ⟨rfl, hS5⟩
              have hL5 := hL4.since hS5
              have hSf := hS5.then hS4
              clear hL4 hS4 hS5
              go_wp2
              go_roundw
              case rel => exact ⟨k + 1, _, V', T', _, _, by omega, by go_num, hL5, hSf⟩
              case measure => simp [intOf]; omega
    · have hkl : k = len := by omega
      clear hL0 hw0
      have hmn : m ≤ n := by have := cnt_le A n; rw [hL.ct] at this; exact this
      go_wp2_with fail
      go_loopw [13] (fun i wr => ∃ (k m : Nat) (V : Nat → Ev) (T : Nat → Int) (H : Nat → Ev) (A : Nat → Bool), k ≤ n + 1 ∧ i = .int .i64 k ∧ m ≤ n - k ∧ LInv base wr qb sb hb ab n m V T H A ∧ Since w wr) (fun i _ => n + 1 - (intOf i).toNat)
      case atStart => exact ⟨0, m, V, T, H, A, by omega, rfl, by omega, hL, hSr⟩
      case round =>
        clear hL hSr hkl hmn hlt hk
        obtain ⟨k, m, V, T, H, A, hk, rfl, hmk, hL, hSr⟩ := hrel
        by_cases hlt : k ≤ n
        · go_wp2_with fail
          refine (cpop_any base qb sb hb ab n m V T H A _ hL).mono ?_
          rintro r w2 ⟨rfl, V', T', A', hL2, hF2⟩
          have hS2 := hF2.toSince hSr HB.out.2.2.2.2 (fun i hi => by have := HB.out; simp at hi; omega)
          clear hF2 hL
          go_wp2_with fail
          refine (check_any base qb sb hb ab n (m - 1) V' T' H A' _ hL2).mono ?_
          rintro r w3 ⟨rfl, hS3⟩
          have hL3 := hL2.since hS3
          have hSf := hS3.then hS2
          clear hL2 hS2 hS3
          go_wp2
          go_roundw
          case rel => exact ⟨k + 1, m - 1, V', T', H, A', by omega, by go_num, by omega, hL3, hSf⟩
          case measure => simp [intOf]; omega
        · obtain rfl : m = 0 := by omega
          go_wp2_with fail
          refine (len_any base qb sb n 0 V T _ hL.q.q).mono ?_
          rintro r w2 ⟨rfl, rfl⟩
          go_wp2
          go_ret
          exact ⟨rfl, hSr⟩

theorem law_big (nodes : Int) (a : Option Addr) (len cap : Nat) (w : World) (hl : 1024 < len) (hc : len < 2 ^ 63) :
    Calls Yba.prog 3 #[.int .u8 nodes, .slice a len cap] w fun r w' => r = .returned (.bool true) ∧ Since w w' := by
  go_enter Yba.func3, Yba.ntmps3
  go_wp2
  go_ret
  exact ⟨rfl, Since.refl _⟩
end Go.Proofs.Ybulkcwas
