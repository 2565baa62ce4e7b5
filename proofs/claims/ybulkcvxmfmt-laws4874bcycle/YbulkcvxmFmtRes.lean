/- resolve (6). -/
import Derived.Test.YbulkcvxmFmtRes1
set_option linter.unusedSimpArgs false
set_option linter.unusedVariables false
namespace Go.Proofs.YbulkcvxmFmt
open Go.RowKit

/-- resolve with fuel f. -/
def ResOk (g : Gph) (u : TypeId) (ea : Addr) (T0 : TypeId) (f : Nat) : Prop := ∀ (c : Nat → Nat) (R : Nat → Int) (F : Nat → Nat → Value) (X P : List Nat) (pv : Value) (i : Nat) (w : World),
    Net w g X c R F → Rk g.E g.own c R → i < g.n → (∀ v, c v ≤ 2) → fresh c g.n < f → RowL w 0 35 1 ptC pv (P.map g.rb) → (∀ k ∈ P, k < g.n) → (∀ k, k < g.n → c k = 1 → k ∈ P) → P.length + fresh c g.n ≤ g.n → (∀ x ∈ X, x < w.heap.size) → w.heap[0]? = some (.cells #[.iface u (.pointer (some ea))] T0) → (∀ j, j < g.n → g.rb j ≠ 0) → pv.ownBlock ≠ some 0 →
    Calls Ybaf.prog 6 #[.pointer (some ⟨g.rb i, 0, none⟩), .map (some g.mb), pv] w fun r w' => Rf g pv.ownBlock w w' ∧ ((vis g.E f c i = none ∧ ∃ v, r = .returned v ∧ Conf w' (.iface u (.pointer (some ea))) v) ∨
      ∃ c' R' F', vis g.E f c i = some c' ∧ r = .returned .nilIface ∧ Net w' g X c' R' F' ∧ Rk g.E g.own c' R' ∧ (∀ k, c k ≠ 0 → R' k = R k ∧ F' k = F k) ∧ RowL w' 0 35 1 ptC pv (P.map g.rb))

theorem info47 : (Ybaf.prog.info? 47).map (fun i => (i.zero, i.size, i.bytes)) = some (some (.slice none 0 0), 1, 24) := by kernel_rfl
theorem sl_one (a : Addr) (n m : Nat) : ∀ u ∈ [Value.slice (some a) n m], u.oneCell' = true := by
  intro u hu
  simp at hu
  subst hu
  rfl
/-- While the inherited roles are resolved: j of them are done. -/
structure Inh (g : Gph) (f : Nat) (c : Nat → Nat) (R : Nat → Int) (F : Nat → Nat → Value) (w8 : World) (X : List Nat) (i e p g1 : Nat) (pv : Value) (bs L : List Nat) (iv cv : Value) (j : Nat) (LL : List (List ByteArray)) (c1 : Nat → Nat) (R1 : Nat → Int) (F1 : Nat → Nat → Value) (m : Int) (w : World) : Prop where
  mid : Mid g w8 X i e p g1 pv bs c1 R1 F1 w
  ls : LS w w8.heap.size cv LL
  ll : LL.length = j + 1
  la : ∀ l ∈ LL, ∀ s ∈ l, s ∈ allCodes g.n
  rk : Rk g.E g.own c1 R1
  al : allOf (vis g.E f) (upd c i 1) (L.take j) = some c1
  f2 : F1 i 2 = iv
  f9 : F1 i 9 = .int .i64 m
  gt : Great m (g.own i) R1 (L.take j)
  two : ∀ v ∈ L.take j, c1 v = 2
  keep : ∀ k, c k ≠ 0 → R1 k = R k ∧ F1 k = F k
theorem kept_fresh {n : Nat} {a b : Nat → Nat} (h : Kept a b) (hle : ∀ v, a v ≤ 2) : fresh b n ≤ fresh a n := fresh_mono (fun v _ h0 => by
  rcases (by have := hle v; omega : a v = 0 ∨ a v = 1 ∨ a v = 2) with h1 | h1 | h1
  · exact h1
  · have := (h.one v).1 h1; omega
  · have := h.two v h1; omega)

set_option maxRecDepth 100000 in
set_option maxHeartbeats 8000000 in
theorem resolve_fresh (g : Gph) (ok : Gok g) (u : TypeId) (ea : Addr) (T0 : TypeId) (f : Nat) (ih : ResOk g u ea T0 f) (c : Nat → Nat) (R : Nat → Int) (F : Nat → Nat → Value) (X P : List Nat) (pv : Value) (i : Nat) (w : World)
    (hN : Net w g X c R F) (hRk : Rk g.E g.own c R) (hi : i < g.n) (hle : ∀ v, c v ≤ 2) (hf : fresh c g.n < f + 1) (hP : RowL w 0 35 1 ptC pv (P.map g.rb)) (hlt : ∀ k ∈ P, k < g.n) (hop : ∀ k, k < g.n → c k = 1 → k ∈ P) (hcnt : P.length + fresh c g.n ≤ g.n) (hX : ∀ x ∈ X, x < w.heap.size) (hG : w.heap[0]? = some (.cells #[.iface u (.pointer (some ea))] T0)) (hnz : ∀ j, j < g.n → g.rb j ≠ 0) (hpz : pv.ownBlock ≠ some 0) (hci : c i = 0) :
    Calls Ybaf.prog 6 #[.pointer (some ⟨g.rb i, 0, none⟩), .map (some g.mb), pv] w fun r w' => Rf g pv.ownBlock w w' ∧ ((vis g.E (f + 1) c i = none ∧ ∃ v, r = .returned v ∧ Conf w' (.iface u (.pointer (some ea))) v) ∨
      ∃ c' R' F', vis g.E (f + 1) c i = some c' ∧ r = .returned .nilIface ∧ Net w' g X c' R' F' ∧ Rk g.E g.own c' R' ∧ (∀ k, c k ≠ 0 → R' k = R k ∧ F' k = F k) ∧ RowL w' 0 35 1 ptC pv (P.map g.rb)) := by
  have n3 := ok.n3
  have HV : Hid (vis g.E (f + 1) c i = (allOf (vis g.E f) (upd c i 1) (g.E i)).map fun c' => upd c' i 2) := ⟨by
    show (if c i = 2 then _ else if c i = 1 then _ else _) = _
    rw [hci]; rfl⟩
  have HF := Hid.mk (fresh_open (c := c) (i := i) (x := 1) (by omega) hi hci)
  have r0 := (hN.cells i hi).cell (x := 10) (by omega)
  rw [(hN.role i hi).f10, hci] at r0
  have z0 := (hN.cells i hi).frozen 10
  have lr := (hN.cells i hi).lt
  have hN1 : Net (w.setCell ⟨g.rb i, 10, none⟩ (.int .i64 1)) g X (upd c i 1) R (upd F i (upd (F i) 10 (.int .i64 1))) := hN.set ok hi (by omega) _ (upd c i 1) R (fun j hj => ⟨upd_ne _ _ hj, rfl⟩) (by
    rw [upd_same]
    exact (hN.role i hi).visit (R i) rfl (fun e => by cases e) (fun e => by cases e) (fun e => by cases e))
  have hk1 : Kx [51] [] w (w.setCell ⟨g.rb i, 10, none⟩ (.int .i64 1)) := (hN.cells i hi).kxset (by simp)
  have hP1 := hk1.row hP (by simp)
  have hG1 := (setFar (o := 10) (v := .int .i64 1) (Ne.symm (hnz i hi))).trans hG
  have hrf1 : Rf g pv.ownBlock w (w.setCell ⟨g.rb i, 10, none⟩ (.int .i64 1)) := (Rf.refl _ _ _).set hi _
  have lw1 : (w.setCell ⟨g.rb i, 10, none⟩ (.int .i64 1)).heap.size = w.heap.size := by simp [World.setCell]
  have hRk1 : Rk g.E g.own (upd c i 1) R := hRk.congr (fun v => by
    by_cases e : v = i
    · subst e; rw [upd_same, hci]; omega
    · rw [upd_ne _ _ e]) (fun _ _ => rfl)
  have HC : Hid (c i = 0) := ⟨hci⟩
  have hPl : (P.map g.rb).length ≤ 1000 := by rw [List.length_map]; omega
  have hB1 := newBlock (w.setCell ⟨g.rb i, 10, none⟩ (.int .i64 1)) (.cells #[.pointer (some ⟨g.rb i, 0, none⟩)] 35)
  rw [lw1] at hB1
  have hS1 := Since.new (w.setCell ⟨g.rb i, 10, none⟩ (.int .i64 1)) (.cells #[.pointer (some ⟨g.rb i, 0, none⟩)] 35)
  have hP2 := hP1.since hS1
  have lw2 : ((w.setCell ⟨g.rb i, 10, none⟩ (.int .i64 1)).alloc (.cells #[.pointer (some ⟨g.rb i, 0, none⟩)] 35)).heap.size = w.heap.size + 1 := by simp [lw1]
  have HN := Hid.mk hN
  have HP := Hid.mk hP
  have HIH := Hid.mk ih
  clear hN hk1 hG hci ih
  go_enter Ybaf.func6, Ybaf.ntmps6
  go_wp2_with (first | (at_builtin; refine listPath rfl _ _ rfl pv (P.map g.rb) (g.rb i) rfl hP2 hPl ⟨w.heap.size, 0, none⟩ 1 rfl (newsAt hB1) ?_; intro g1 cap1 w8 hP8 hgr hloc))
  have hk8 : Kx [35] [] _ w8 := Kx.app (Ms := []) hgr hP2 (by simp)
  have hN8 := (hN1.since hS1).kx hk8 (by simp) (by simp)
  have hG8 := (hgr.block 0 (sizeOf_block (hS1.keep hG1)) (fun e => hpz e.symm)).trans (hS1.keep hG1)
  have hg10 : g1 ≠ 0 := by
    rcases hloc with e | ⟨e, _⟩
    · intro e0; rw [e, e0] at hpz; exact hpz rfl
    · rw [e, lw2]; omega
  have hrf8 : Rf g pv.ownBlock w w8 := (hrf1.since hS1).grown hgr (fun b hb => .inr hb.symm)
  have hpb : ∀ b, some g1 = some b → w.heap.size ≤ b ∨ some b = pv.ownBlock := by
    intro b hb
    cases hb
    rcases hloc with e | ⟨e, _⟩
    · right; rw [e]; rfl
    · left; rw [e, lw2]; omega
  have hold : ∀ wr, Rf g (some g1) w8 wr → RowL wr 0 35 1 ptC (.slice (some ⟨g1, 0, none⟩) ((P.map g.rb).length + 1) cap1) (P.map g.rb ++ [g.rb i]) → RowL wr 0 35 1 ptC pv (P.map g.rb) := by
    intro wr hrf hrow
    rcases hloc with e | ⟨e, h8⟩
    · rw [e]
      exact hrow.front ptC_len
    · refine h8.keep (fun b cs hb hg => ?_)
      rw [hrf.block b (sizeOf_block hg) (fun e' => ?_) (fun j hj e' => ?_)]
      · exact hg
      · have := (hP2.base_ge b hb).2
        cases e'
        omega
      · obtain ⟨cs', h1⟩ := hN8.blocks j hj
        rw [← e', hg] at h1
        cases h1
  have hX8 : ∀ x ∈ X, x < w8.heap.size := fun x hx => Nat.lt_of_lt_of_le (hX x hx) hrf8.size
  have hbs : P.map g.rb ++ [g.rb i] = (P ++ [i]).map g.rb := by simp
  rw [hbs] at hP8 hold
  rw [List.length_map] at hP8 hold
  obtain ⟨F1, hF1⟩ : ∃ F1, F1 = upd F i (upd (F i) 10 (.int .i64 1)) := ⟨_, rfl⟩
  rw [← hF1] at hN8
  have HF1 : Hid ((∀ k, k ≠ i → F1 k = F k)) := ⟨fun k hk => by rw [hF1, upd_ne _ _ hk]⟩
  have hc1i : upd c i 1 i ≠ 2 := by rw [upd_same]; omega
  have lr8 := (hN8.cells i hi).lt
  have HGG : Hid (∀ wr, Rf g (some g1) w8 wr → wr.heap[0]? = some (.cells #[.iface u (.pointer (some ea))] T0)) := ⟨fun wr hrf => (hrf.block 0 (sizeOf_block hG8) (fun e => hg10 (by cases e; rfl)) (fun j hj e => hnz j hj e.symm)).trans hG8⟩
  have HNZ := Hid.mk hnz
  have HG10 := Hid.mk hg10
  have HOLD := Hid.mk hold
  have HPB := Hid.mk hpb
  have HRF8 := Hid.mk hrf8
  have HX8 := Hid.mk hX8
  have HLE := Hid.mk hle
  have HOP := Hid.mk hop
  have HLT := Hid.mk hlt
  have HRK := Hid.mk hRk1
  clear hk8 hgr hloc hG8 hold hpb hrf8 hX8 hbs hF1 hN1 hP1 hG1 hrf1 lw1 hB1 hS1 hP2 lw2 r0 z0 lr hX hle hop hlt hRk1 hRk hP hnz hpz hg10
  refine (newPermSet_any _).mono ?_
  rintro r1 w9 ⟨e, p, rfl, he, hp, hne, pe9, pp9, hS9⟩
  obtain ⟨F2, hF2k, hF2x, hM⟩ := Mid.start (g1 := g1) ok hi hN8 hc1i hS9 he hp hne pe9 pp9 hP8
  have hN9 := hN8.since hS9
  have c6 := (hN9.cells i hi).cell (x := 6) (by omega)
  have c7 := (hN9.cells i hi).cell (x := 7) (by omega)
  have z6 := (hN9.cells i hi).frozen 6
  have z7 := (hN9.cells i hi).frozen 7
  have l9 := (hN9.cells i hi).lt
  have c3 := hM.cell hi (x := 3) (by omega)
  have l3 := (hM.net.cells i hi).lt
  obtain ⟨gs, hgs⟩ : ∃ gs, gs = g.G i := ⟨_, rfl⟩
  have hgrow := (hM.net.role i hi).gr
  rw [← hgs] at hgrow
  obtain ⟨ga, gcap, hgv, -⟩ := hgrow.form
  rw [hgv] at c3 hgrow
  have hgl := ok.glen i hi
  have HG4 := Hid.mk (ok.glt i hi)
  rw [← hgs] at hgl HG4
  have HGS := Hid.mk hgs
  have HGV := Hid.mk hgv
  have HF2 := Hid.mk hF2k
  have HF2X := Hid.mk hF2x
  clear hN8 hN9 pe9 pp9 hS9 hgv hgs hF2k hF2x hgrow
  go_wp2_with fail
  generalize hW10 : World.setCell (World.setCell w9 _ _) _ _ = W10 at *
  clear hW10 c6 c7 z6 z7 l9 c3 l3
  go_loopw [70] (fun iv wr => ∃ j : Nat, j ≤ gs.length ∧ iv = .int .i64 j ∧ Mid g w8 X i e p g1 (.slice (some ⟨g1, 0, none⟩) (P.length + 1) cap1) ((P ++ [i]).map g.rb) (upd c i 1) R F2 wr) (fun iv _ => gs.length - (intOf iv).toNat)
  case atStart => exact ⟨0, Nat.zero_le _, rfl, hM⟩
  case round =>
    clear hM
    obtain ⟨j, hj, rfl, hM⟩ := hrel
    by_cases hjl : j < gs.length
    · have hrow := (hM.net.role i hi).gr
      rw [HGV.out, ← HGS.out] at hrow
      obtain ⟨gb, rfl, -⟩ := hrow.at (j := j) hjl
      obtain ⟨k, hk⟩ : ∃ k, gs[j]? = some k := ⟨gs[j], List.getElem?_eq_getElem hjl⟩
      have hk4 := HG4.out k (List.mem_of_getElem? hk)
      have y0 := (hrow.cell grC_len (i := 0) (u := .string (codeB k)) hk (by omega) rfl rfl).1
      have y1 := (hrow.cell grC_len (i := 1) (u := .pointer none) hk (by omega) rfl rfl).1
      simp only [Nat.add_zero] at y0
      have ly := sizeOf_cell y0
      simp only at ly
      have hcap := hrow.cap
      unfold maxLen at hcap
      obtain ⟨hcap1, hcap2⟩ := hcap
      clear hk hrow
      go_wp2_with fail
      have hM3 := hM.since (Since.new wr (.cells #[.string (codeB k), .pointer none] 60))
      have hB3 := newBlock wr (.cells #[.string (codeB k), .pointer none] 60)
      obtain ⟨tb, htb⟩ : ∃ tb, tb = wr.heap.size := ⟨_, rfl⟩
      have hne1 : tb ≠ e := by have := hM.pe.lt; omega
      have hne2 : tb ≠ p := by have := hM.pp.lt; omega
      rw [← htb] at hB3 ⊢
      generalize hW3 : wr.alloc (.cells #[.string (codeB k), .pointer none] 60) = W3 at *
      clear hW3 htb hM y0 y1 ly
      have hb1 : Bt e p W3 W3 := Bt.refl hM3.pe hM3.pp
      have hle' : g.rb i < W3.heap.size := (hM3.net.cells i hi).lt
      have hri1 : g.rb i ≠ e := (hM3.net.cells i hi).neMap hM3.pe
      have hri2 : g.rb i ≠ p := (hM3.net.cells i hi).neMap hM3.pp
      have x6 : ∀ w'', Bt e p W3 w'' → w''.cell? ⟨g.rb i, 6, none⟩ = some (.map (some e)) := fun w'' h => by rw [(h.cells (hM3.net.cells i hi) hri1 hri2).cell (by omega), hM3.f6]
      have x7 : ∀ w'', Bt e p W3 w'' → w''.cell? ⟨g.rb i, 7, none⟩ = some (.map (some p)) := fun w'' h => by rw [(h.cells (hM3.net.cells i hi) hri1 hri2).cell (by omega), hM3.f7]
      have y0 : ∀ w'', Bt e p W3 w'' → w''.cell? ⟨tb, 0, none⟩ = some (.string (codeB k)) := fun w'' h => cellOf (h.keep hB3 hne1 hne2)
      have y1 : ∀ w'', Bt e p W3 w'' → w''.cell? ⟨tb, 1, none⟩ = some (.pointer none) := fun w'' h => cellOf (h.keep hB3 hne1 hne2)
      have hadd : ∀ w'', Bt e p W3 w'' → Calls Ybaf.prog 16 #[.agg #[.map (some e), .map (some p)], .agg #[.string (codeB k), .pointer none]] w'' fun r w' => r = .returned (.tuple #[]) ∧ Bt e p w'' w' := fun w'' h => add_any k e p w'' hk4 h.pe h.pp
      go_region_held3 (fun w'' => Bt e p W3 w'') (first | exact Bt.since hb1 Since.dr | exact Bt.trans (by assumption) hc2 | assumption) (first | (go_at_call 16; refine (hadd _ (by assumption)).mono ?_; rintro r3 w3 ⟨rfl, hc2⟩))
      have hbf : Bt e p W3 w3 := by assumption
      have hM4 := hM3.bt hbf
      clear hbf hadd x6 x7 y0 y1 hb1 hM3 hB3 hc2
      go_wp2
      go_roundw
      case rel => exact ⟨j + 1, by omega, by go_num, hM4⟩
      case measure => simp [intOf]; omega
    · have c0 := hM.cell hi (x := 0) (by omega)
      have c4 := hM.cell hi (x := 4) (by omega)
      have c2 := hM.cell hi (x := 2) (by omega)
      have c9 := hM.cell hi (x := 9) (by omega)
      have z9 := (hM.net.cells i hi).frozen 9
      have lr := (hM.net.cells i hi).lt
      rw [(hM.net.role i hi).f0] at c0
      rw [(hM.net.role i hi).f4] at c4
      obtain ⟨L, hL⟩ : ∃ L, L = g.E i := ⟨_, rfl⟩
      have hirow := (hM.net.role i hi).inh
      rw [← hL] at hirow
      obtain ⟨ia, icap, hiv, -⟩ := hirow.form
      rw [List.length_map] at hiv
      rw [hiv] at c2
      have hil := ok.elen i hi
      have HEL := Hid.mk (ok.elt i hi)
      rw [← hL] at hil HEL
      have HL := Hid.mk hL
      have lw9 : (wr.setCell ⟨g.rb i, 9, none⟩ (.int .i64 (g.own i))).heap.size = wr.heap.size := by simp [World.setCell]
      have hls2 := ls_start (wr.setCell ⟨g.rb i, 9, none⟩ (.int .i64 (g.own i))) w8.heap.size (codeS i) (by rw [lw9]; exact hM.rf.size)
      have hMb := (hM.put ok hi hc1i (x := 9) (by omega) (.int .i64 (g.own i))).since ((Since.new ((wr.setCell ⟨g.rb i, 9, none⟩ (.int .i64 (g.own i))).alloc (.cells #[.iface 9 (.string (codeS i))] 20)) (.cells #[.slice (some ⟨wr.heap.size, 0, none⟩) 1 1] 47)).then (Since.new (wr.setCell ⟨g.rb i, 9, none⟩ (.int .i64 (g.own i))) (.cells #[.iface 9 (.string (codeS i))] 20)))
      rw [lw9] at hls2
      have hf2 : upd F2 i (upd (F2 i) 9 (.int .i64 (g.own i))) i 2 = .slice ia L.length icap := by rw [upd_same, upd_ne _ _ (by omega)]; exact hiv
      have hf9 : upd F2 i (upd (F2 i) 9 (.int .i64 (g.own i))) i 9 = .int .i64 (g.own i) := by rw [upd_same, upd_same]
      have hfk : ∀ k, c k ≠ 0 → upd F2 i (upd (F2 i) 9 (.int .i64 (g.own i))) k = F k := fun k hk => by
        have hki : k ≠ i := fun e' => hk (by rw [e']; exact HC.out)
        rw [upd_ne _ _ hki, HF2.out k hki, HF1.out k hki]
      generalize hF3 : upd F2 i (upd (F2 i) 9 (.int .i64 (g.own i))) = F3 at *
      have HF2' := Hid.mk hf2
      have HF9 := Hid.mk hf9
      have HFK := Hid.mk hfk
      clear hF3 hL hirow hiv hM hf2 hf9 hfk lw9
      go_wp2_with fail
      generalize hW11 : World.alloc (World.alloc (World.setCell wr _ _) _) _ = W11 at *
      obtain ⟨cv0, hcv0⟩ : ∃ cv0, cv0 = Value.slice (some ⟨wr.heap.size + 1, 0, none⟩) 1 1 := ⟨_, rfl⟩
      rw [← hcv0] at hls2 ⊢
      clear hcv0 hW11 c0 c4 c2 c9 z9 lr
      have hI0 : Inh g f c R F w8 X i e p g1 (.slice (some ⟨g1, 0, none⟩) (P.length + 1) cap1) ((P ++ [i]).map g.rb) L (.slice ia L.length icap) cv0 0 [[codeS i]] (upd c i 1) R F3 (g.own i) W11 :=
        ⟨hMb, hls2, rfl, by
          intro l hl s hs
          simp at hl
          subst hl
          simp at hs
          subst hs
          exact mem_allCodes.2 ⟨i, hi, rfl⟩, HRK.out, rfl, HF2'.out, HF9.out, Great.nil _ _, by simp, fun k hk => ⟨rfl, HFK.out k hk⟩⟩
      clear hMb hls2
      have HUL : Hid (∀ v, upd c i 1 v ≤ 2) := ⟨fun v => by
        by_cases e' : v = i
        · subst e'; rw [upd_same]; omega
        · rw [upd_ne _ _ e']; exact HLE.out v⟩
      clear hc1i
      go_loopw [12, 100] (fun cv iv wr => ∃ (j : Nat) (LL : List (List ByteArray)) (c1 : Nat → Nat) (R1 : Nat → Int) (F1 : Nat → Nat → Value) (m : Int), j ≤ L.length ∧ iv = .int .i64 j ∧ Inh g f c R F w8 X i e p g1 (.slice (some ⟨g1, 0, none⟩) (P.length + 1) cap1) ((P ++ [i]).map g.rb) L (.slice ia L.length icap) cv j LL c1 R1 F1 m wr) (fun _ iv _ => L.length - (intOf iv).toNat)
      case atStart => exact ⟨0, _, _, _, _, _, Nat.zero_le _, rfl, hI0⟩
      case round =>
        clear hI0
        obtain ⟨j, LL, c1, R1, F1, m, hj, rfl, hI⟩ := hrel
        have hk1 : Kept (upd c i 1) c1 := allOf_kept (fun c v c' h => (vis_kept g.E f c v c' h).1) hI.al
        have HC1 : Hid (c1 i = 1) := ⟨(hk1.one i).1 (upd_same _ _ _)⟩
        by_cases hjl : j < L.length
        · have hrow := (hI.mid.net.role i hi).inh
          rw [hI.f2, ← HL.out] at hrow
          obtain ⟨ib, rfl, -⟩ := hrow.at (j := j) (by simpa using hjl)
          obtain ⟨v, hv⟩ : ∃ v, L[j]? = some v := ⟨L[j], List.getElem?_eq_getElem hjl⟩
          have hvn : v < g.n := HEL.out v (List.mem_of_getElem? hv)
          have hq : (L.map codeS)[j]? = some (codeS v) := by rw [List.getElem?_map, hv]; rfl
          have y0 := (hrow.cell strC_len (i := 0) (u := .string (codeS v)) hq (by omega) rfl (by rw [List.length_map])).1
          simp only [Nat.mul_one, Nat.add_zero] at y0
          have ly := sizeOf_cell y0
          simp only at ly
          have hcap := hrow.cap
          rw [List.length_map] at hcap
          unfold maxLen at hcap
          obtain ⟨hcap1, hcap2⟩ := hcap
          have hlk := hI.mid.net.map.look hvn (by omega)
          have HNX : Hid (allOf (vis g.E f) (upd c i 1) (L.take (j + 1)) = vis g.E f c1 v) := ⟨by
            obtain ⟨hjj, ev⟩ := List.getElem?_eq_some_iff.1 hv
            rw [List.take_succ_eq_append_getElem hjj, allOf_snoc, hI.al, ev]; rfl⟩
          have HTK : Hid (L.take (j + 1) = L.take j ++ [v]) := ⟨by
            obtain ⟨hjj, ev⟩ := List.getElem?_eq_some_iff.1 hv
            rw [List.take_succ_eq_append_getElem hjj, ev]⟩
          have hrec := HIH.out c1 R1 F1 ([e, p] ++ X) (P ++ [i]) (.slice (some ⟨g1, 0, none⟩) (P.length + 1) cap1) v wr hI.mid.net hI.rk hvn (fun v => hk1.le v (HUL.out v)) (by have := kept_fresh (n := g.n) hk1 HUL.out; have := HF.out; omega) hI.mid.path
            (fun k hk => by
              rcases List.mem_append.1 hk with h | h
              · exact HLT.out k h
              · simp at h; subst h; exact hi)
            (fun k hk h1 => by
              have h2 := (hk1.one k).2 h1
              by_cases e' : k = i
              · subst e'; simp
              · rw [upd_ne _ _ e'] at h2
                exact List.mem_append_left _ (HOP.out k hk h2))
            (by have := kept_fresh (n := g.n) hk1 HUL.out; have := HF.out; simp only [List.length_append, List.length_cons, List.length_nil]; omega)
            (fun x hx => by
              rcases List.mem_append.1 hx with h | h
              · simp at h
                rcases h with rfl | rfl
                · exact hI.mid.pe.lt
                · exact hI.mid.pp.lt
              · exact Nat.lt_of_lt_of_le (HX8.out x h) hI.mid.rf.size)
            (HGG.out wr hI.mid.rf) HNZ.out (by intro e; simp [Value.ownBlock] at e; exact HG10.out e)
          have HREC := Hid.mk hrec
          have HI := Hid.mk hI
          have HK1 := Hid.mk hk1
          clear hq hrow hv hrec hI hk1
          go_wp2_with fail
          refine HREC.out.mono ?_
          rintro r1 w1 ⟨hrf1, ⟨hn, v1, rfl, hconf⟩ | ⟨c2, R2, F4, hs2, rfl, hN2, hRk2, hkeep2, hP2⟩⟩
          · obtain ⟨b1, x1, rfl, hb1⟩ := hconf.ex
            have hrfa := HRF8.out.trans (HI.out.mid.rf.trans hrf1 (fun b hb => .inr (by simpa [Value.ownBlock] using hb.symm))) HPB.out
            have hres : vis g.E (f + 1) c i = none := by
              rw [HV.out, ← HL.out, allOf_none (j := j + 1) (by rw [HNX.out]; exact hn)]; rfl
            have HRES := Hid.mk hres
            have HCO := Hid.mk hconf
            clear hn hres hconf HREC
            go_wp2
            go_ret
            exact ⟨hrfa, .inl ⟨HRES.out, _, rfl, HCO.out⟩⟩
          · obtain ⟨hk2, hv2⟩ := vis_kept g.E f c1 v c2 hs2
            have HC2 : Hid (c2 i = 1) := ⟨(hk2.one i).1 HC1.out⟩
            have hkx : Kx [51, 35] [] wr w1 := hrf1.kx HI.out.mid.net.blocks (fun b hb => HI.out.mid.path.blocks b hb)
            have hki := hkeep2 i (by rw [HC1.out]; omega)
            have hM2 : Mid g w8 X i e p g1 (.slice (some ⟨g1, 0, none⟩) (P.length + 1) cap1) ((P ++ [i]).map g.rb) c2 R2 F4 w1 :=
              ⟨HI.out.mid.rf.trans hrf1 (fun b hb => .inr (by simpa [Value.ownBlock] using hb.symm)), hN2, HI.out.mid.pe.kx hkx (by simp), HI.out.mid.pp.kx hkx (by simp), HI.out.mid.le, HI.out.mid.lp, HI.out.mid.ne, by rw [hki.2]; exact HI.out.mid.f6, by rw [hki.2]; exact HI.out.mid.f7, hP2⟩
            have hLS2 := HI.out.ls.kx hkx (by simp) (by simp)
            obtain ⟨qe, qp, h6, h7, pqe, pqp, nqe, nqp⟩ := (hN2.role v hvn).pm hv2
            have h9 := (hN2.role v hvn).f9 hv2
            obtain ⟨Lv, hcl, hcl0, hcl3, hcla⟩ := (hN2.role v hvn).codes hv2
            have HF4 : Hid (F4 i 9 = .int .i64 m ∧ F4 i 2 = .slice (some ⟨ib, 0, none⟩) L.length icap) := ⟨by rw [hki.2]; exact ⟨HI.out.f9, HI.out.f2⟩⟩
            have HKP : Hid (∀ k, c k ≠ 0 → R2 k = R k ∧ F4 k = F k) := ⟨fun k hk => by
              have h1 : c1 k ≠ 0 := fun e0 => by
                have hki : k ≠ i := fun e' => hk (by rw [e']; exact HC.out)
                have hck : upd c i 1 k = c k := upd_ne _ _ hki
                rcases (by have := HLE.out k; omega : c k = 1 ∨ c k = 2) with h | h
                · have := (HK1.out.one k).1 (by rw [hck]; exact h); omega
                · have := HK1.out.two k (by rw [hck]; exact h); omega
              rw [(hkeep2 k h1).1, (hkeep2 k h1).2]
              exact HI.out.keep k hk⟩
            have HAL : Hid (allOf (vis g.E f) (upd c i 1) (L.take (j + 1)) = some c2) := ⟨by rw [HNX.out]; exact hs2⟩
            have HTW : Hid (∀ k ∈ L.take (j + 1), c2 k = 2) := ⟨fun k hk => by
              rw [HTK.out] at hk
              rcases List.mem_append.1 hk with h | h
              · exact hk2.two k (HI.out.two k h)
              · simp at h; subst h; exact hv2⟩
            have HGT : Hid (Great (max m (R2 v)) (g.own i) R2 (L.take (j + 1))) := ⟨by
              rw [HTK.out]
              exact (HI.out.gt.congr (fun k hk => (hkeep2 k (by rw [HI.out.two k hk]; omega)).1)).snoc v⟩
            have HLL : Hid ((LL ++ [Lv]).length = j + 1 + 1 ∧ ∀ l ∈ LL ++ [Lv], ∀ s ∈ l, s ∈ allCodes g.n) := ⟨by
              refine ⟨by rw [List.length_append, HI.out.ll]; rfl, fun l hl => ?_⟩
              rcases List.mem_append.1 hl with h | h
              · exact HI.out.la l h
              · simp at h; subst h; exact hcla⟩
            have HRK2 := Hid.mk hRk2
            have hvi : g.rb v < w1.heap.size := (hN2.cells v hvn).lt
            have hii : g.rb i < w1.heap.size := (hN2.cells i hi).lt
            simp only [List.mem_append, List.mem_cons, List.not_mem_nil, or_false, not_or] at nqe nqp
            obtain ⟨⟨d1, d2⟩, -⟩ := nqe
            obtain ⟨⟨d3, d4⟩, -⟩ := nqp
            have hb1 : Bt e p w1 w1 := Bt.refl hM2.pe hM2.pp
            have nri1 : g.rb i ≠ e := (hN2.cells i hi).neMap hM2.pe
            have nri2 : g.rb i ≠ p := (hN2.cells i hi).neMap hM2.pp
            have nrv1 : g.rb v ≠ e := (hN2.cells v hvn).neMap hM2.pe
            have nrv2 : g.rb v ≠ p := (hN2.cells v hvn).neMap hM2.pp
            have x6 : ∀ w'', Bt e p w1 w'' → w''.cell? ⟨g.rb i, 6, none⟩ = some (.map (some e)) := fun w'' h => by rw [(h.cells (hN2.cells i hi) nri1 nri2).cell (by omega), hM2.f6]
            have x7 : ∀ w'', Bt e p w1 w'' → w''.cell? ⟨g.rb i, 7, none⟩ = some (.map (some p)) := fun w'' h => by rw [(h.cells (hN2.cells i hi) nri1 nri2).cell (by omega), hM2.f7]
            have u6 : ∀ w'', Bt e p w1 w'' → w''.cell? ⟨g.rb v, 6, none⟩ = some (.map (some qe)) := fun w'' h => by rw [(h.cells (hN2.cells v hvn) nrv1 nrv2).cell (by omega), h6]
            have u7 : ∀ w'', Bt e p w1 w'' → w''.cell? ⟨g.rb v, 7, none⟩ = some (.map (some qp)) := fun w'' h => by rw [(h.cells (hN2.cells v hvn) nrv1 nrv2).cell (by omega), h7]
            have hall : ∀ w'', Bt e p w1 w'' → Calls Ybaf.prog 17 #[.agg #[.map (some e), .map (some p)], .agg #[.map (some qe), .map (some qp)]] w'' fun r w' => r = .returned (.tuple #[]) ∧ Bt e p w'' w' := fun w'' h => addAll_any e p qe qp w'' h.pe h.pp (pqe.keep (h.block qe pqe.lt d1 d2)) (pqp.keep (h.block qp pqp.lt d3 d4)) d1 d2 d3 d4
            have H9 := Hid.mk h9
            have HCL := Hid.mk hcl
            clear hrf1 hs2 hRk2 hkeep2 hP2 hk2 hkx hki h6 h7 h9 hcl hcla HREC hlk y0 ly hN2
            go_wp2_with fail
            go_region_held3 (fun w'' => Bt e p w1 w'') (first | exact Bt.since hb1 Since.dr | exact Bt.trans (by assumption) hc2 | assumption) (first | (go_at_call 17; refine (hall _ (by assumption)).mono ?_; rintro r3 w3 ⟨rfl, hc2⟩))
            have hbf : Bt e p w1 w3 := by assumption
            have hM3 := hM2.bt hbf
            have hkb : Kx [] [e, p] w1 w3 := Bt.kx hbf hM2.pe hM2.pp (by simp) (by simp)
            have hLS3 := hLS2.kx hkb (by simp) (by simp)
            have hcl3' := HCL.out.kx hkb (by simp)
            obtain ⟨cg, ccap, ccs, hcv, hcc1, hcc2, -⟩ := HCL.out.ex
            rw [hcv] at hcl3'
            have e8 := hM3.cell hvn (x := 8) (by omega)
            rw [hcv] at e8
            have le8 := (hM3.net.cells v hvn).lt
            obtain ⟨VS, ca, cap3, hvl, hcve, hrow3⟩ := hLS3.row
            subst hcve
            have hVl : VS.length ≤ 1100 := by have := HI.out.ll; omega
            obtain ⟨i47, hi47, hz47, hs47, hy47⟩ := info_parts info47
            have HVL := Hid.mk hvl
            clear hbf hkb hLS2 hM2 hc2 hall x6 x7 u6 u7 hb1 hcv hvl
            go_wp2_with (first | (at_builtin; refine listApp rfl _ _ 67 rfl w8.heap.size 47 i47 _ 1 24 Ybaf.underlying67 hi47 hz47 hs47 hy47 rfl (by decide) (.slice ca VS.length cap3) VS.length (VS.flatMap vC) rfl (RowL.own (hrow3.since (Since.new _ _))) ⟨w3.heap.size, 0, none⟩ 1 1 [.slice (some ⟨cg, 0, none⟩) Lv.length ccap] rfl rfl (newsAt (newBlock _ _)) (sl_one _ _ _) (by unfold maxLen; omega) (by omega) (Nat.le_trans hM3.rf.size (Since.new _ _).size) (by omega) ?_; intro g5 cap5 w5 hbg hown hgr hloc))
            have hSn := Since.new w3 (.cells #[.slice (some ⟨cg, 0, none⟩) Lv.length ccap] 47)
            have hrow4 := hrow3.since hSn
            have hk5 : Kx [47] [] _ w5 := Kx.app (Ms := []) hgr hrow4 (by simp)
            have hM5 := (hM3.since hSn).keepRow hk5 ((hM3.rf.since hSn).grown hgr (fun b hb => .inl (hrow4.base_ge b hb).1))
            have hR5 : RowL w5 w8.heap.size 47 1 vC (.slice (some ⟨g5, 0, none⟩) (VS.length + 1) cap5) (VS ++ [.slice (some ⟨cg, 0, none⟩) Lv.length ccap]) := ⟨by
              rw [List.length_append, List.flatMap_append]
              simpa [vC] using hown⟩
            have hLS5 := LS.snoc (hLS3.kx (Kx.since (Ts := []) (Ms := []) hSn) (by simp) (by simp)) hk5 hrow4 hR5 ((hcl3'.since hSn).kx hk5 (by simp)) hcl0 hcl3
            have d9 := hM5.cell hi (x := 9) (by omega)
            rw [HF4.out.1] at d9
            have f9 := hM5.cell hvn (x := 9) (by omega)
            rw [H9.out] at f9
            have z9 := (hM5.net.cells i hi).frozen 9
            have li := (hM5.net.cells i hi).lt
            have lv := (hM5.net.cells v hvn).lt
            have hM6 := Mid.since (hs := Since.dr) (h := hM5.put ok hi (by rw [HC2.out]; omega) (x := 9) (by omega) (.int .i64 (max m (R2 v))))
            have hLS6 := (hLS5.kx (show Kx [51] [] _ _ from (hM5.net.cells i hi).kxset (x := 9) (v := .int .i64 (max m (R2 v))) (by simp)) (by simp) (by simp)).kx (Kx.since (Ts := []) (Ms := []) Since.dr) (by simp) (by simp)
            have HM6 := Hid.mk hM6
            have HLS6 := Hid.mk hLS6
            clear hown hgr hloc hSn hrow4 hrow3 hk5 hM3 hLS3 hcl3' hM5 hR5 hLS5 e8 le8 hM6 hLS6 hbg
            go_wp2
            go_region
            go_wp2
            go_roundw
            case rel => exact ⟨j + 1, LL ++ [Lv], c2, R2, upd F4 i (upd (F4 i) 9 (.int .i64 (max m (R2 v)))), (max m (R2 v)), by omega, by go_num, ⟨HM6.out, HLS6.out, HLL.out.1, HLL.out.2, HRK2.out, HAL.out, by rw [upd_same, upd_ne _ _ (by omega)]; exact HF4.out.2, by rw [upd_same, upd_same], HGT.out, HTW.out, fun k hk => by
              have hki : k ≠ i := fun e' => hk (by rw [e']; exact HC.out)
              rw [upd_ne _ _ hki]
              exact HKP.out k hk⟩⟩
            case measure => simp [intOf]; omega
        · have hjL : j = L.length := by omega
          have hal := hI.al
          rw [hjL, List.take_length] at hal
          have HRES : Hid (vis g.E (f + 1) c i = some (upd c1 i 2)) := ⟨by rw [HV.out, ← HL.out, hal]; rfl⟩
          have HRKF : Hid (Rk g.E g.own (upd c1 i 2) (upd R1 i m)) := ⟨by
            refine hI.rk.close (by rw [HC1.out]; omega) (fun v hv => hI.two v ?_) ?_
            · rw [hjL, List.take_length, HL.out]; exact hv
            · have := hI.gt
              rw [hjL, List.take_length, HL.out] at this
              exact this⟩
          have hLL0 : LL ≠ [] := fun e' => by have := hI.ll; rw [e'] at this; simp at this
          have hLLm : LL.length ≤ 1100 := by have := hI.ll; omega
          have hsort := sortedCodes_any _ LL wr hI.ls.lists hLL0 hLLm
          have hfl : LL.flatten ≠ [] := by
            obtain ⟨VS, -, g2, g3⟩ := hI.ls.ex
            cases hLL : LL with
            | nil => exact absurd hLL hLL0
            | cons l0 l1 =>
              rw [hLL] at g2 g3
              cases hVS : VS with
              | nil => rw [hVS] at g2; simp at g2
              | cons v0 v1 =>
                have := (g3 0 v0 l0 (by rw [hVS]; rfl) rfl).2.1
                simp [this]
          have hcl := codesOf_len n3 (l := LL.flatten) (fun s hs => by
            obtain ⟨l, hl, hs'⟩ := List.mem_flatten.1 hs
            exact hI.la l hl s hs')
          have hc0 : codesOf LL.flatten ≠ [] := fun e' => by
            obtain ⟨a, ha⟩ := List.exists_mem_of_ne_nil _ hfl
            have := mem_codesOf.2 ha
            rw [e'] at this
            simp at this
          have hca : ∀ s ∈ codesOf LL.flatten, s ∈ allCodes g.n := fun s hs => by
            obtain ⟨l, hl, hs'⟩ := List.mem_flatten.1 (mem_codesOf.1 hs)
            exact hI.la l hl s hs'
          have HSORT := Hid.mk hsort
          have HI := Hid.mk hI
          have HCL := Hid.mk hcl
          have HC0 := Hid.mk hc0
          have HCA := Hid.mk hca
          have lr := (hI.mid.net.cells i hi).lt
          clear hal hjL hsort hfl hcl hc0 hca hI hk1 hLL0 hLLm
          go_wp2_with fail
          refine HSORT.out.mono ?_
          rintro r6 w6 ⟨v6, rfl, hS6, hcv6⟩
          have hM6 := HI.out.mid.since hS6
          obtain ⟨F5, hF5, hrf5, hN5, hP5⟩ := hM6.finish ok hi (by rw [HC1.out]; omega) HX8.out HI.out.f9 hcv6 HC0.out HCL.out HCA.out
          obtain ⟨sg, scap, scs, hv6, -⟩ := hcv6.ex
          subst hv6
          have d8 := hM6.cell hi (x := 8) (by omega)
          have d10 := hM6.cell hi (x := 10) (by omega)
          have z8 := (hM6.net.cells i hi).frozen 8
          have z10 := (hM6.net.cells i hi).frozen 10
          have l6 := (hM6.net.cells i hi).lt
          have hrff := HRF8.out.trans hrf5 HPB.out
          have hPf := HOLD.out _ hrf5 hP5
          have HKF : Hid (∀ k, c k ≠ 0 → upd R1 i m k = R k ∧ F5 k = F k) := ⟨fun k hk => by
            have hki : k ≠ i := fun e' => hk (by rw [e']; exact HC.out)
            rw [upd_ne _ _ hki, hF5 k hki]
            exact HI.out.keep k hk⟩
          have HRF := Hid.mk hrff
          have HPF := Hid.mk hPf
          have HNF := Hid.mk hN5
          clear hM6 hF5 hrf5 hN5 hP5 hcv6 hS6 hrff hPf HSORT
          go_wp2
          go_ret
          exact ⟨HRF.out, .inr ⟨_, _, _, HRES.out, rfl, HNF.out, HRKF.out, HKF.out, HPF.out⟩⟩

theorem resolve_any (g : Gph) (ok : Gok g) (u : TypeId) (ea : Addr) (T0 : TypeId) : ∀ f, ResOk g u ea T0 f := by
  intro f
  induction f with
  | zero => intro c R F X P pv i w _ _ _ _ h; omega
  | succ f ih =>
    intro c R F X P pv i w hN hRk hi hle hf hP hlt hop hcnt hX hG hnz hpz
    have n3 := ok.n3
    rcases (by have := hle i; omega : c i = 2 ∨ c i = 1 ∨ c i = 0) with hci | hci | hci
    · refine (resolve_done g ok X c R F pv _ i w hN hi hci).mono ?_
      rintro r w' ⟨rfl, rfl⟩
      exact ⟨Rf.refl _ _ _, .inr ⟨c, R, F, by unfold vis; rw [if_pos hci], rfl, hN, hRk, fun _ _ => ⟨rfl, rfl⟩, hP⟩⟩
    · refine (resolve_back g ok X c R F P pv _ i u ea w hN hi hci hP hlt (hop i hi hci) (by omega) hG).mono ?_
      rintro r w' ⟨v, rfl, hs, hc⟩
      exact ⟨(Rf.refl _ _ _).since hs, .inl ⟨by unfold vis; rw [if_neg (by omega), if_pos hci], v, rfl, hc⟩⟩
    · exact resolve_fresh g ok u ea T0 f ih c R F X P pv i w hN hRk hi hle hf hP hlt hop hcnt hX hG hnz hpz hci
end Go.Proofs.YbulkcvxmFmt
