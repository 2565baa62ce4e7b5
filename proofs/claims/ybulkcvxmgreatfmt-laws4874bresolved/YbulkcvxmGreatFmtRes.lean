/- resolve (6) at a role whose juniors are done. -/
import Derived.Test.YbulkcvxmGreatFmtRes1
set_option linter.unusedSimpArgs false
set_option linter.unusedVariables false
namespace Go.Proofs.YbulkcvxmGreatFmt
open Go.RowKit

/-- What a list of grants gives, code by code. -/
def gz (gs : List Nat) (k : Nat) : Nat := gs.foldl (fun a s => if s % 4 = k then max a (gt s) else a) 0
theorem gz_snoc (gs : List Nat) (s k : Nat) : gz (gs ++ [s]) k = upd (gz gs) (s % 4) (max (gz gs (s % 4)) (gt s)) k := by
  unfold gz
  rw [List.foldl_append]
  by_cases e : k = s % 4
  · subst e; rw [upd_same]; simp
  · rw [upd_ne _ _ e]
    simp only [List.foldl_cons, List.foldl_nil]
    rw [if_neg (fun h => e h.symm)]
theorem ptr_one (b : Nat) : ∀ u ∈ [Value.pointer (some ⟨b, 0, none⟩)], u.oneCell' = true := by
  intro u hu
  simp at hu
  subst hu
  rfl
theorem sl_one (a : Addr) (n m : Nat) : ∀ u ∈ [Value.slice (some a) n m], u.oneCell' = true := by
  intro u hu
  simp at hu
  subst hu
  rfl
theorem info44 : (Ybaz.prog.info? 44).map (fun i => (i.zero, i.size, i.bytes)) = some (some (.pointer none), 1, 8) := by kernel_rfl
theorem info53 : (Ybaz.prog.info? 53).map (fun i => (i.zero, i.size, i.bytes)) = some (some (.slice none 0 0), 1, 24) := by kernel_rfl
set_option maxRecDepth 100000 in
set_option maxHeartbeats 2000000 in
theorem resolve_done (b : Nat) (pv mv : Value) (w : World) (r0 : w.cell? ⟨b, 10, none⟩ = some (.int .i64 2)) :
    Calls Ybaz.prog 6 #[.pointer (some ⟨b, 0, none⟩), mv, pv] w fun r w' => r = .returned .nilIface ∧ w = w' := by
  have lr := sizeOf_cell r0
  simp only at lr
  go_enter Ybaz.func6, Ybaz.ntmps6
  go_wp2
  go_ret
  exact ⟨rfl, rfl⟩
/-- While the juniors are added: j of them are. -/
structure Inh (g : Gph) (w : World) (i e p : Nat) (R : Nat → Int) (Z : Nat → Nat → Nat) (K : Nat → List ByteArray) (L : List Nat) (F0 : Nat → Value) (cv : Value) (j : Nat) (f : Nat → Value) (T : Nat → Nat) (m : Int) (wr : World) : Prop where
  mid : Mid w (g.rb i) g.gb e p f T wr
  ls : LS wr w.heap.size cv ([codeS i] :: (L.take j).map K)
  fc : ∀ x, x = 0 ∨ x = 2 ∨ x = 3 ∨ x = 4 → f x = F0 x
  f9 : f 9 = .int .i64 m
  gt : Great m (g.own i) R (L.take j)
  gz : ∀ k, k < 4 → Great (T k : Int) (gz (g.G i) k : Int) (fun v => (Z v k : Int)) (L.take j)
/-- The role is done. -/
theorem Mid.finish {g : Gph} (ok : Gok g) {w w6 : World} {c : Nat → Nat} {R : Nat → Int} {Z : Nat → Nat → Nat} {K : Nat → List ByteArray} {F : Nat → Nat → Value} {i e p : Nat} {f : Nat → Value} {T : Nat → Nat} {m : Int} {v6 : Value} {l : List ByteArray} (hi : i < g.n) (hN : Net w g c R Z K F) (h : Mid w (g.rb i) g.gb e p f T w6) (hfc : ∀ x, x = 0 ∨ x = 2 ∨ x = 3 ∨ x = 4 → f x = F i x) (h9 : f 9 = .int .i64 m) (hv : CodesL w6 v6 l) (h0 : l ≠ []) (h3 : l.length ≤ 300) (ha : ∀ s ∈ l, s ∈ allCodes g.n) :
    But (g.rb i) w ((w6.setCell ⟨g.rb i, 8, none⟩ v6).setCell ⟨g.rb i, 10, none⟩ (.int .i64 2)) ∧ Net ((w6.setCell ⟨g.rb i, 8, none⟩ v6).setCell ⟨g.rb i, 10, none⟩ (.int .i64 2)) g (upd c i 2) (upd R i m) (upd Z i T) (upd K i l) (upd F i (upd (upd f 8 v6) 10 (.int .i64 2))) := by
  obtain ⟨cs0, hcs0⟩ := hN.blocks i hi
  have h7 := h.put (x := 8) (by omega) (by omega) (by omega) v6
  have k1 : Kx [56] [] w6 (w6.setCell ⟨g.rb i, 8, none⟩ v6) := h.cells.kxset (by simp)
  have h8 := h7.put (x := 10) (by omega) (by omega) (by omega) (.int .i64 2)
  have k2 : Kx [56] [] (w6.setCell ⟨g.rb i, 8, none⟩ v6) ((w6.setCell ⟨g.rb i, 8, none⟩ v6).setCell ⟨g.rb i, 10, none⟩ (.int .i64 2)) := h7.cells.kxset (by simp)
  have hk := h8.but.kx hcs0
  have hf : ∀ x, x = 0 ∨ x = 2 ∨ x = 3 ∨ x = 4 → upd (upd f 8 v6) 10 (.int .i64 2) x = F i x := fun x hx => by rw [upd_ne _ _ (by omega), upd_ne _ _ (by omega)]; exact hfc x hx
  refine ⟨h8.but, fun j hj => ?_, fun j hj => ?_, hN.map.kx hk (by simp)⟩
  · by_cases e' : j = i
    · subst e'; rw [upd_same]; exact h8.cells
    · rw [upd_ne _ _ e']; exact h8.but.cells (hN.cells j hj) (fun q => e' (ok.inj j i hj hi q))
  · by_cases e' : j = i
    · subst e'
      rw [upd_same, upd_same, upd_same, upd_same, upd_same]
      have q := (hN.role j hj).kx hk (by simp) (by simp) (by simp) (by simp)
      refine ⟨by rw [hf 0 (by omega)]; exact q.f0, by rw [hf 2 (by omega)]; exact q.inh, by rw [hf 3 (by omega)]; exact q.gr, by rw [hf 4 (by omega)]; exact q.f4, by rw [upd_same]; rfl, fun _ => ⟨e, p, h8.f6, h8.f7, h8.ps⟩, fun _ => ?_, fun _ => ⟨?_, h0, h3, ha⟩⟩
      · rw [upd_ne _ _ (by omega), upd_ne _ _ (by omega)]; exact h9
      · rw [upd_ne _ _ (by omega), upd_same]; exact (hv.kx k1 (by simp)).kx k2 (by simp)
    · rw [upd_ne _ _ e', upd_ne _ _ e', upd_ne _ _ e', upd_ne _ _ e', upd_ne _ _ e']
      exact (hN.role j hj).kx hk (by simp) (by simp) (by simp) (by simp)

set_option maxRecDepth 100000 in
set_option maxHeartbeats 4000000 in
theorem resolve_new (g : Gph) (ok : Gok g) (c : Nat → Nat) (R : Nat → Int) (Z : Nat → Nat → Nat) (K : Nat → List ByteArray) (F : Nat → Nat → Value) (i : Nat) (w : World) (hN : Net w g c R Z K F) (hi : i < g.n) (hci : c i = 0) (hj : ∀ v ∈ g.E i, c v = 2) :
    Calls Ybaz.prog 6 #[.pointer (some ⟨g.rb i, 0, none⟩), .map (some g.mb), .slice none 0 0] w fun r w' => r = .returned .nilIface ∧ But (g.rb i) w w' ∧ ∃ (m : Int) (T : Nat → Nat) (l : List ByteArray) (f : Nat → Value),
      Net w' g (upd c i 2) (upd R i m) (upd Z i T) (upd K i l) (upd F i f) ∧ Great m (g.own i) R (g.E i) ∧ (∀ k, k < 4 → Great (T k : Int) (gz (g.G i) k : Int) (fun v => (Z v k : Int)) (g.E i)) ∧ (∃ l0, l = codesOf l0) ∧ ∀ s, s ∈ l ↔ s = codeS i ∨ ∃ v ∈ g.E i, s ∈ K v := by
  have n3 := ok.n3
  obtain ⟨cs0, hcs0⟩ := hN.blocks i hi
  have r0 := (hN.cells i hi).cell (x := 10) (by omega)
  rw [(hN.role i hi).f10, hci] at r0
  have z0 := (hN.cells i hi).frozen 10
  have lr := (hN.cells i hi).lt
  have hB1 : But (g.rb i) w (w.setCell ⟨g.rb i, 10, none⟩ (.int .i64 1)) := But.set _ _ _ _
  have hC1 := (hN.cells i hi).set (x := 10) (by omega) (.int .i64 1)
  have lw1 : (w.setCell ⟨g.rb i, 10, none⟩ (.int .i64 1)).heap.size = w.heap.size := by simp [World.setCell]
  have hB2 := newBlock (w.setCell ⟨g.rb i, 10, none⟩ (.int .i64 1)) (.cells #[.pointer (some ⟨g.rb i, 0, none⟩)] 44)
  rw [lw1] at hB2
  obtain ⟨i44, hi44, hz44, hs44, hy44⟩ := info_parts info44
  have HN := Hid.mk hN
  have HC := Hid.mk hci
  have HJ := Hid.mk hj
  clear hN hci hj
  go_enter Ybaz.func6, Ybaz.ntmps6
  go_wp2_with (first | (at_builtin; refine listApp rfl _ _ 40 rfl 0 44 i44 _ 1 8 Ybaz.underlying40 hi44 hz44 hs44 hy44 rfl (by decide) (.slice none 0 0) 0 [] rfl (RowL.own (RowL.nil (α := Nat) _ _ _ _ gC)) ⟨w.heap.size, 0, none⟩ 1 1 [.pointer (some ⟨g.rb i, 0, none⟩)] rfl rfl (newsAt hB2) (ptr_one _) (by unfold maxLen; omega) (by omega) (Nat.zero_le _) (by omega) ?_; intro g1 cap1 w8 hbg hown hgr hloc))
  have hS1 := Since.new (w.setCell ⟨g.rb i, 10, none⟩ (.int .i64 1)) (.cells #[.pointer (some ⟨g.rb i, 0, none⟩)] 44)
  have hS8 : Since (w.setCell ⟨g.rb i, 10, none⟩ (.int .i64 1)) w8 := hS1.grown hgr (fun b hb => by cases hb)
  have hB8 := hB1.since hS8
  have hC8 := hC1.since hS8
  obtain ⟨f1, hf1⟩ : ∃ f1, f1 = upd (F i) 10 (.int .i64 1) := ⟨_, rfl⟩
  rw [← hf1] at hC8
  have HF1 : Hid (∀ x, x ≠ 10 → f1 x = F i x) := ⟨fun x hx => by rw [hf1, upd_ne _ _ hx]⟩
  have lw8 := hB8.size
  clear hS1 hS8 hown hgr hloc hbg hB1 hC1 hB2 lw1 r0 z0 lr hf1
  refine (newPermSet_any g.gb _).mono ?_
  rintro r1 w9 ⟨e, p, rfl, he, hp, hne, pe9, pp9, hS9⟩
  have hM := Mid.start hB8 hC8 hS9 (Nat.le_trans lw8 he) (Nat.le_trans lw8 hp) hne pe9 pp9
  have c9 := hC8.since hS9
  have c6 := c9.cell (x := 6) (by omega)
  have c7 := c9.cell (x := 7) (by omega)
  have z6 := c9.frozen 6
  have z7 := c9.frozen 7
  have l9 := c9.lt
  obtain ⟨f2, hf2⟩ : ∃ f2, f2 = upd (upd f1 6 (.map (some e))) 7 (.map (some p)) := ⟨_, rfl⟩
  rw [← hf2] at hM
  have HF2 : Hid (∀ x, x ≠ 6 → x ≠ 7 → x ≠ 10 → f2 x = F i x) := ⟨fun x h6 h7 h10 => by rw [hf2, upd_ne _ _ h7, upd_ne _ _ h6]; exact HF1.out x h10⟩
  obtain ⟨gs, hgs⟩ : ∃ gs, gs = g.G i := ⟨_, rfl⟩
  have hgrow := (HN.out.role i hi).gr
  rw [← hgs] at hgrow
  obtain ⟨ga, gcap, hgv, -⟩ := hgrow.form
  rw [hgv] at hgrow
  have HGR : Hid (∀ wr, But (g.rb i) w wr → RowL wr 0 71 2 (grC g.gb) (.slice ga gs.length gcap) gs) := ⟨fun wr hb => (hb.kx hcs0).row hgrow (by simp)⟩
  have c3 := hM.cell (x := 3) (by omega)
  rw [HF2.out 3 (by omega) (by omega) (by omega), hgv] at c3
  have l3 := hM.cells.lt
  have hgl := ok.glen i hi
  have HG8 := Hid.mk (ok.glt i hi)
  rw [← hgs] at hgl HG8
  have HGS := Hid.mk hgs
  clear hf2 pe9 pp9 hS9 hgv hgs hgrow hB8 hC8 c9 he hp lw8
  go_wp2_with fail
  generalize hW10 : World.setCell (World.setCell w9 _ _) _ _ = W10 at *
  clear hW10 c6 c7 z6 z7 l9 c3 l3
  have hM0 : Mid w (g.rb i) g.gb e p f2 (gz (gs.take 0)) W10 := hM.congr (fun k hk => rfl)
  clear hM
  go_loopw [70] (fun iv wr => ∃ j : Nat, j ≤ gs.length ∧ iv = .int .i64 j ∧ Mid w (g.rb i) g.gb e p f2 (gz (gs.take j)) wr) (fun iv _ => gs.length - (intOf iv).toNat)
  case atStart => exact ⟨0, Nat.zero_le _, rfl, hM0⟩
  case round =>
    clear hM0
    obtain ⟨j, hj, rfl, hM⟩ := hrel
    by_cases hjl : j < gs.length
    · have hrow := HGR.out wr hM.but
      obtain ⟨gb', rfl, -⟩ := hrow.at (j := j) hjl
      obtain ⟨k, hk⟩ : ∃ k, gs[j]? = some k := ⟨gs[j], List.getElem?_eq_getElem hjl⟩
      have hk8 := HG8.out k (List.mem_of_getElem? hk)
      obtain ⟨go, hgo⟩ := gpv_form g.gb (gt k)
      have y0 := (hrow.cell (grC_len g.gb) (i := 0) (u := .string (codeB (k % 4))) hk (by omega) rfl rfl).1
      have y1 := (hrow.cell (grC_len g.gb) (i := 1) (u := gpv g.gb (gt k)) hk (by omega) rfl rfl).1
      rw [hgo] at y1
      simp only [Nat.add_zero] at y0
      have ly := sizeOf_cell y0
      simp only at ly
      have hcap := hrow.cap
      unfold maxLen at hcap
      obtain ⟨hcap1, hcap2⟩ := hcap
      have HTK : Hid (∀ x, gz (gs.take (j + 1)) x = upd (gz (gs.take j)) (k % 4) (max (gz (gs.take j) (k % 4)) (gt k)) x) := ⟨fun x => by
        obtain ⟨hjj, ev⟩ := List.getElem?_eq_some_iff.1 hk
        rw [List.take_succ_eq_append_getElem hjj, ev]
        exact gz_snoc _ _ _⟩
      obtain ⟨T, hT⟩ : ∃ T, T = gz (gs.take j) := ⟨_, rfl⟩
      rw [← hT] at hM HTK
      have HGO := Hid.mk hgo
      clear hk hrow hT hgo
      go_wp2_with fail
      have hM3 := hM.since (Since.new wr (.cells #[.string (codeB (k % 4)), .pointer go] 71))
      have hB3 := newBlock wr (.cells #[.string (codeB (k % 4)), .pointer go] 71)
      obtain ⟨tb, htb⟩ : ∃ tb, tb = wr.heap.size := ⟨_, rfl⟩
      rw [← htb] at hB3 ⊢
      generalize hW3 : wr.alloc (.cells #[.string (codeB (k % 4)), .pointer go] 71) = W3 at *
      clear hW3 htb hM y0 y1 ly
      have x6 := hM3.cell (x := 6) (by omega)
      have x7 := hM3.cell (x := 7) (by omega)
      rw [hM3.f6] at x6
      rw [hM3.f7] at x7
      have lx := hM3.cells.lt
      have y0 : W3.cell? ⟨tb, 0, none⟩ = some (.string (codeB (k % 4))) := cellOf hB3
      have y1 : W3.cell? ⟨tb, 1, none⟩ = some (.pointer go) := cellOf hB3
      have ly := sizeOf_block hB3
      have hadd := add_any (k % 4) (gt k) e p g.gb T W3.drew (by omega) (gt_or k) (hM3.ps.since Since.dr)
      rw [HGO.out] at hadd
      have HADD := Hid.mk hadd
      clear hadd
      go_region_law (first | (go_simp; refine HADD.out.mono ?_; rintro r3 w3 ⟨rfl, hbt, hps⟩; dsimp only))
      all_goals
        have hM4 := hM3.bt ((Bt.of Since.dr).trans hbt) (hps.congr (fun x _ => HTK.out x))
        clear HADD x6 x7 lx y0 y1 ly hM3 hB3 hbt hps
        go_wp2
        go_roundw
        case rel => exact ⟨j + 1, by omega, by go_num, hM4⟩
        case measure => simp [intOf]; omega
    · have hjg : j = gs.length := by omega
      rw [hjg, List.take_length] at hM
      have c0 := hM.cell (x := 0) (by omega)
      have c4 := hM.cell (x := 4) (by omega)
      have c2 := hM.cell (x := 2) (by omega)
      have c9 := hM.cell (x := 9) (by omega)
      have z9 := hM.cells.frozen 9
      have lr := hM.cells.lt
      rw [HF2.out 0 (by omega) (by omega) (by omega), (HN.out.role i hi).f0] at c0
      rw [HF2.out 4 (by omega) (by omega) (by omega), (HN.out.role i hi).f4] at c4
      obtain ⟨L, hL⟩ : ∃ L, L = g.E i := ⟨_, rfl⟩
      have hirow := (HN.out.role i hi).inh
      rw [← hL] at hirow
      obtain ⟨ia, icap, hiv, -⟩ := hirow.form
      rw [List.length_map] at hiv
      rw [hiv] at hirow
      rw [HF2.out 2 (by omega) (by omega) (by omega), hiv] at c2
      have HIR : Hid (∀ wr, But (g.rb i) w wr → RowL wr 0 9 1 strC (.slice ia L.length icap) (L.map codeS)) := ⟨fun wr hb => (hb.kx hcs0).row hirow (by simp)⟩
      have hil := ok.elen i hi
      have HEL := Hid.mk (ok.elt i hi)
      rw [← hL] at hil HEL
      have HL := Hid.mk hL
      have lw9 : (wr.setCell ⟨g.rb i, 9, none⟩ (.int .i64 (g.own i))).heap.size = wr.heap.size := by simp [World.setCell]
      have hls2 := ls_start (wr.setCell ⟨g.rb i, 9, none⟩ (.int .i64 (g.own i))) w.heap.size (codeS i) (by rw [lw9]; exact hM.but.size)
      have hMb := (hM.put (x := 9) (by omega) (by omega) (by omega) (.int .i64 (g.own i))).since ((Since.new ((wr.setCell ⟨g.rb i, 9, none⟩ (.int .i64 (g.own i))).alloc (.cells #[.iface 9 (.string (codeS i))] 20)) (.cells #[.slice (some ⟨wr.heap.size, 0, none⟩) 1 1] 53)).then (Since.new (wr.setCell ⟨g.rb i, 9, none⟩ (.int .i64 (g.own i))) (.cells #[.iface 9 (.string (codeS i))] 20)))
      rw [lw9] at hls2
      obtain ⟨f3, hf3⟩ : ∃ f3, f3 = upd f2 9 (.int .i64 (g.own i)) := ⟨_, rfl⟩
      rw [← hf3] at hMb
      have HF3 : Hid (f3 9 = .int .i64 (g.own i) ∧ ∀ x, x = 0 ∨ x = 2 ∨ x = 3 ∨ x = 4 → f3 x = F i x) := ⟨by
        rw [hf3]
        refine ⟨upd_same _ _ _, fun x hx => ?_⟩
        rw [upd_ne _ _ (by omega)]
        exact HF2.out x (by omega) (by omega) (by omega)⟩
      clear hf3 hL hirow hiv hM lw9 hjg
      go_wp2_with fail
      generalize hW11 : World.alloc (World.alloc (World.setCell wr _ _) _) _ = W11 at *
      obtain ⟨cv0, hcv0⟩ : ∃ cv0, cv0 = Value.slice (some ⟨wr.heap.size + 1, 0, none⟩) 1 1 := ⟨_, rfl⟩
      rw [← hcv0] at hls2 ⊢
      clear hcv0 hW11 c0 c4 c2 c9 z9 lr
      have hI0 : Inh g w i e p R Z K L (F i) cv0 0 f3 (gz gs) (g.own i) W11 := ⟨hMb, hls2, HF3.out.2, HF3.out.1, Great.nil _ _, fun k hk => by
        rw [HGS.out]
        exact Great.nil _ _⟩
      clear hMb hls2
      go_loopw [12, 100] (fun cv iv wr => ∃ (j : Nat) (f : Nat → Value) (T : Nat → Nat) (m : Int), j ≤ L.length ∧ iv = .int .i64 j ∧ Inh g w i e p R Z K L (F i) cv j f T m wr) (fun _ iv _ => L.length - (intOf iv).toNat)
      case atStart => exact ⟨0, _, _, _, Nat.zero_le _, rfl, hI0⟩
      case round =>
        clear hI0
        obtain ⟨j, f, T, m, hj, rfl, hI⟩ := hrel
        by_cases hjl : j < L.length
        · have hrow := HIR.out wr hI.mid.but
          obtain ⟨ib, rfl, -⟩ := hrow.at (j := j) (by simpa using hjl)
          obtain ⟨v, hv⟩ : ∃ v, L[j]? = some v := ⟨L[j], List.getElem?_eq_getElem hjl⟩
          have hvm : v ∈ L := List.mem_of_getElem? hv
          have hvi : v < i := HEL.out v hvm
          have hvn : v < g.n := by omega
          have hq : (L.map codeS)[j]? = some (codeS v) := by rw [List.getElem?_map, hv]; rfl
          have y0 := (hrow.cell strC_len (i := 0) (u := .string (codeS v)) hq (by omega) rfl (by rw [List.length_map])).1
          simp only [Nat.mul_one, Nat.add_zero] at y0
          have ly := sizeOf_cell y0
          simp only at ly
          have hcap := hrow.cap
          rw [List.length_map] at hcap
          unfold maxLen at hcap
          obtain ⟨hcap1, hcap2⟩ := hcap
          have hkx := hI.mid.but.kx hcs0
          have hlk := (HN.out.map.kx hkx (by simp)).look hvn (by omega)
          have HTK : Hid (L.take (j + 1) = L.take j ++ [v]) := ⟨by
            obtain ⟨hjj, ev⟩ := List.getElem?_eq_some_iff.1 hv
            rw [List.take_succ_eq_append_getElem hjj, ev]⟩
          have hcv : c v = 2 := HJ.out v (by rw [← HL.out]; exact hvm)
          have hrv : g.rb v ≠ g.rb i := fun e' => by have := ok.inj v i hvn hi e'; omega
          have hcw := hI.mid.but.cells (HN.out.cells v hvn) hrv
          have hro := (HN.out.role v hvn).kx hkx (by simp) (by simp) (by simp) (by simp)
          rw [hcv] at hro
          obtain ⟨qe, qp, h6, h7, hQ⟩ := hro.pm rfl
          have h9 := hro.f9 rfl
          obtain ⟨hcl, hcl0, hcl3, hcla⟩ := hro.codes rfl
          have hqe : qe < w.heap.size := by
            obtain ⟨qe', qp', h6', h7', hQ'⟩ := (HN.out.role v hvn).pm hcv
            rw [h6'] at h6; cases h6; exact hQ'.pe.lt
          have hqp : qp < w.heap.size := by
            obtain ⟨qe', qp', h6', h7', hQ'⟩ := (HN.out.role v hvn).pm hcv
            rw [h7'] at h7; cases h7; exact hQ'.pp.lt
          have lme := hI.mid.le
          have lmp := hI.mid.lp
          have d10 := hcw.cell (x := 10) (by omega)
          rw [hro.f10] at d10
          have HD := Hid.mk (resolve_done (g.rb v) (.slice (some ⟨g1, 0, none⟩) (0 + 1) cap1) (.map (some g.mb)) wr d10)
          have HI := Hid.mk hI
          have HCW := Hid.mk hcw
          have HQ := Hid.mk hQ
          have HCL := Hid.mk (And.intro hcl (And.intro hcl0 hcl3))
          have H678 := Hid.mk (And.intro h6 (And.intro h7 h9))
          clear hq hrow hv hI hkx hcw hro hQ hcl hcl0 hcl3 hcla h6 h7 h9 d10 hcv hvm
          go_wp2_with fail
          refine HD.out.mono ?_
          rintro r1 w1 ⟨rfl, rfl⟩
          have hM2 := HI.out.mid
          have x6 := hM2.cell (x := 6) (by omega)
          have x7 := hM2.cell (x := 7) (by omega)
          rw [hM2.f6] at x6
          rw [hM2.f7] at x7
          have lx := hM2.cells.lt
          have u6 := HCW.out.cell (x := 6) (by omega)
          have u7 := HCW.out.cell (x := 7) (by omega)
          rw [H678.out.1] at u6
          rw [H678.out.2.1] at u7
          have lu := HCW.out.lt
          have HALL := Hid.mk (addAll_any e p qe qp g.gb T (Z v) wr.drew (hM2.ps.since Since.dr) (HQ.out.since Since.dr) (by omega) (by omega) (by omega) (by omega))
          go_wp2_with fail
          go_region_law (first | (go_simp; refine HALL.out.mono ?_; rintro r3 w3 ⟨rfl, hbt, hps⟩; dsimp only))
          all_goals
            have hbt' : Bt e p wr w3 := (Bt.of Since.dr).trans hbt
            have hM3 := hM2.bt hbt' hps
            have hkb : Kx [] [e, p] wr w3 := hbt'.kx hM2.ps (by simp) (by simp)
            have hLS3 := HI.out.ls.kx hkb (by simp) (by simp)
            have hcl3' := HCL.out.1.kx hkb (by simp)
            obtain ⟨cg, ccap, ccs, hcve, hcc1, hcc2, -⟩ := HCL.out.1.ex
            rw [hcve] at hcl3'
            have hcw3 : Cells w3 (g.rb v) 56 12 (F v) := HCW.out.kx hkb (by simp)
            have e8 := hcw3.cell (x := 8) (by omega)
            rw [hcve] at e8
            have le8 := hcw3.lt
            obtain ⟨VS, ca, cap3, hvl, hcv3, hrow3⟩ := hLS3.row
            subst hcv3
            have hVl : VS.length ≤ 1100 := by rw [hvl]; simp; omega
            obtain ⟨i53, hi53, hz53, hs53, hy53⟩ := info_parts info53
            have HVL := Hid.mk hvl
            have HCW3 := Hid.mk hcw3
            clear hbt hps hbt' hkb hM2 x6 x7 lx u6 u7 lu HALL hcve hvl hcw3
            go_wp2_with (first | (at_builtin; refine listApp rfl _ _ 78 rfl w.heap.size 53 i53 _ 1 24 Ybaz.underlying78 hi53 hz53 hs53 hy53 rfl (by decide) (.slice ca VS.length cap3) VS.length (VS.flatMap vC) rfl (RowL.own (hrow3.since (Since.new _ _))) ⟨w3.heap.size, 0, none⟩ 1 1 [.slice (some ⟨cg, 0, none⟩) (K v).length ccap] rfl rfl (newsAt (newBlock _ _)) (sl_one _ _ _) (by unfold maxLen; omega) (by omega) (Nat.le_trans hM3.but.size (Since.new _ _).size) (by omega) ?_; intro g5 cap5 w5 hbg hown hgr hloc))
            have hSn := Since.new w3 (.cells #[.slice (some ⟨cg, 0, none⟩) (K v).length ccap] 53)
            have hrow4 := hrow3.since hSn
            have hk5 : Kx [53] [] _ w5 := Kx.app (Ms := []) hgr hrow4 (by simp)
            have hM5 := (hM3.since hSn).row hk5 ((hM3.but.since hSn).grown hgr (fun b hb => (hrow4.base_ge b hb).1))
            have hR5 : RowL w5 w.heap.size 53 1 vC (.slice (some ⟨g5, 0, none⟩) (VS.length + 1) cap5) (VS ++ [.slice (some ⟨cg, 0, none⟩) (K v).length ccap]) := ⟨by
              rw [List.length_append, List.flatMap_append]
              simpa [vC] using hown⟩
            have hLS5 := LS.snoc (hLS3.kx (Kx.since (Ts := []) (Ms := []) hSn) (by simp) (by simp)) hk5 hrow4 hR5 ((hcl3'.since hSn).kx hk5 (by simp)) HCL.out.2.1 HCL.out.2.2
            have d9 := hM5.cell (x := 9) (by omega)
            rw [HI.out.f9] at d9
            have f9 := ((HCW3.out.since hSn).kx hk5 (by simp)).cell (x := 9) (by omega)
            rw [H678.out.2.2] at f9
            have z9 := hM5.cells.frozen 9
            have li := hM5.cells.lt
            have lv := ((HCW3.out.since hSn).kx hk5 (by simp)).lt
            have hM6 := Mid.since (hs := Since.dr) (h := hM5.put (x := 9) (by omega) (by omega) (by omega) (.int .i64 (max m (R v))))
            have hLS6 := (hLS5.kx (show Kx [56] [] _ _ from hM5.cells.kxset (x := 9) (v := .int .i64 (max m (R v))) (by simp)) (by simp) (by simp)).kx (Kx.since (Ts := []) (Ms := []) Since.dr) (by simp) (by simp)
            have HM6 := Hid.mk hM6
            have HLS6 := Hid.mk hLS6
            clear hown hgr hloc hSn hrow4 hrow3 hk5 hM3 hLS3 hcl3' hM5 hR5 hLS5 e8 le8 hM6 hLS6 hbg
            go_wp2
            go_region
            go_wp2
            go_roundw
            case rel => exact ⟨j + 1, _, _, max m (R v), by omega, by go_num, ⟨HM6.out, by
              rw [HTK.out, List.map_append]
              exact HLS6.out, fun x hx => by
              rw [upd_ne _ _ (by omega)]
              exact HI.out.fc x hx, upd_same _ _ _, by rw [HTK.out]; exact HI.out.gt.snoc v, fun k hk => by
              rw [HTK.out]
              have q := (HI.out.gz k hk).snoc v
              have e2 : ((max (T k) (Z v k) : Nat) : Int) = max (T k : Int) (Z v k : Int) := by omega
              show Great ((max (T k) (Z v k) : Nat) : Int) _ _ _
              rw [e2]
              exact q⟩⟩
            case measure => simp [intOf]; omega
        · have hjL : j = L.length := by omega
          have hls := hI.ls
          rw [hjL, List.take_length] at hls
          have HGT : Hid (Great m (g.own i) R (g.E i)) := ⟨by
            have := hI.gt
            rw [hjL, List.take_length, HL.out] at this
            exact this⟩
          have HGZ : Hid (∀ k, k < 4 → Great (T k : Int) (gz (g.G i) k : Int) (fun v => (Z v k : Int)) (g.E i)) := ⟨fun k hk => by
            have := hI.gz k hk
            rw [hjL, List.take_length, HL.out] at this
            exact this⟩
          obtain ⟨LL, hLL⟩ : ∃ LL, LL = [codeS i] :: L.map K := ⟨_, rfl⟩
          rw [← hLL] at hls
          have hmem : ∀ s, s ∈ LL.flatten ↔ s = codeS i ∨ ∃ v ∈ g.E i, s ∈ K v := fun s => by
            rw [hLL, ← HL.out, List.mem_flatten]
            constructor
            · rintro ⟨l, hl, hs⟩
              rcases List.mem_cons.1 hl with h | h
              · subst h
                exact .inl (by simpa using hs)
              · obtain ⟨v, hv, rfl⟩ := List.mem_map.1 h
                exact .inr ⟨v, hv, hs⟩
            · rintro (h | ⟨v, hv, hs⟩)
              · exact ⟨[codeS i], by simp, by simp [h]⟩
              · exact ⟨K v, List.mem_cons_of_mem _ (List.mem_map.2 ⟨v, hv, rfl⟩), hs⟩
          have hLm : LL.length ≤ 1100 := by rw [hLL]; simp; omega
          have hsort := sortedCodes_any _ LL wr hls.lists (by rw [hLL]; simp) hLm
          have hla : ∀ s ∈ codesOf LL.flatten, s ∈ allCodes g.n := fun s hs => by
            rcases (hmem s).1 (mem_codesOf.1 hs) with rfl | ⟨v, hv, hs'⟩
            · exact mem_allCodes.2 ⟨i, hi, rfl⟩
            · have hvi := ok.elt i hi v hv
              have hq := (HN.out.role v (by omega)).codes (HJ.out v hv)
              exact hq.2.2.2 s hs'
          have hc3 := codesOf_len n3 (l := LL.flatten) (fun s hs => hla s (mem_codesOf.2 hs))
          have hc0 : codesOf LL.flatten ≠ [] := fun e' => by
            have := mem_codesOf.2 ((hmem (codeS i)).2 (.inl rfl))
            rw [e'] at this
            simp at this
          have HMEM : Hid (∀ s, s ∈ codesOf LL.flatten ↔ s = codeS i ∨ ∃ v ∈ g.E i, s ∈ K v) := ⟨fun s => mem_codesOf.trans (hmem s)⟩
          have HSORT := Hid.mk hsort
          have HI := Hid.mk hI
          have HC0 := Hid.mk hc0
          have HC3 := Hid.mk hc3
          have HCA := Hid.mk hla
          have lr := hI.mid.cells.lt
          clear hjL hls hLL hmem hLm hsort hla hc3 hc0 hI
          go_wp2_with fail
          refine HSORT.out.mono ?_
          rintro r6 w6 ⟨v6, rfl, hS6, hcv6⟩
          have hM6 := HI.out.mid.since hS6
          obtain ⟨hBf, hNf⟩ := Mid.finish ok hi HN.out hM6 HI.out.fc HI.out.f9 hcv6 HC0.out HC3.out HCA.out
          obtain ⟨sg, scap, scs, hv6, -⟩ := hcv6.ex
          subst hv6
          have d8 := hM6.cell (x := 8) (by omega)
          have d10 := hM6.cell (x := 10) (by omega)
          have z8 := hM6.cells.frozen 8
          have z10 := hM6.cells.frozen 10
          have l6 := hM6.cells.lt
          have HBF := Hid.mk hBf
          have HNF := Hid.mk hNf
          clear hM6 hBf hNf hcv6 hS6 HSORT
          go_wp2
          go_ret
          exact ⟨rfl, HBF.out, m, T, _, _, HNF.out, HGT.out, HGZ.out, ⟨_, rfl⟩, HMEM.out⟩
end Go.Proofs.YbulkcvxmGreatFmt
