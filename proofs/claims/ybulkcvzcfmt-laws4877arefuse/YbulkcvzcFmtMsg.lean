import Derived.Test.YbulkcvzcFmtPad
set_option linter.unusedSimpArgs false
set_option linter.unusedVariables false
namespace Go.Proofs.YbulkcvzcFmt
open Go.RowKit

theorem and127 (v : Int) (h0 : 0 ≤ v) (h1 : v < 256) : bits .and .u8 v 127 = v % 128 := by
  have h : ∀ k : Fin 256, bits .and .u8 (k.val : Int) 127 = (k.val : Int) % 128 := by decide +kernel
  have := h ⟨v.toNat, by omega⟩
  have e : ((v.toNat : Nat) : Int) = v := by omega
  simpa [e] using this

/-- What the law's text is made into. -/
def txt (asc : Bool) (l : List Int) : List Int := (l.take 100).map fun c => if asc then c % 128 else c

/-- WHAT THE WALK IS TOLD OF A SLICE OF BYTES THAT CAME IN. -/
def IsRow (w : World) (a : Option Addr) (len cap : Nat) (zs : List Int) : Prop :=
  (a = none ∧ len = 0 ∧ cap = 0 ∧ zs = []) ∨
  ∃ x, a = some x ∧ len ≤ cap ∧ cap ≤ maxLen ∧ zs.length = cap ∧ (∀ i, i < zs.length → w.cell? (x.add i) = some (.int .u8 (zs.getD i 0))) ∧ ∀ n ∈ zs, 0 ≤ n ∧ n < 256

theorem txt_snoc (asc : Bool) (l : List Int) (k : Nat) (hk : k < l.length) (h100 : k < 100) : txt asc (l.take (k + 1)) = txt asc (l.take k) ++ [if asc then l.getD k 0 % 128 else l.getD k 0] := by
  unfold txt
  rw [List.take_take, List.take_take, Nat.min_eq_right (by omega), Nat.min_eq_right (by omega), List.take_succ_eq_append_getElem hk, List.map_append]
  have e : l.getD k 0 = l[k] := by simp [hk]
  rw [e]
  rfl

set_option maxRecDepth 100000 in
set_option maxHeartbeats 1000000 in
theorem atext_some (b off len cap : Nat) (asc : Bool) (zs : List Int) (w : World) (hlc : len ≤ cap) (hl : len ≤ 1024) (hz : zs.length = cap) (hb : b < w.heap.size)
    (hc : ∀ i, i < zs.length → w.cell? ⟨b, off + i, none⟩ = some (.int .u8 (zs.getD i 0))) (hwf : ∀ n ∈ zs, 0 ≤ n ∧ n < 256) :
    Calls Ybaf.prog 7 #[.slice (some ⟨b, off, none⟩) len cap, .bool asc] w fun e w' => ∃ g c, e = .returned (.slice (some ⟨g, 0, none⟩) (txt asc (zs.take len)).length c) ∧ Row w' w.heap.size (.slice (some ⟨g, 0, none⟩) (txt asc (zs.take len)).length c) (txt asc (zs.take len)) ∧ Below w.heap.size w w' := by
  obtain ⟨i0, hi, hz0, hz1, hz2⟩ := info_parts Ybaf.info5
  go_enter Ybaf.func7, Ybaf.ntmps7
  go_wp2_with (at_make; refine wpList_make_own _ rfl _ _ 23 rfl w.heap.size 5 i0 (.int .u8 0) 1 Ybaf.underlying23 hi hz0 hz1 .i64 .i64 100 100 rfl rfl rfl (by rw [hz2]; omega) (by unfold maxLen; omega) (Nat.le_refl _) ?_)
  intro w1 hown hgr
  have hb1 : Below w.heap.size w w1 := (Below.refl _ _).grown hgr (Nat.le_refl _) (by intro k hk; cases hk)
  have hr1 : Row w1 w.heap.size (.slice (some ⟨w.heap.size, 0, none⟩) 0 100) [] := hown
  clear hown hgr
  go_wp2
  go_loopw [5, 6] (fun v i wr => ∃ k : Nat, k ≤ len ∧ k ≤ 100 ∧ i = .int .i64 k ∧ (∃ g c, v = .slice (some ⟨g, 0, none⟩) (txt asc (zs.take k)).length c) ∧ Row wr w.heap.size v (txt asc (zs.take k)) ∧ Below w.heap.size w wr) (fun _ i _ => len - (intOf i).toNat)
  case atStart => exact ⟨0, Nat.zero_le _, Nat.zero_le _, rfl, ⟨_, _, rfl⟩, hr1, hb1⟩
  case round =>
    obtain ⟨k, hk, hk1, rfl, ⟨g, c, rfl⟩, hr, hbr⟩ := hrel
    by_cases hlt : k < len ∧ k < 100
    · obtain ⟨hlt, h100⟩ := hlt
      have hcx : wr.cell? ⟨b, off + k, none⟩ = some (.int .u8 (zs.getD k 0)) := (hbr.cell (p := ⟨b, off + k, none⟩) hb).trans (hc k (by omega))
      have hw := hwf (zs.getD k 0) (by rw [List.getD_eq_getElem?_getD, List.getElem?_eq_getElem (by omega)]; exact List.getElem_mem _)
      obtain ⟨x, hx⟩ : ∃ x, zs.getD k 0 = x := ⟨_, rfl⟩
      have hsn := txt_snoc asc zs k (by omega) h100
      rw [hx] at hcx hw hsn
      have hand := and127 x hw.1 hw.2
      clear hx hc
      have HS : Hid (txt asc (zs.take (k + 1)) = txt asc (zs.take k) ++ [if asc then x % 128 else x]) := hsn
      clear hsn
      have hle : (txt asc (zs.take k)).length ≤ 100 := by simp [txt]; omega
      cases asc
      · go_wp2_with (at_builtin; refine app _ rfl _ _ rfl w.heap.size _ (txt false (zs.take k)) rfl (Row.keep hr (belowAlloc _ _)) ⟨wr.heap.size, 0, none⟩ 1 1 [x] rfl rfl (cell1 _ _) ?e2 ?e3 ?e4)
        case e2 => omega
        case e3 => have := hbr.size; simp at this ⊢; omega
        case e4 =>
          intro v' w' hq hd
          have hbw : Below w.heap.size w w' := hbr.trans (((belowAlloc _ _).mono hbr.size).trans hd)
          have hq' : Row w' w.heap.size v' (txt false (zs.take (k + 1))) := by rw [HS.out]; exact hq
          have hfm : ∃ g c, v' = .slice (some ⟨g, 0, none⟩) (txt false (zs.take (k + 1))).length c := by
            obtain ⟨g, c, hv, _⟩ := hq'.form (by rw [HS.out]; simp)
            exact ⟨g, c, hv⟩
          clear hq hd hr hbr hand
          go_wp2
          go_roundw
          case rel => exact ⟨k + 1, by omega, by omega, by go_num, hfm, hq', hbw⟩
          case measure => simp [intOf]; omega
      · go_wp2_with (at_builtin; refine app _ rfl _ _ rfl w.heap.size _ (txt true (zs.take k)) rfl (Row.keep hr (belowAlloc _ _)) ⟨wr.heap.size, 0, none⟩ 1 1 [x % 128] rfl rfl (cell1 _ _) ?e2 ?e3 ?e4)
        case e2 => omega
        case e3 => have := hbr.size; simp at this ⊢; omega
        case e4 =>
          intro v' w' hq hd
          have hbw : Below w.heap.size w w' := hbr.trans (((belowAlloc _ _).mono hbr.size).trans hd)
          have hq' : Row w' w.heap.size v' (txt true (zs.take (k + 1))) := by rw [HS.out]; exact hq
          have hfm : ∃ g c, v' = .slice (some ⟨g, 0, none⟩) (txt true (zs.take (k + 1))).length c := by
            obtain ⟨g, c, hv, _⟩ := hq'.form (by rw [HS.out]; simp)
            exact ⟨g, c, hv⟩
          clear hq hd hr hbr hand
          go_wp2
          go_roundw
          case rel => exact ⟨k + 1, by omega, by omega, by go_num, hfm, hq', hbw⟩
          case measure => simp [intOf]; omega
    · have he : txt asc (zs.take len) = txt asc (zs.take k) := by
        unfold txt
        by_cases h : k < len
        · have : k = 100 := by omega
          rw [List.take_take, List.take_take, Nat.min_eq_left (by omega), Nat.min_eq_left (by omega)]
        · have : k = len := by omega
          rw [this]
      have HE : Hid (txt asc (zs.take len) = txt asc (zs.take k)) := he
      clear he
      by_cases h : k < len
      · have h2 : decide ((k : Int) < 100) = false := decide_eq_false (by omega)
        go_wp2
        go_ret
        exact ⟨g, c, by rw [HE.out]; rfl, by rw [HE.out]; exact hr, hbr⟩
      · have h2 : decide ((k : Int) < (len : Int)) = false := decide_eq_false (by omega)
        go_wp2
        go_ret
        exact ⟨g, c, by rw [HE.out]; rfl, by rw [HE.out]; exact hr, hbr⟩

set_option maxRecDepth 100000 in
set_option maxHeartbeats 1000000 in
theorem atext_nil (a : Option Addr) (cap : Nat) (asc : Bool) (w : World) :
    Calls Ybaf.prog 7 #[.slice a 0 cap, .bool asc] w fun e w' => ∃ g c, e = .returned (.slice (some ⟨g, 0, none⟩) 0 c) ∧ Row w' w.heap.size (.slice (some ⟨g, 0, none⟩) 0 c) [] ∧ Below w.heap.size w w' := by
  obtain ⟨i0, hi, hz0, hz1, hz2⟩ := info_parts Ybaf.info5
  go_enter Ybaf.func7, Ybaf.ntmps7
  go_wp2_with (at_make; refine wpList_make_own _ rfl _ _ 23 rfl w.heap.size 5 i0 (.int .u8 0) 1 Ybaf.underlying23 hi hz0 hz1 .i64 .i64 100 100 rfl rfl rfl (by rw [hz2]; omega) (by unfold maxLen; omega) (Nat.le_refl _) ?_)
  intro w1 hown hgr
  have hb1 : Below w.heap.size w w1 := (Below.refl _ _).grown hgr (Nat.le_refl _) (by intro k hk; cases hk)
  have hr1 : Row w1 w.heap.size (.slice (some ⟨w.heap.size, 0, none⟩) 0 100) [] := hown
  clear hown hgr
  go_wp2
  refine wp_loop_rounds 1 ?_
  rw [rounds_succ]
  go_wp2
  go_ret
  exact ⟨_, _, rfl, hr1, hb1⟩

theorem atext (a : Option Addr) (len cap : Nat) (asc : Bool) (zs : List Int) (w : World) (hl : len ≤ 1024) (h : IsRow w a len cap zs) :
    Calls Ybaf.prog 7 #[.slice a len cap, .bool asc] w fun e w' => ∃ g c, e = .returned (.slice (some ⟨g, 0, none⟩) (txt asc (zs.take len)).length c) ∧ Row w' w.heap.size (.slice (some ⟨g, 0, none⟩) (txt asc (zs.take len)).length c) (txt asc (zs.take len)) ∧ Below w.heap.size w w' := by
  rcases h with ⟨rfl, rfl, rfl, rfl⟩ | ⟨x, rfl, hlc, hcm, hzl, hc, hwf⟩
  · exact atext_nil none 0 asc w
  · by_cases hz : zs = []
    · subst hz
      have hc0 : cap = 0 := by simpa using hzl.symm
      have hl0 : len = 0 := by omega
      subst hc0; subst hl0
      exact atext_nil (some x) 0 asc w
    · have hpos : 0 < zs.length := List.length_pos_iff.2 hz
      have h0 := hc 0 hpos
      obtain ⟨b, off, sp⟩ := x
      have hsp : sp = none := by simpa [Addr.add] using World.cell?_spot h0
      subst hsp
      have hb : b < w.heap.size := by
        have := h0
        unfold World.cell? at this
        rcases Nat.lt_or_ge b w.heap.size with h' | h'
        · exact h'
        · simp [Addr.add, Array.getElem?_eq_none h'] at this
      exact atext_some b off len cap asc zs w hlc hl hzl hb (fun i hi => by rw [← Addr.add_lit]; exact hc i hi) hwf

/-- The contents of the message. -/
def inner (cb t : List Int) (wt : Bool) : List Int := 128 :: (cb.length : Int) :: cb ++ if wt then 129 :: (t.length : Int) :: t else []
def msg (cb t : List Int) (wt : Bool) : List Int := 48 :: ((inner cb t wt).length : Int) :: inner cb t wt

theorem cell2 (w : World) (x y : Int) : ∀ j, j < 2 → (w.alloc (.cells #[.int .u8 x, .int .u8 y] 5)).cell? ((⟨w.heap.size, 0, none⟩ : Addr).add j) = some (.int .u8 ([x, y].getD j 0)) := by
  intro j hj
  rw [Addr.add_lit]
  match j, hj with
  | 0, _ => exact cellOf (newBlock _ _)
  | 1, _ => exact cellOf (newBlock _ _)
theorem row2 (w : World) (B N : Nat) (x y : Int) (hN : w.heap.size = N) (hB : B ≤ N) : Row (w.alloc (.cells #[.int .u8 x, .int .u8 y] 5)) B (.slice (some ⟨N, 0, none⟩) 2 2) [x, y] := by
  subst hN
  exact ⟨rfl, .inr ⟨w.heap.size, 2, _, rfl, hB, newBlock _ _, Nat.le_refl _, by unfold maxLen; decide, rfl, rfl⟩⟩

def zeroE : Obj := .cells #[.int .u8 0, .int .i64 0, .int .i64 0, .int .i64 0] 29
/-- What is left of amsg behind the contents: the frame's head is the same both ways. -/
theorem inner_len (cb t : List Int) (wt : Bool) (h1 : cb.length ≤ 20) (h2 : t.length ≤ 100) : (inner cb t wt).length ≤ 124 := by
  unfold inner
  cases wt <;> simp <;> omega

theorem cellAlloc' {w : World} {p : Addr} {v : Value} {o : Obj} (h : w.cell? p = some v) : (w.alloc o).cell? p = some v := by
  unfold World.cell? at h ⊢
  have hb : p.block < w.heap.size := by
    rcases Nat.lt_or_ge p.block w.heap.size with h' | h'
    · exact h'
    · simp [Array.getElem?_eq_none h'] at h
  rw [Below.heap_alloc w o p.block hb]
  exact h
theorem cellsBelow {w w' : World} {B g : Nat} {l : List Int} (hb : Below B w w') (hg : g < B) (h : ∀ j, j < l.length → w.cell? ⟨g, j, none⟩ = some (.int .u8 (l.getD j 0))) : ∀ j, j < l.length → w'.cell? ((⟨g, 0, none⟩ : Addr).add j) = some (.int .u8 (l.getD j 0)) := by
  intro j hj
  rw [Addr.add_lit, Nat.zero_add]
  exact (hb.cell (p := ⟨g, j, none⟩) hg).trans (h j hj)

set_option maxRecDepth 100000 in
set_option maxHeartbeats 2000000 in
theorem amsg (g1 c1 g2 c2 B1 B2 : Nat) (cb t : List Int) (wt : Bool) (w : World) (hr1 : Row w B1 (.slice (some ⟨g1, 0, none⟩) cb.length c1) cb) (hr2 : Row w B2 (.slice (some ⟨g2, 0, none⟩) t.length c2) t) (hl1 : cb.length ≤ 20) (hl2 : t.length ≤ 100) :
    Calls Ybaf.prog 10 #[.slice (some ⟨g1, 0, none⟩) cb.length c1, .slice (some ⟨g2, 0, none⟩) t.length c2, .bool wt] w fun e w' => ∃ g c, e = .returned (.tuple #[.slice (some ⟨g, 0, none⟩) (msg cb t wt).length c, .agg #[.int .u8 48, .int .i64 0, .int .i64 2, .int .i64 (msg cb t wt).length]]) ∧ Row w' w.heap.size (.slice (some ⟨g, 0, none⟩) (msg cb t wt).length c) (msg cb t wt) ∧ Below w.heap.size w w' := by
  obtain ⟨_, g1', hg1, _, hs1, _, _, hcell1, _⟩ := hr1.formS
  cases hg1
  obtain ⟨_, g2', hg2, _, hs2, _, _, hcell2, _⟩ := hr2.formS
  cases hg2
  clear hr1 hr2
  have hil := inner_len cb t wt hl1 hl2
  go_enter Ybaf.func10, Ybaf.ntmps10
  go_wp2_with (at_builtin; refine app _ rfl _ _ rfl (w.heap.size + 1) _ [128, (cb.length : Int)] rfl (row2 _ _ (w.heap.size + 1) _ _ (by simp) (by omega)) ⟨g1, 0, none⟩ cb.length c1 cb rfl rfl ?e1 ?e2 ?e3 ?e4)
  case e1 => intro j hj; have := hcell1 j hj; simpa using this
  case e2 => omega
  case e4 =>
    intro v1 w1 hq1 hd1
    have hq1 : Row w1 (w.heap.size + 1) v1 (128 :: (cb.length : Int) :: cb) := hq1
    have hb1 : Below (w.heap.size + 1) (w.alloc zeroE) w1 := ((belowAlloc _ _).mono (by simp)).trans hd1
    clear hd1
    cases wt
    · obtain ⟨I, HI⟩ : ∃ I, Hid (I = inner cb t false) := ⟨_, rfl⟩
      have hqI : Row w1 (w.heap.size + 1) v1 I := by rw [HI.out]; simpa [inner] using hq1
      have hbI := hb1
      clear hq1 hb1
      obtain ⟨gi, ci, hv, hgi, hgis, hlc, hcm, hcell, hfz, _⟩ := hqI.form (by rw [HI.out]; simp [inner])
      obtain ⟨L, HL⟩ : ∃ L, Hid (L = I.length) := ⟨_, rfl⟩
      have hL124 : L ≤ 124 := by rw [HL.out, HI.out]; exact hil
      rw [← HL.out] at hv
      subst hv
      clear hil hcell1 hcell2 hfz hlc hcm
      have hcI : ∀ j, j < L → w1.cell? ⟨gi, j, none⟩ = some (.int .u8 (I.getD j 0)) := fun j hj => hcell j (by rw [← HL.out]; exact hj)
      clear hcell
      go_wp2_with (at_builtin; refine app _ rfl _ _ rfl w1.heap.size _ [48, (L : Int)] rfl (row2 _ _ w1.heap.size _ _ rfl (Nat.le_refl _)) ⟨gi, 0, none⟩ L ci I rfl HL.out.symm ?f1 ?f2 ?f3 ?f4)
      case f1 => intro j hj; rw [Addr.add_lit, Nat.zero_add, (belowAlloc _ _).cell (p := ⟨gi, j, none⟩) hgis]; exact hcI j hj
      case f2 => simp; omega
      case f3 => simp
      case f4 =>
        intro v5 w5 hq5 hd5
        have hq5 : Row w5 w1.heap.size v5 (48 :: (L : Int) :: I) := hq5
        have hb5 : Below w1.heap.size w1 w5 := (belowAlloc _ _).trans hd5
        obtain ⟨g5, c5, hv5, _⟩ := hq5.form (by simp)
        have hv5 : v5 = .slice (some ⟨g5, 0, none⟩) (L + 2) c5 := by rw [hv5]; simp [HL.out]
        subst hv5
        have hbR : Below (w.heap.size + 1) (w.alloc zeroE) w5 := hbI.trans (hb5.mono (by have := hbI.size; simp at this; omega))
        have hR : w5.heap[w.heap.size]? = some zeroE := by rw [hbR.block _ (by omega)]; exact newBlock _ _
        unfold zeroE at hR
        have r0 : w5.cell? ⟨w.heap.size, 0, none⟩ = some (.int .u8 0) := cellOf hR
        have r1 : w5.cell? ⟨w.heap.size, 1, none⟩ = some (.int .i64 0) := cellOf hR
        have r2 : w5.cell? ⟨w.heap.size, 2, none⟩ = some (.int .i64 0) := cellOf hR
        have r3 : w5.cell? ⟨w.heap.size, 3, none⟩ = some (.int .i64 0) := cellOf hR
        have z0 : w5.frozen? ⟨w.heap.size, 0, none⟩ = false := frozenOf hR
        have z1 : w5.frozen? ⟨w.heap.size, 1, none⟩ = false := frozenOf hR
        have z2 : w5.frozen? ⟨w.heap.size, 2, none⟩ = false := frozenOf hR
        have z3 : w5.frozen? ⟨w.heap.size, 3, none⟩ = false := frozenOf hR
        clear hR
        go_wp2_with fail
        refine bodyPost_ret (v := .tuple #[.slice (some ⟨g5, 0, none⟩) (I.length + 2) c5, .agg #[.int .u8 48, .int .i64 0, .int .i64 2, .int .i64 ((I.length : Int) + 2)]]) (by simp [results, Ybaf.results10, go_sem, r0, r1, r2, r3]) rfl ⟨g5, c5, ?_, ?_, ?_⟩
        · rw [show (msg cb t false).length = I.length + 2 by simp [msg, HI.out]]; rfl
        · have hm : msg cb t false = 48 :: (I.length : Int) :: I := by simp only [msg, HI.out]
          rw [hm]
          have h6 := hq5.mono (B' := w.heap.size + 1) (by have := hbI.size; simp at this; omega)
          exact Row.mono (ownsRow_setCell_below (ownsRow_setCell_below (ownsRow_setCell_below (ownsRow_setCell_below h6 (by simp) _) (by simp) _) (by simp) _) (by simp) _) (by omega)
        · exact ((((((belowAlloc _ _).trans (hbR.mono (by omega))).setCell (by simp) _).setCell (by simp) _).setCell (by simp) _).setCell (by simp) _)
    · have hcell2' := cellsBelow (hb1.mono (B' := w.heap.size) (by omega)) hs2 (fun j hj => cellAlloc' (hcell2 j hj))
      have hs1' := hb1.size
      go_wp2_with (at_builtin; refine app _ rfl _ _ rfl (w.heap.size + 1) _ (128 :: (cb.length : Int) :: cb) rfl (Row.keep hq1 (belowAlloc _ _)) ⟨w1.heap.size, 0, none⟩ 2 2 [129, (t.length : Int)] rfl rfl (cell2 _ _ _) ?a1 ?a2 ?a3)
      case a1 => simp; omega
      case a2 => simp at hs1' ⊢; omega
      case a3 =>
        intro v2 w2 hq2 hd2
        have hb2 : Below (w.heap.size + 1) (w.alloc zeroE) w2 := hb1.trans (((belowAlloc _ _).mono (by simp at hs1'; omega)).trans hd2)
        have hcell2'' := cellsBelow (hb2.mono (B' := w.heap.size) (by omega)) hs2 (fun j hj => cellAlloc' (hcell2 j hj))
        have hs2' := hb2.size
        clear hq1 hd2 hb1 hcell2'
        go_wp2_with (at_builtin; refine app _ rfl _ _ rfl (w.heap.size + 1) _ (128 :: (cb.length : Int) :: cb ++ [129, (t.length : Int)]) rfl hq2 ⟨g2, 0, none⟩ t.length c2 t rfl rfl hcell2'' ?b1 ?b2 ?b3)
        case b1 => simp; omega
        case b2 => simp at hs2'; omega
        case b3 =>
          intro v3 w3 hq3 hd3
          have hbI : Below (w.heap.size + 1) (w.alloc zeroE) w3 := hb2.trans hd3
          obtain ⟨I, HI⟩ : ∃ I, Hid (I = inner cb t true) := ⟨_, rfl⟩
          have hqI : Row w3 (w.heap.size + 1) v3 I := by rw [HI.out]; simpa [inner] using hq3
          clear hq3 hd3 hb2 hq2 hcell2'' hs1' hs2'
          obtain ⟨gi, ci, hv, hgi, hgis, hlc, hcm, hcell, hfz, _⟩ := hqI.form (by rw [HI.out]; simp [inner])
          obtain ⟨L, HL⟩ : ∃ L, Hid (L = I.length) := ⟨_, rfl⟩
          have hL124 : L ≤ 124 := by rw [HL.out, HI.out]; exact hil
          rw [← HL.out] at hv
          subst hv
          clear hil hcell1 hcell2 hfz hlc hcm
          have hcI : ∀ j, j < L → w3.cell? ⟨gi, j, none⟩ = some (.int .u8 (I.getD j 0)) := fun j hj => hcell j (by rw [← HL.out]; exact hj)
          clear hcell
          go_wp2_with (at_builtin; refine app _ rfl _ _ rfl w3.heap.size _ [48, (L : Int)] rfl (row2 _ _ w3.heap.size _ _ rfl (Nat.le_refl _)) ⟨gi, 0, none⟩ L ci I rfl HL.out.symm ?f1 ?f2 ?f3 ?f4)
          case f1 => intro j hj; rw [Addr.add_lit, Nat.zero_add, (belowAlloc _ _).cell (p := ⟨gi, j, none⟩) hgis]; exact hcI j hj
          case f2 => simp; omega
          case f3 => simp
          case f4 =>
            intro v5 w5 hq5 hd5
            have hq5 : Row w5 w3.heap.size v5 (48 :: (L : Int) :: I) := hq5
            have hb5 : Below w3.heap.size w3 w5 := (belowAlloc _ _).trans hd5
            obtain ⟨g5, c5, hv5, _⟩ := hq5.form (by simp)
            have hv5 : v5 = .slice (some ⟨g5, 0, none⟩) (L + 2) c5 := by rw [hv5]; simp [HL.out]
            subst hv5
            have hbR : Below (w.heap.size + 1) (w.alloc zeroE) w5 := hbI.trans (hb5.mono (by have := hbI.size; simp at this; omega))
            have hR : w5.heap[w.heap.size]? = some zeroE := by rw [hbR.block _ (by omega)]; exact newBlock _ _
            unfold zeroE at hR
            have r0 : w5.cell? ⟨w.heap.size, 0, none⟩ = some (.int .u8 0) := cellOf hR
            have r1 : w5.cell? ⟨w.heap.size, 1, none⟩ = some (.int .i64 0) := cellOf hR
            have r2 : w5.cell? ⟨w.heap.size, 2, none⟩ = some (.int .i64 0) := cellOf hR
            have r3 : w5.cell? ⟨w.heap.size, 3, none⟩ = some (.int .i64 0) := cellOf hR
            have z0 : w5.frozen? ⟨w.heap.size, 0, none⟩ = false := frozenOf hR
            have z1 : w5.frozen? ⟨w.heap.size, 1, none⟩ = false := frozenOf hR
            have z2 : w5.frozen? ⟨w.heap.size, 2, none⟩ = false := frozenOf hR
            have z3 : w5.frozen? ⟨w.heap.size, 3, none⟩ = false := frozenOf hR
            clear hR
            go_wp2_with fail
            refine bodyPost_ret (v := .tuple #[.slice (some ⟨g5, 0, none⟩) (I.length + 2) c5, .agg #[.int .u8 48, .int .i64 0, .int .i64 2, .int .i64 ((I.length : Int) + 2)]]) (by simp [results, Ybaf.results10, go_sem, r0, r1, r2, r3]) rfl ⟨g5, c5, ?_, ?_, ?_⟩
            · rw [show (msg cb t true).length = I.length + 2 by simp [msg, HI.out]]; rfl
            · have hm : msg cb t true = 48 :: (I.length : Int) :: I := by simp only [msg, HI.out]
              rw [hm]
              have h6 := hq5.mono (B' := w.heap.size + 1) (by have := hbI.size; simp at this; omega)
              exact Row.mono (ownsRow_setCell_below (ownsRow_setCell_below (ownsRow_setCell_below (ownsRow_setCell_below h6 (by simp) _) (by simp) _) (by simp) _) (by simp) _) (by omega)
            · exact ((((((belowAlloc _ _).trans (hbR.mono (by omega))).setCell (by simp) _).setCell (by simp) _).setCell (by simp) _).setCell (by simp) _)
end Go.Proofs.YbulkcvzcFmt
