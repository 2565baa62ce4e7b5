import Derived.Test.YbulkcvzcFmtInt
set_option linter.unusedSimpArgs false
set_option linter.unusedVariables false
namespace Go.Proofs.YbulkcvzcFmt
open Go.RowKit

/-- A row that is not nil. -/
theorem Row.formS {w : World} {B : Nat} {ad : Addr} {n c : Nat} {l : List Int} (h : Row w B (.slice (some ad) n c) l) :
    n = l.length ∧ ∃ g, ad = ⟨g, 0, none⟩ ∧ B ≤ g ∧ g < w.heap.size ∧ l.length ≤ c ∧ c ≤ maxLen ∧ (∀ j, j < l.length → w.cell? ⟨g, j, none⟩ = some (.int .u8 (l.getD j 0))) ∧ ∃ cur, w.heap[g]? = some (.cells cur 5 (0, 0)) ∧ cur.toList.take l.length = l.map (Value.int .u8) := by
  obtain ⟨h1, h2⟩ := h
  rcases h2 with ⟨h0, _⟩ | ⟨g, cap, cur, hv, hg, hh, hn, hm, hs, ht⟩
  · cases h0
  · cases hv
    refine ⟨rfl, g, rfl, hg, sizeOf_block hh, hn, hm, ?_, cur, hh, by simpa using ht⟩
    intro j hj
    rw [cellOf hh]
    have e : cur.toList[j]? = (l.map (Value.int .u8))[j]? := by
      rw [← ht, List.getElem?_take]
      simp [hj]
    rw [← Array.getElem?_toList, e]
    simp [hj]

set_option maxRecDepth 100000 in
set_option maxHeartbeats 1000000 in
theorem apad0 (g n cap B : Nat) (l : List Int) (w : World) (hr : Row w B (.slice (some ⟨g, 0, none⟩) n cap) l) (hl : l.length ≤ 1000) :
    Calls Ybaf.prog 8 #[.slice (some ⟨g, 0, none⟩) n cap, .int .i64 0] w fun e w' => ∃ x, e = .returned x ∧ Row w' w.heap.size x (l) ∧ Below w.heap.size w w' := by
  obtain ⟨rfl, g', hg', hBg, hgs, hlc, hcm, hcell, cur, hcur, htk⟩ := hr.formS
  cases hg'
  go_enter Ybaf.func8, Ybaf.ntmps8
  go_wp2
  refine wp_loop_rounds 1 ?_
  rw [rounds_succ]
  go_wp2_with (at_builtin; refine app _ rfl _ _ rfl w.heap.size _ [] rfl (Row.nil _ _) ⟨g, 0, none⟩ l.length cap l rfl rfl ?f1 ?f2 ?f3 ?f4)
  case f1 => exact fun j hj => by rw [Addr.add_lit, Nat.zero_add]; exact hcell j hj
  case f2 => simp; omega
  case f3 => simp
  case f4 =>
    intro x y hq hd
    go_wp2_with fail
    go_ret
    exact ⟨_, rfl, hq, hd⟩

set_option maxRecDepth 100000 in
set_option maxHeartbeats 1000000 in
theorem apad1 (g n cap B : Nat) (l : List Int) (w : World) (hr : Row w B (.slice (some ⟨g, 0, none⟩) n cap) l) (hl : l.length ≤ 1000) :
    Calls Ybaf.prog 8 #[.slice (some ⟨g, 0, none⟩) n cap, .int .i64 1] w fun e w' => ∃ x, e = .returned x ∧ Row w' w.heap.size x (0 :: l) ∧ Below w.heap.size w w' := by
  obtain ⟨rfl, g', hg', hBg, hgs, hlc, hcm, hcell, cur, hcur, htk⟩ := hr.formS
  cases hg'
  go_enter Ybaf.func8, Ybaf.ntmps8
  go_wp2
  refine wp_loop_rounds 2 ?_
  rw [rounds_succ]
  go_wp2_with (at_builtin; refine app _ rfl _ _ rfl w.heap.size _ [] rfl (Row.nil _ _) ⟨w.heap.size, 0, none⟩ 1 1 [0] rfl rfl ?e1a (by simp) ?e1b ?e1c)
  case e1a => exact cell1 _ _
  case e1b => simp
  case e1c =>
    intro u1 y1 hq1 hd1
    have hq1 : Row y1 w.heap.size u1 [0] := hq1
    have hy1 : Below w.heap.size w y1 := (belowAlloc _ _).trans hd1
    go_wp2_with fail
    rw [rounds_succ]
    go_wp2_with (at_builtin; refine app _ rfl _ _ rfl w.heap.size _ [0] rfl hq1 ⟨g, 0, none⟩ l.length cap l rfl rfl ?f1 ?f2 ?f3 ?f4)
    case f1 => exact fun j hj => by rw [Addr.add_lit, Nat.zero_add]; exact (hy1.cell (p := ⟨g, j, none⟩) hgs).trans (hcell j hj)
    case f2 => simp; omega
    case f3 => exact hy1.size
    case f4 =>
      intro x y hq hd
      go_wp2_with fail
      go_ret
      exact ⟨_, rfl, hq, hy1.trans hd⟩

set_option maxRecDepth 100000 in
set_option maxHeartbeats 1000000 in
theorem apad2 (g n cap B : Nat) (l : List Int) (w : World) (hr : Row w B (.slice (some ⟨g, 0, none⟩) n cap) l) (hl : l.length ≤ 1000) :
    Calls Ybaf.prog 8 #[.slice (some ⟨g, 0, none⟩) n cap, .int .i64 2] w fun e w' => ∃ x, e = .returned x ∧ Row w' w.heap.size x (0 :: 0 :: l) ∧ Below w.heap.size w w' := by
  obtain ⟨rfl, g', hg', hBg, hgs, hlc, hcm, hcell, cur, hcur, htk⟩ := hr.formS
  cases hg'
  go_enter Ybaf.func8, Ybaf.ntmps8
  go_wp2
  refine wp_loop_rounds 3 ?_
  rw [rounds_succ]
  go_wp2_with (at_builtin; refine app _ rfl _ _ rfl w.heap.size _ [] rfl (Row.nil _ _) ⟨w.heap.size, 0, none⟩ 1 1 [0] rfl rfl ?e1a (by simp) ?e1b ?e1c)
  case e1a => exact cell1 _ _
  case e1b => simp
  case e1c =>
    intro u1 y1 hq1 hd1
    have hq1 : Row y1 w.heap.size u1 [0] := hq1
    have hy1 : Below w.heap.size w y1 := (belowAlloc _ _).trans hd1
    go_wp2_with fail
    rw [rounds_succ]
    go_wp2_with (at_builtin; refine app _ rfl _ _ rfl w.heap.size _ [0] rfl (Row.keep hq1 (belowAlloc _ _)) ⟨y1.heap.size, 0, none⟩ 1 1 [0] rfl rfl ?e2a (by simp) ?e2b ?e2c)
    case e2a => exact cell1 _ _
    case e2b => have := hy1.size; simp; omega
    case e2c =>
      intro u2 y2 hq2 hd2
      have hq2 : Row y2 w.heap.size u2 [0, 0] := hq2
      have hy2 : Below w.heap.size w y2 := hy1.trans (((belowAlloc _ _).mono hy1.size).trans hd2)
      go_wp2_with fail
      rw [rounds_succ]
      go_wp2_with (at_builtin; refine app _ rfl _ _ rfl w.heap.size _ [0, 0] rfl hq2 ⟨g, 0, none⟩ l.length cap l rfl rfl ?f1 ?f2 ?f3 ?f4)
      case f1 => exact fun j hj => by rw [Addr.add_lit, Nat.zero_add]; exact (hy2.cell (p := ⟨g, j, none⟩) hgs).trans (hcell j hj)
      case f2 => simp; omega
      case f3 => exact hy2.size
      case f4 =>
        intro x y hq hd
        go_wp2_with fail
        go_ret
        exact ⟨_, rfl, hq, hy2.trans hd⟩

end Go.Proofs.YbulkcvzcFmt
