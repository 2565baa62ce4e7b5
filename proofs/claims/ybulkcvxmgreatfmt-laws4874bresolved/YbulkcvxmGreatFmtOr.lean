/- The union of two rules (29): the greater of the two. -/
import Derived.Test.YbulkcvxmGreatFmtAdd
set_option linter.unusedSimpArgs false
set_option linter.unusedVariables false
namespace Go.Proofs.YbulkcvxmGreatFmt
open Go.RowKit

theorem eqG (gb : Nat) (w : World) : (binOp .eql 27 (.pointer (some ⟨gb, 0, none⟩)) (.pointer (some ⟨gb, 0, none⟩))).run Ybaz.prog w = .ok (.bool true) w := by
  have h2 : (Ybaz.prog.info? 37).isSome = true := by kernel_rfl
  obtain ⟨j, hj⟩ := Option.isSome_iff_exists.1 h2
  exact run_eql_ptr_same w _ Ybaz.underlying27 hj
section
variable (gb q cap : Nat) (w : World)
set_option maxRecDepth 100000
set_option maxHeartbeats 1000000
theorem clipG_nil : Calls Ybaz.prog 52 #[.slice none 0 0] w fun r w' => r = .returned (.slice none 0 0) ∧ w = w' := by
  go_enter Ybaz.func52, Ybaz.ntmps52
  go_wp2
  go_ret
  exact ⟨rfl, rfl⟩
theorem clipG (hc : 1 ≤ cap) (hm : cap ≤ maxLen) : Calls Ybaz.prog 52 #[.slice (some ⟨q, 0, none⟩) 1 cap] w fun r w' => r = .returned (.slice (some ⟨q, 0, none⟩) 1 1) ∧ w = w' := by
  unfold maxLen at hm
  go_enter Ybaz.func52, Ybaz.ntmps52
  go_wp2
  go_ret
  exact ⟨rfl, rfl⟩
theorem indexG_nil : Calls Ybaz.prog 70 #[.slice none 0 0, .pointer (some ⟨gb, 0, none⟩)] w fun r w' => r = .returned (.int .i64 (-1)) ∧ w = w' := by
  go_enter Ybaz.func70, Ybaz.ntmps70
  go_wp2_with fail
  go_loop [8] (fun iv => iv = .int .i64 0) (fun iv => 0)
  case atStart => exact rfl
  case round =>
    subst hrel
    go_wp2
    go_ret
    exact ⟨rfl, rfl⟩
theorem indexG (h0 : w.cell? ⟨q, 0, none⟩ = some (.pointer (some ⟨gb, 0, none⟩))) : Calls Ybaz.prog 70 #[.slice (some ⟨q, 0, none⟩) 1 1, .pointer (some ⟨gb, 0, none⟩)] w fun r w' => r = .returned (.int .i64 0) ∧ w = w' := by
  have lq := sizeOf_cell h0
  simp only at lq
  have he := eqG gb
  go_enter Ybaz.func70, Ybaz.ntmps70
  go_wp2_with fail
  go_loop [8] (fun iv => iv = .int .i64 0) (fun iv => 0)
  case atStart => exact rfl
  case round =>
    subst hrel
    go_wp2
    go_ret
    exact ⟨rfl, rfl⟩
theorem containsG_nil : Calls Ybaz.prog 53 #[.slice none 0 0, .pointer (some ⟨gb, 0, none⟩)] w fun r w' => r = .returned (.bool false) ∧ w = w' := by
  go_enter Ybaz.func53, Ybaz.ntmps53
  go_wp2_with fail
  refine (indexG_nil gb w).mono ?_
  rintro r w1 ⟨rfl, rfl⟩
  go_wp2
  go_ret
  exact ⟨rfl, rfl⟩
theorem containsG (h0 : w.cell? ⟨q, 0, none⟩ = some (.pointer (some ⟨gb, 0, none⟩))) : Calls Ybaz.prog 53 #[.slice (some ⟨q, 0, none⟩) 1 1, .pointer (some ⟨gb, 0, none⟩)] w fun r w' => r = .returned (.bool true) ∧ w = w' := by
  go_enter Ybaz.func53, Ybaz.ntmps53
  go_wp2_with fail
  refine (indexG gb q w h0).mono ?_
  rintro r w1 ⟨rfl, rfl⟩
  go_wp2
  go_ret
  exact ⟨rfl, rfl⟩
end

set_option maxRecDepth 100000 in
set_option maxHeartbeats 1000000 in
theorem or_alw (gb : Nat) (x y : Bool) (a a' : Option Addr) (n c n' c' : Nat) (w : World) (hxy : (x || y) = true) :
    Calls Ybaz.prog 29 #[.agg #[.bool x, .slice a n c], .agg #[.bool y, .slice a' n' c']] w fun r w' => ∃ v, r = .returned v ∧ RuleV w' gb 2 v ∧ Since w w' := by
  have hS : Since w (((w.alloc (.cells #[.bool x, .slice a n c] 65)).alloc (.cells #[.bool y, .slice a' n' c'] 65)).alloc (.cells #[.bool true, .slice none 0 0] 65)) := (Since.new _ _).then ((Since.new _ _).then (Since.new w _))
  have hB : (((w.alloc (.cells #[.bool x, .slice a n c] 65)).alloc (.cells #[.bool y, .slice a' n' c'] 65)).alloc (.cells #[.bool true, .slice none 0 0] 65)).heap[w.heap.size + 1 + 1]? = some (.cells #[.bool true, .slice none 0 0] 65) := by
    have := newBlock ((w.alloc (.cells #[.bool x, .slice a n c] 65)).alloc (.cells #[.bool y, .slice a' n' c'] 65)) (.cells #[.bool true, .slice none 0 0] 65)
    rw [show ((w.alloc (.cells #[.bool x, .slice a n c] 65)).alloc (.cells #[.bool y, .slice a' n' c'] 65)).heap.size = w.heap.size + 1 + 1 by simp] at this
    exact this
  cases x
  · cases y
    · cases hxy
    · go_enter Ybaz.func29, Ybaz.ntmps29
      go_wp2
      generalize hW : World.alloc (World.alloc (World.alloc w _) _) _ = W at hS hB ⊢
      have x0 := cellOf (o := 0) hB
      have x1 := cellOf (o := 1) hB
      have lx := sizeOf_block hB
      simp only [List.getElem?_toArray] at x0 x1
      exact bodyPost_ret (v := .agg #[.bool true, .slice none 0 0]) (by simp [results, Ybaz.results29, go_sem, x0, x1, lx]) rfl ⟨_, rfl, ⟨.inl ⟨rfl, rfl⟩⟩, hS⟩
  · go_enter Ybaz.func29, Ybaz.ntmps29
    go_wp2
    generalize hW : World.alloc (World.alloc (World.alloc w _) _) _ = W at hS hB ⊢
    have x0 := cellOf (o := 0) hB
    have x1 := cellOf (o := 1) hB
    have lx := sizeOf_block hB
    simp only [List.getElem?_toArray] at x0 x1
    exact bodyPost_ret (v := .agg #[.bool true, .slice none 0 0]) (by simp [results, Ybaz.results29, go_sem, x0, x1, lx]) rfl ⟨_, rfl, ⟨.inl ⟨rfl, rfl⟩⟩, hS⟩

theorem info27 : (Ybaz.prog.info? 27).map (fun i => (i.zero, i.size, i.bytes)) = some (some (.pointer none), 1, 8) := by kernel_rfl
def gC (b : Nat) : List Value := [.pointer (some ⟨b, 0, none⟩)]
theorem g_one (b : Nat) : ∀ u ∈ gC b, u.oneCell' = true := by
  intro u hu
  simp [gC] at hu
  subst hu
  rfl
/-- The union's result is laid in block rb. -/
theorem or_end {gb s : Nat} {w W0 : World} {rb q cap : Nat} {cs : Array Value} (hS : Since w W0) (hr : w.heap.size ≤ rb) (hq : W0.heap[q]? = some (.cells cs 27)) (hc : 1 ≤ cap) (hm : cap ≤ maxLen) (h0 : cs[0]? = some (.pointer (some ⟨gb, 0, none⟩))) (hne : rb ≠ q) :
    RuleV ((W0.setCell ⟨rb, 0, none⟩ (.bool false)).setCell ⟨rb, 1, none⟩ (.slice (some ⟨q, 0, none⟩) 1 cap)) gb 1 (.agg #[.bool false, .slice (some ⟨q, 0, none⟩) 1 cap]) ∧ Since w ((W0.setCell ⟨rb, 0, none⟩ (.bool false)).setCell ⟨rb, 1, none⟩ (.slice (some ⟨q, 0, none⟩) 1 cap)) :=
  ⟨⟨.inr (.inr ⟨rfl, q, cap, cs, rfl, hc, hm, by rw [setFar (Ne.symm hne), setFar (Ne.symm hne)]; exact hq, h0⟩)⟩, (hS.set hr).set hr⟩
set_option maxRecDepth 100000 in
set_option maxHeartbeats 2000000 in
theorem or_gg (gb q q2 cap cap2 : Nat) (cs cs2 : Array Value) (w : World) (hc : 1 ≤ cap) (hm : cap ≤ maxLen) (hc2 : 1 ≤ cap2) (hm2 : cap2 ≤ maxLen) (hq : w.heap[q]? = some (.cells cs 27)) (h0 : cs[0]? = some (.pointer (some ⟨gb, 0, none⟩))) (hq2 : w.heap[q2]? = some (.cells cs2 27)) (h02 : cs2[0]? = some (.pointer (some ⟨gb, 0, none⟩))) :
    Calls Ybaz.prog 29 #[.agg #[.bool false, .slice (some ⟨q, 0, none⟩) 1 cap], .agg #[.bool false, .slice (some ⟨q2, 0, none⟩) 1 cap2]] w fun r w' => ∃ v, r = .returned v ∧ RuleV w' gb 1 v ∧ Since w w' := by
  have HC := Hid.mk hc
  have HM := Hid.mk hm
  unfold maxLen at hm hm2
  go_enter Ybaz.func29, Ybaz.ntmps29
  go_wp2_with fail
  refine (clipG q cap _ HC.out HM.out).mono ?_
  rintro r1 w1 ⟨rfl, rfl⟩
  go_wp2_with fail
  have hS0 : Since w (((w.alloc (.cells #[.bool false, .slice (some ⟨q, 0, none⟩) 1 cap] 65)).alloc (.cells #[.bool false, .slice (some ⟨q2, 0, none⟩) 1 cap2] 65)).alloc (.cells #[.bool false, .slice none 0 0] 65)) := (Since.new _ _).then ((Since.new _ _).then (Since.new w _))
  have hB0 := newBlock ((w.alloc (.cells #[.bool false, .slice (some ⟨q, 0, none⟩) 1 cap] 65)).alloc (.cells #[.bool false, .slice (some ⟨q2, 0, none⟩) 1 cap2] 65)) (.cells #[.bool false, .slice none 0 0] 65)
  rw [show ((w.alloc (.cells #[.bool false, .slice (some ⟨q, 0, none⟩) 1 cap] 65)).alloc (.cells #[.bool false, .slice (some ⟨q2, 0, none⟩) 1 cap2] 65)).heap.size = w.heap.size + 1 + 1 by simp] at hB0
  obtain ⟨rb, hrb⟩ : ∃ rb, rb = w.heap.size + 1 + 1 := ⟨_, rfl⟩
  have hrl : w.heap.size ≤ rb := by omega
  have hne : rb ≠ q := by have := sizeOf_block hq; omega
  rw [← hrb] at hB0 ⊢
  generalize hW0 : World.alloc (World.alloc (World.alloc w _) _) _ = W0 at hS0 hB0 ⊢
  clear hW0 hrb
  have x0 : W0.cell? ⟨q, 0, none⟩ = some (.pointer (some ⟨gb, 0, none⟩)) := (cellOf (hS0.keep hq)).trans h0
  have y0 : W0.cell? ⟨q2, 0, none⟩ = some (.pointer (some ⟨gb, 0, none⟩)) := (cellOf (hS0.keep hq2)).trans h02
  have lq := sizeOf_block (hS0.keep hq)
  have lq2 := sizeOf_block (hS0.keep hq2)
  have HE := Hid.mk (or_end (gb := gb) (s := 1) (cap := 1) hS0 hrl (hS0.keep hq) (Nat.le_refl _) (by unfold maxLen; omega) h0 hne)
  clear hq h0 hq2 h02
  go_loop [5, 21] (fun gv iv => gv = .slice (some ⟨q, 0, none⟩) 1 1 ∧ (iv = .int .i64 0 ∨ iv = .int .i64 1)) (fun _ iv => 1 - (intOf iv).toNat)
  case atStart => exact ⟨rfl, .inl rfl⟩
  case round =>
    obtain ⟨rfl, rfl | rfl⟩ := hrel
    · go_wp2_with fail
      refine (containsG gb q _ x0).mono ?_
      rintro r2 w2 ⟨rfl, rfl⟩
      go_wp2
      go_round
      case rel => exact ⟨rfl, .inr (by go_num)⟩
      case measure => simp [intOf]
    · have b0 := cellOf (o := 0) hB0
      have b1 := cellOf (o := 1) hB0
      have zb0 := frozenOf (o := 0) hB0
      have zb1 := frozenOf (o := 1) hB0
      have lb := sizeOf_block hB0
      simp only [List.getElem?_toArray] at b0 b1
      have hB3 := setOf (o := 1) (v := .slice (some ⟨q, 0, none⟩) 1 1) (setOf (o := 0) (v := .bool false) hB0)
      clear x0 y0 lq lq2
      go_wp2
      obtain ⟨he1, he2⟩ := HE.out
      generalize hW : World.setCell (World.setCell W0 _ _) _ _ = W at he1 he2 hB3 ⊢
      have z0 : W.cell? ⟨rb, 0, none⟩ = some (.bool false) := cellOf hB3
      have z1 : W.cell? ⟨rb, 1, none⟩ = some (.slice (some ⟨q, 0, none⟩) 1 1) := cellOf hB3
      have lz := sizeOf_block hB3
      exact bodyPost_ret (v := .agg #[.bool false, .slice (some ⟨q, 0, none⟩) 1 1]) (by simp [results, Ybaz.results29, go_sem, z0, z1, lz]) rfl ⟨_, rfl, he1, he2⟩

set_option maxRecDepth 100000 in
set_option maxHeartbeats 2000000 in
theorem or_zg (gb q2 cap2 : Nat) (cs2 : Array Value) (w : World) (hc2 : 1 ≤ cap2) (hm2 : cap2 ≤ maxLen) (hq2 : w.heap[q2]? = some (.cells cs2 27)) (h02 : cs2[0]? = some (.pointer (some ⟨gb, 0, none⟩))) :
    Calls Ybaz.prog 29 #[.agg #[.bool false, .slice none 0 0], .agg #[.bool false, .slice (some ⟨q2, 0, none⟩) 1 cap2]] w fun r w' => ∃ v, r = .returned v ∧ RuleV w' gb 1 v ∧ Since w w' := by
  have y0 : w.cell? ⟨q2, 0, none⟩ = some (.pointer (some ⟨gb, 0, none⟩)) := (cellOf hq2).trans h02
  obtain ⟨i27, hi27, hz27, hs27, hy27⟩ := info_parts info27
  unfold maxLen at hm2
  clear hq2 h02
  go_enter Ybaz.func29, Ybaz.ntmps29
  go_wp2_with fail
  refine (clipG_nil _).mono ?_
  rintro r1 w1 ⟨rfl, rfl⟩
  go_wp2_with fail
  have hS0 : Since w (((w.alloc (.cells #[.bool false, .slice none 0 0] 65)).alloc (.cells #[.bool false, .slice (some ⟨q2, 0, none⟩) 1 cap2] 65)).alloc (.cells #[.bool false, .slice none 0 0] 65)) := (Since.new _ _).then ((Since.new _ _).then (Since.new w _))
  have hB0 := newBlock ((w.alloc (.cells #[.bool false, .slice none 0 0] 65)).alloc (.cells #[.bool false, .slice (some ⟨q2, 0, none⟩) 1 cap2] 65)) (.cells #[.bool false, .slice none 0 0] 65)
  rw [show ((w.alloc (.cells #[.bool false, .slice none 0 0] 65)).alloc (.cells #[.bool false, .slice (some ⟨q2, 0, none⟩) 1 cap2] 65)).heap.size = w.heap.size + 1 + 1 by simp] at hB0
  obtain ⟨rb, hrb⟩ : ∃ rb, rb = w.heap.size + 1 + 1 := ⟨_, rfl⟩
  have hrl : w.heap.size ≤ rb := by omega
  rw [← hrb] at hB0 ⊢
  generalize hW0 : World.alloc (World.alloc (World.alloc w _) _) _ = W0 at hS0 hB0 ⊢
  clear hW0 hrb
  have y1 := hS0.cell y0
  have ly1 := sizeOf_cell y1
  simp only at ly1
  clear y0
  go_loopw [5, 21] (fun gv iv wr => (gv = .slice none 0 0 ∧ iv = .int .i64 0 ∧ W0 = wr) ∨ (∃ g1 cap1 cs1, gv = .slice (some ⟨g1, 0, none⟩) 1 cap1 ∧ iv = .int .i64 1 ∧ Since W0 wr ∧ 1 ≤ cap1 ∧ cap1 ≤ maxLen ∧ wr.heap[g1]? = some (.cells cs1 27) ∧ cs1[0]? = some (.pointer (some ⟨gb, 0, none⟩)) ∧ rb ≠ g1)) (fun _ iv _ => 1 - (intOf iv).toNat)
  case atStart => exact .inl ⟨rfl, rfl, rfl⟩
  case round =>
    rcases hrel with ⟨rfl, rfl, rfl⟩ | ⟨g1, cap1, cs1, rfl, rfl, hS, hc1, hm1, hg1, h01, hne⟩
    · go_wp2_with fail
      refine (containsG_nil gb _).mono ?_
      rintro r2 w2 ⟨rfl, rfl⟩
      go_wp2_with (first | (at_builtin; refine listApp rfl _ _ 63 rfl W0.heap.size 27 i27 _ 1 8 Ybaz.underlying63 hi27 hz27 hs27 hy27 rfl (by decide) (.slice none 0 0) 0 [] rfl (RowL.own (RowL.nil (α := Nat) _ _ _ _ gC)) ⟨W0.heap.size, 0, none⟩ 1 1 (gC gb) rfl rfl (newsAt (newBlock _ _)) (g_one _) (by unfold maxLen; omega) (by omega) (Since.size (Since.new _ _)) (by omega) ?_; intro g1 cap1 w8 hbg hown hgr hloc))
      have hS8 : Since W0 w8 := (Since.new _ _).grown hgr (fun b hb => by cases hb)
      obtain ⟨cs1, hg8, hc8, hm8, h08⟩ : ∃ cs1, w8.heap[g1]? = some (.cells cs1 27) ∧ 1 ≤ cap1 ∧ cap1 ≤ maxLen ∧ cs1[0]? = some (.pointer (some ⟨gb, 0, none⟩)) := by
        rcases hown.2 with ⟨h, _⟩ | ⟨g', cap', cur, hv, _, hg', h1, h2, h3, h4⟩
        · cases h
        · simp at hv
          obtain ⟨rfl, rfl⟩ := hv
          refine ⟨cur, hg', by omega, h2, ?_⟩
          have := congrArg (fun l => l[0]?) h4
          simpa [gC, List.getElem?_take] using this
      have hne : rb ≠ g1 := by have := sizeOf_block hB0; omega
      clear hown hgr hloc hbg
      go_wp2
      go_roundw
      case rel => exact .inr ⟨g1, cap1, cs1, rfl, by go_num, hS8, hc8, hm8, hg8, h08, hne⟩
      case measure => simp [intOf]
    · have hBr := hS.keep hB0
      have HE := Hid.mk (or_end (gb := gb) (s := 1) (hS.then hS0) hrl hg1 hc1 hm1 h01 hne)
      have b0 := cellOf (o := 0) hBr
      have b1 := cellOf (o := 1) hBr
      have zb0 := frozenOf (o := 0) hBr
      have zb1 := frozenOf (o := 1) hBr
      have lb := sizeOf_block hBr
      simp only [List.getElem?_toArray] at b0 b1
      have hB3 := setOf (o := 1) (v := .slice (some ⟨g1, 0, none⟩) 1 cap1) (setOf (o := 0) (v := .bool false) hBr)
      clear y1 ly1 hg1 h01 hS hBr hB0
      go_wp2
      obtain ⟨he1, he2⟩ := HE.out
      generalize hW : World.setCell (World.setCell wr _ _) _ _ = W at he1 he2 hB3 ⊢
      have z0 : W.cell? ⟨rb, 0, none⟩ = some (.bool false) := cellOf hB3
      have z1 : W.cell? ⟨rb, 1, none⟩ = some (.slice (some ⟨g1, 0, none⟩) 1 cap1) := cellOf hB3
      have lz := sizeOf_block hB3
      exact bodyPost_ret (v := .agg #[.bool false, .slice (some ⟨g1, 0, none⟩) 1 cap1]) (by simp [results, Ybaz.results29, go_sem, z0, z1, lz]) rfl ⟨_, rfl, he1, he2⟩

/-- The union of a rule, or of none, with a rule. -/
theorem or_any (gb s t : Nat) (v u : Value) (w : World) (hv : RuleV w gb s v) (hu : RuleV w gb t u) (ht : t ≠ 0) :
    Calls Ybaz.prog 29 #[v, u] w fun r w' => ∃ x, r = .returned x ∧ RuleV w' gb (max s t) x ∧ Since w w' := by
  rcases hu.ex with ⟨rfl, rfl⟩ | ⟨rfl, rfl⟩ | ⟨rfl, q2, cap2, cs2, rfl, d1, d2, d3, d4⟩
  · have hm : max s 2 = 2 := by have := hv.le; omega
    rw [hm]
    rcases hv.ex with ⟨rfl, rfl⟩ | ⟨rfl, rfl⟩ | ⟨rfl, q, cap, cs, rfl, _⟩ <;> exact or_alw gb _ true _ _ _ _ _ _ w (by simp)
  · exact absurd rfl ht
  · rcases hv.ex with ⟨rfl, rfl⟩ | ⟨rfl, rfl⟩ | ⟨rfl, q, cap, cs, rfl, e1, e2, e3, e4⟩
    · exact or_alw gb true false _ _ _ _ _ _ w rfl
    · exact or_zg gb q2 cap2 cs2 w d1 d2 d3 d4
    · exact or_gg gb q q2 cap cap2 cs cs2 w e1 e2 d1 d2 e3 e4 d3 d4
end Go.Proofs.YbulkcvxmGreatFmt
