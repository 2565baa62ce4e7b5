/- Every code of another set is added (17). -/
import Derived.Test.YbulkcvxmFmtGrant
import Derived.Maps.RangeWalk
set_option linter.unusedSimpArgs false
set_option linter.unusedVariables false
namespace Go.Proofs.YbulkcvxmFmt
open Go.RowKit Go.Maps Go.WideMaps

/-- A range over a permission map: cnt entries are still to come. -/
structure RG (w : World) (b r cnt : Nat) : Prop where
  ex : ∃ D left, w.ranges Ybaf.prog 9 heldE b r 4 D left cnt ∧ (∀ k, has D k = true → k ∈ KS) ∧ (∀ k, has D k = true → ∀ z, D.atKey k z = .held rT) ∧ ∀ k, left k = true → has D k = true
section
variable {w w' : World} {b r cnt : Nat}
theorem RG.left_eq (h : RG w b r cnt) : w.rangeLeft b r = cnt := by obtain ⟨D, left, h1, _⟩ := h.ex; exact h1.left_eq
theorem RG.keep (h : RG w b r cnt) (hb : w'.heap[b]? = w.heap[b]?) (hr : w'.heap[r]? = w.heap[r]?) : RG w' b r cnt := by
  obtain ⟨D, left, ⟨es, clock, since, seen, c0, a1, a2, a3, a4, a5, rest⟩, h2⟩ := h.ex
  exact ⟨D, left, ⟨es, clock, since, seen, c0, hb.trans a1, a2, a3, a4, hr.trans a5, rest⟩, h2⟩
theorem RG.lt (h : RG w b r cnt) : b < w.heap.size ∧ r < w.heap.size := by obtain ⟨D, left, h1, _⟩ := h.ex; exact ⟨h1.owns.lt, h1.lt⟩
theorem RG.iter (h : RG w b r cnt) : ∃ x y z, w.heap[r]? = some (.mapIter (some b) x y z) := by
  obtain ⟨D, left, ⟨es, clock, since, seen, c0, a1, a2, a3, a4, a5, rest⟩, h2⟩ := h.ex
  exact ⟨since, seen, c0, a5⟩

theorem listRange {ops : Array Oper} {rest : List Oper} {o : Oper} {a : Act} {Q : Exit → Act → World → Prop} (hg : o.guard = none) (m : Operand) (hop : o.op = Op.range 44 m) (hm : a.eval m = .map (some b)) (h : PM w b)
    (hK : ∀ w' cnt, RG w' b w.heap.size cnt → w.grownBy w' none → w'.heap.size = w.heap.size + 1 → wpList Ybaf.prog ops Q rest (a.put o.dst (.pointer (some ⟨w.heap.size, 0, none⟩))) w') : wpList Ybaf.prog ops Q (o :: rest) a w := by
  obtain ⟨D, h1, h2, h3, h4⟩ := h.ex
  exact wpList_range_own w hg m 44 hop 9 84 (string_keyed und9) Ybaf.underlying44 heldE b 4 D hm h1 (fun w' r1 r2 r3 => hK w' _ ⟨D, _, r1, h2, h4, fun k hk => hk⟩ r2 r3)
theorem listNext {ops : Array Oper} {rest : List Oper} {o : Oper} {a : Act} {Q : Exit → Act → World → Prop} (hg : o.guard = none) (it : Operand) (hop : o.op = Op.next it false) (hit : a.eval it = .pointer (some ⟨r, 0, none⟩)) (h : RG w b r cnt)
    (hDone : wpList Ybaf.prog ops Q rest (a.put o.dst (.tuple #[.bool false])) w)
    (hMore : ∀ (s : ByteArray) (w' : World) (cnt' : Nat), IsK s → RG w' b r cnt' → cnt' < cnt → w.grownBy w' (some r) → w'.heap.size = w.heap.size → (Instr.entry (.pointer (some ⟨r, 0, none⟩))).run Ybaf.prog w' = .ok (.tuple #[.string s, .agg #[.bool true, .slice none 0 0]]) w' →
      wpList Ybaf.prog ops Q rest (a.put o.dst (.tuple #[.bool true, .string s, .agg #[.bool true, .slice none 0 0]])) w') : wpList Ybaf.prog ops Q (o :: rest) a w := by
  obtain ⟨D, left, h1, h2, h3, h4⟩ := h.ex
  refine wpList_next_ranges w hg it hop 9 (string_keyed und9) heldE (Value.string) (fun v : Value => v) (fun key kl hk => ?_) (fun v y _ => ⟨v, rfl⟩) b r 4 D left cnt hit h1 (fun _ _ => hDone) (fun s c kl y w' cnt' hkey hlk hv hat hrg hlt hgr hsz hen => ?_)
  · obtain ⟨s, rfl, _⟩ := string_of_keyOf und9 hk
    exact ⟨s, rfl⟩
  · have hh := h4 kl hlk
    obtain ⟨s', e, ekl, _⟩ := string_of_keyOf und9 hkey
    cases e
    have hc : c = .agg #[.bool true, .slice none 0 0] := by
      have e1 := hat .nil
      rw [h3 kl hh] at e1
      simp [heldE] at hv
      rw [← hv] at e1
      simp at e1
      exact e1.symm
    subst hc
    refine hMore s w' cnt' ⟨by rw [← ekl]; exact h2 kl hh⟩ ⟨D, _, hrg, h2, h3, fun k hk => h4 k ?_⟩ hlt hgr hsz hen
    simp at hk
    exact hk.1
end

/-- What stays in place while the other set is added. -/
structure Lp (w wr : World) (pe pp qe qp bx : Nat) : Prop where
  bt : Bt pe pp w wr
  x : wr.heap[bx]? = some (.cells #[.map (some pe), .map (some pp)] 46)
  y : wr.heap[bx + 1]? = some (.cells #[.map (some qe), .map (some qp)] 46)
  l : w.heap.size ≤ bx

section
variable {w wr w' : World} {pe pp qe qp bx r : Nat}
theorem Lp.since (h : Lp w wr pe pp qe qp bx) (hs : Since wr w') : Lp w w' pe pp qe qp bx := ⟨h.bt.since hs, hs.keep h.x, hs.keep h.y, h.l⟩
theorem Lp.bt2 (h : Lp w wr pe pp qe qp bx) (hb : Bt pe pp wr w') (n1 : pe < w.heap.size) (n2 : pp < w.heap.size) : Lp w w' pe pp qe qp bx := by
  have := h.l
  exact ⟨h.bt.trans hb, hb.keep h.x (by omega) (by omega), hb.keep h.y (by omega) (by omega), h.l⟩
theorem Lp.iter (h : Lp w wr pe pp qe qp bx) (hg : wr.grownBy w' (some r)) (hr : bx + 2 ≤ r) (n1 : pe < w.heap.size) (n2 : pp < w.heap.size) : Lp w w' pe pp qe qp bx := by
  have hl := h.l
  refine ⟨⟨hg.os.trans h.bt.os, hg.tape.trans h.bt.tape, hg.output.trans h.bt.output, Nat.le_trans h.bt.size hg.size, fun i hi a1 a2 => (hg.block i (Nat.lt_of_lt_of_le hi h.bt.size) (by simp; omega)).trans (h.bt.block i hi a1 a2), h.bt.pe.keep (hg.block pe h.bt.pe.lt (by simp; omega)), h.bt.pp.keep (hg.block pp h.bt.pp.lt (by simp; omega))⟩, ?_, ?_, hl⟩
  · rw [hg.block bx (sizeOf_block h.x) (by simp; omega)]; exact h.x
  · rw [hg.block (bx + 1) (sizeOf_block h.y) (by simp; omega)]; exact h.y
end

set_option maxRecDepth 100000 in
set_option maxHeartbeats 4000000 in
theorem addAll_any (pe pp qe qp : Nat) (w : World) (h1 : PM w pe) (h2 : PM w pp) (h3 : PM w qe) (h4 : PM w qp) (d1 : qe ≠ pe) (d2 : qe ≠ pp) (d3 : qp ≠ pe) (d4 : qp ≠ pp) :
    Calls Ybaf.prog 17 #[.agg #[.map (some pe), .map (some pp)], .agg #[.map (some qe), .map (some qp)]] w fun r w' => r = .returned (.tuple #[]) ∧ Bt pe pp w w' := by
  have hS0 := (Since.new (w.alloc (.cells #[.map (some pe), .map (some pp)] 46)) (.cells #[.map (some qe), .map (some qp)] 46)).then (Since.new w (.cells #[.map (some pe), .map (some pp)] 46))
  have hX := (Since.new (w.alloc (.cells #[.map (some pe), .map (some pp)] 46)) (.cells #[.map (some qe), .map (some qp)] 46)).keep (newBlock w (.cells #[.map (some pe), .map (some pp)] 46))
  have hY := newBlock (w.alloc (.cells #[.map (some pe), .map (some pp)] 46)) (.cells #[.map (some qe), .map (some qp)] 46)
  rw [show (w.alloc (.cells #[.map (some pe), .map (some pp)] 46)).heap.size = w.heap.size + 1 by simp] at hY
  have hL0 : Lp w ((w.alloc (.cells #[.map (some pe), .map (some pp)] 46)).alloc (.cells #[.map (some qe), .map (some qp)] 46)) pe pp qe qp w.heap.size := ⟨(Bt.refl h1 h2).since hS0, hX, hY, Nat.le_refl _⟩
  have hq := h3.since hS0
  have lpe := h1.lt
  have lpp := h2.lt
  have lqe := h3.lt
  have lqp := h4.lt
  go_enter Ybaf.func17, Ybaf.ntmps17
  go_wp2_with (first | (at_range; refine listRange rfl _ rfl rfl hq ?_; intro w1 cnt1 hrg1 hg1 hs1))
  have hSg := (Since.refl _).grown hg1 (fun b hb => by cases hb)
  have hL1 := hL0.since hSg
  obtain ⟨r, hr⟩ : ∃ r, r = ((w.alloc (.cells #[.map (some pe), .map (some pp)] 46)).alloc (.cells #[.map (some qe), .map (some qp)] 46)).heap.size := ⟨_, rfl⟩
  obtain ⟨bx, hbx⟩ : ∃ bx, bx = w.heap.size := ⟨_, rfl⟩
  have hr2 : bx + 2 ≤ r := by rw [hr, hbx]; simp
  rw [← hr] at hrg1 ⊢
  rw [← hbx] at hL1 ⊢
  clear hr hbx hSg hg1 hs1 hL0 hq hS0 hX hY
  go_frame
  go_loopw [4] (fun _ wr => ∃ cnt, RG wr qe r cnt ∧ Lp w wr pe pp qe qp bx) (fun _ wr => wr.rangeLeft qe r)
  case atStart => exact ⟨_, hrg1, hL1⟩
  case round =>
    clear hrg1 hL1
    obtain ⟨cnt, hrg, hL⟩ := hrel
    have yq : wr.cell? ⟨bx + 1, 1, none⟩ = some (.map (some qp)) := cellOf hL.y
    have lyq := sizeOf_block hL.y
    have hq2 : PM wr qp := h4.keep (hL.bt.block qp lqp d3 d4)
    go_wp2_with (first | (at_next; refine listNext rfl _ rfl rfl hrg ?_ ?_) | (at_range; refine listRange rfl _ rfl rfl hq2 ?_; intro w1 cnt1 hrg1 hg1 hs1))
    · have hSg := (Since.refl _).grown hg1 (fun b hb => by cases hb)
      have hL1 := hL.since hSg
      have hlr := hrg.lt
      obtain ⟨W1, rfl⟩ : ∃ W1, W1 = wr := ⟨_, rfl⟩
      obtain ⟨r0, hr0⟩ : ∃ r0, r0 = r := ⟨_, rfl⟩
      obtain ⟨r, hr⟩ : ∃ r, r = W1.heap.size := ⟨_, rfl⟩
      rw [← hr] at hrg1 ⊢
      rw [← hr0]
      have hr2 : bx + 2 ≤ r := by omega
      clear hr hSg hg1 hs1 hq2 hrg hL yq lyq hlr hr0
      go_frame
      go_loopw [6] (fun _ wr => ∃ cnt, RG wr qp r cnt ∧ Lp w wr pe pp qe qp bx) (fun _ wr => wr.rangeLeft qp r)
      case atStart => exact ⟨_, hrg1, hL1⟩
      case round =>
        clear hrg1 hL1
        obtain ⟨cnt, hrg, hL⟩ := hrel
        go_wp2_with (first | (at_next; refine listNext rfl _ rfl rfl hrg ?_ ?_))
        · skip
          have hf := hL.bt
          clear hrg hL
          go_wp2
          go_end0
          exact ⟨rfl, hf⟩
        · intro s w2 cnt5 hsK hrg2 hlt5 hg2 hs2 hen
          have hL2 := hL.iter hg2 hr2 lpe lpp
          have HLT := Hid.mk hlt5
          have HRG := Hid.mk hrg
          clear hg2 hs2 hlt5 hrg hL
          go_wp2_with fail
          have hSb := Since.new w2 (.cells #[.bool true, .slice none 0 0] 84)
          have hBb := newBlock w2 (.cells #[.bool true, .slice none 0 0] 84)
          have hL3 := hL2.since hSb
          have hrg3 := hrg2.keep (hSb.out.block _ hrg2.lt.1) (hSb.out.block _ hrg2.lt.2)
          obtain ⟨tb, htb⟩ : ∃ tb, tb = w2.heap.size := ⟨_, rfl⟩
          have htl : w.heap.size ≤ tb := by have := hL2.bt.size; omega
          rw [← htb] at hBb ⊢
          generalize hW3 : w2.alloc (.cells #[.bool true, .slice none 0 0] 84) = W3 at *
          clear hW3 htb hSb hen hL2 hrg2
          have hbl := hL3.l
          have hb1 : Bt pe pp W3 W3 := Bt.refl hL3.bt.pe hL3.bt.pp
          have x0 : ∀ w'', Bt pe pp W3 w'' → w''.cell? ⟨bx, 1, none⟩ = some (.map (some pp)) := fun w'' h => cellOf (h.keep hL3.x (by omega) (by omega))
          have y0 : ∀ w'', Bt pe pp W3 w'' → w''.cell? ⟨tb, 0, none⟩ = some (.bool true) := fun w'' h => cellOf (h.keep hBb (by omega) (by omega))
          have y1 : ∀ w'', Bt pe pp W3 w'' → w''.cell? ⟨tb, 1, none⟩ = some (.slice none 0 0) := fun w'' h => cellOf (h.keep hBb (by omega) (by omega))
          have hlk : ∀ w'', Bt pe pp W3 w'' → (Instr.lookup 44 (.map (some pp)) (.string s) false).run Ybaf.prog w'' = .ok (.agg #[.bool (lookB w'' pp s), .slice none 0 0]) w'' := fun w'' h => h.pp.run_look hsK
          have hst : ∀ w'', Bt pe pp W3 w'' → (Instr.mapUpdate 44 (.map (some pp)) (.string s) (.agg #[.bool true, .slice none 0 0])).run Ybaf.prog w'' = .ok () (updW w'' pp s) := fun w'' h => (h.pp.run_store hsK).1
          go_region_held3 (fun w'' => Bt pe pp W3 w'') (first | exact Bt.since hb1 Since.dr | exact Bt.since (by assumption) hc2 | exact Bt.upd (by assumption) (by simp) hsK | assumption) (first | (go_at_call 28; refine (or_always _ _).mono ?_; rintro r3 w3 ⟨rfl, hc2⟩))
          all_goals
            have hbu : Bt pe pp W3 (updW w3 pp s) := by assumption
            have hL4 := hL3.bt2 hbu lpe lpp
            have hlr := hrg3.lt
            have hrg4 := hrg3.keep (hbu.block _ hlr.1 d3 d4) (hbu.block _ hlr.2 (by omega) (by omega))
            generalize hW5 : updW w3 pp s = W5 at *
            clear hW5 hbu hst hlk x0 y0 y1 hb1 hL3 hrg3 hc2 hBb
            go_wp2
            go_roundw
            case rel => exact ⟨cnt5, hrg4, hL4⟩
            case measure => rw [hrg4.left_eq, HRG.out.left_eq]; exact HLT.out
    · clear hq2 yq lyq
      intro s w2 cnt2 hsK hrg2 hlt2 hg2 hs2 hen
      have hL2 := hL.iter hg2 hr2 lpe lpp
      have HLT := Hid.mk hlt2
      have HRG := Hid.mk hrg
      clear hg2 hs2 hlt2 hrg hL
      go_wp2_with fail
      have hSb := Since.new w2 (.cells #[.bool true, .slice none 0 0] 84)
      have hBb := newBlock w2 (.cells #[.bool true, .slice none 0 0] 84)
      have hL3 := hL2.since hSb
      have hrg3 := hrg2.keep (hSb.out.block _ hrg2.lt.1) (hSb.out.block _ hrg2.lt.2)
      obtain ⟨tb, htb⟩ : ∃ tb, tb = w2.heap.size := ⟨_, rfl⟩
      have htl : w.heap.size ≤ tb := by have := hL2.bt.size; omega
      rw [← htb] at hBb ⊢
      generalize hW3 : w2.alloc (.cells #[.bool true, .slice none 0 0] 84) = W3 at *
      clear hW3 htb hSb hen hL2 hrg2
      have hbl := hL3.l
      have hb1 : Bt pe pp W3 W3 := Bt.refl hL3.bt.pe hL3.bt.pp
      have x0 : ∀ w'', Bt pe pp W3 w'' → w''.cell? ⟨bx, 0, none⟩ = some (.map (some pe)) := fun w'' h => cellOf (h.keep hL3.x (by omega) (by omega))
      have y0 : ∀ w'', Bt pe pp W3 w'' → w''.cell? ⟨tb, 0, none⟩ = some (.bool true) := fun w'' h => cellOf (h.keep hBb (by omega) (by omega))
      have y1 : ∀ w'', Bt pe pp W3 w'' → w''.cell? ⟨tb, 1, none⟩ = some (.slice none 0 0) := fun w'' h => cellOf (h.keep hBb (by omega) (by omega))
      have hlk : ∀ w'', Bt pe pp W3 w'' → (Instr.lookup 44 (.map (some pe)) (.string s) false).run Ybaf.prog w'' = .ok (.agg #[.bool (lookB w'' pe s), .slice none 0 0]) w'' := fun w'' h => h.pe.run_look hsK
      have hst : ∀ w'', Bt pe pp W3 w'' → (Instr.mapUpdate 44 (.map (some pe)) (.string s) (.agg #[.bool true, .slice none 0 0])).run Ybaf.prog w'' = .ok () (updW w'' pe s) := fun w'' h => (h.pe.run_store hsK).1
      go_region_held3 (fun w'' => Bt pe pp W3 w'') (first | exact Bt.since hb1 Since.dr | exact Bt.since (by assumption) hc2 | exact Bt.upd (by assumption) (by simp) hsK | assumption) (first | (go_at_call 28; refine (or_always _ _).mono ?_; rintro r3 w3 ⟨rfl, hc2⟩))
      all_goals
        have hbu : Bt pe pp W3 (updW w3 pe s) := by assumption
        have hL4 := hL3.bt2 hbu lpe lpp
        have hlr := hrg3.lt
        have hrg4 := hrg3.keep (hbu.block _ hlr.1 d1 d2) (hbu.block _ hlr.2 (by omega) (by omega))
        generalize hW5 : updW w3 pe s = W5 at *
        clear hW5 hbu hst hlk x0 y0 y1 hb1 hL3 hrg3 hc2 hBb
        go_wp2
        go_roundw
        case rel => exact ⟨cnt2, hrg4, hL4⟩
        case measure => rw [hrg4.left_eq, HRG.out.left_eq]; exact HLT.out
end Go.Proofs.YbulkcvxmFmt
