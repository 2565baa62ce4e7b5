/- Every rule of another set is added (17). -/
import Derived.Test.YbulkcvxmGreatFmtGrant
import Derived.Maps.RangeWalk
set_option linter.unusedSimpArgs false
set_option linter.unusedVariables false
namespace Go.Proofs.YbulkcvxmGreatFmt
open Go.RowKit Go.Maps Go.WideMaps

theorem RuleV.form {w : World} {gb s : Nat} {v : Value} (h : RuleV w gb s v) : ∃ x a n c, v = .agg #[.bool x, .slice a n c] := by
  rcases h.ex with ⟨_, rfl⟩ | ⟨_, rfl⟩ | ⟨_, q, cap, cs, rfl, _⟩ <;> exact ⟨_, _, _, _, rfl⟩
theorem kL_same {i j : Nat} (hi : i < 4) (hj : j < 4) : (kL i).sameKey (kL j) = decide (i = j) := by
  rcases (by omega : i = 0 ∨ i = 1 ∨ i = 2 ∨ i = 3) with rfl | rfl | rfl | rfl <;> rcases (by omega : j = 0 ∨ j = 1 ∨ j = 2 ∨ j = 3) with rfl | rfl | rfl | rfl <;> rfl
theorem keyB_of {s : ByteArray} {i : Nat} (h : Lit.string s.data.toList = kL i) : s = keyB i := by
  unfold kL at h
  simp at h
  have h3 : s.data = (keyB i).data := by
    apply Array.toList_inj.1
    simpa using h
  cases hA : s; cases hB : keyB i
  rw [hA, hB] at h3
  simp only at h3
  rw [h3]
/-- A range over a permission map: the keys of lf are still to come. -/
structure RG (w : World) (b r gb : Nat) (C : Nat → Nat) (lf : Nat → Bool) (cnt : Nat) : Prop where
  ex : ∃ D left, w.ranges Ybaz.prog 9 heldE b r 4 D left cnt ∧ (∀ k, has D k = true → k ∈ KS) ∧ (∀ i, i < 4 → C i ≠ 0 → ∃ v, RuleV w gb (C i) v ∧ ∀ z, D.atKey (kL i) z = .held v) ∧ (∀ k, left k = true → has D k = true) ∧ ∀ i, i < 4 → (left (kL i) = lf i) ∧ (lf i = true → C i ≠ 0)
theorem Kx.iter {Ts Ms : List Nat} {w w' : World} {r : Nat} {x y z u} (hr : w.heap[r]? = some (.mapIter x y z u)) (hg : w.grownBy w' (some r)) : Kx Ts Ms w w' := by
  refine ⟨hg.size, fun i cs T fz hi _ => ?_, fun i es cl hi _ => ?_⟩
  · rw [hg.block i (sizeOf_block hi) (fun e => ?_)]
    · exact hi
    · cases e; rw [hr] at hi; cases hi
  · rw [hg.block i (sizeOf_block hi) (fun e => ?_)]
    · exact hi
    · cases e; rw [hr] at hi; cases hi
section
variable {w w' : World} {b r cnt gb : Nat} {C : Nat → Nat} {lf : Nat → Bool}
theorem RG.left_eq (h : RG w b r gb C lf cnt) : w.rangeLeft b r = cnt := by obtain ⟨D, left, h1, _⟩ := h.ex; exact h1.left_eq
theorem RG.keep {Ts Ms : List Nat} (h : RG w b r gb C lf cnt) (hb : w'.heap[b]? = w.heap[b]?) (hr : w'.heap[r]? = w.heap[r]?) (hk : Kx Ts Ms w w') (hT : 27 ∉ Ts) : RG w' b r gb C lf cnt := by
  obtain ⟨D, left, ⟨es, clock, since, seen, c0, a1, a2, a3, a4, a5, rest⟩, h2, h3, h4⟩ := h.ex
  exact ⟨D, left, ⟨es, clock, since, seen, c0, hb.trans a1, a2, a3, a4, hr.trans a5, rest⟩, h2, fun i hi hC => by
    obtain ⟨v, g1, g2⟩ := h3 i hi hC
    exact ⟨v, g1.kx hk hT, g2⟩, h4⟩
theorem RG.lt (h : RG w b r gb C lf cnt) : b < w.heap.size ∧ r < w.heap.size := by obtain ⟨D, left, h1, _⟩ := h.ex; exact ⟨h1.owns.lt, h1.lt⟩
theorem RG.iter (h : RG w b r gb C lf cnt) : ∃ x y z, w.heap[r]? = some (.mapIter (some b) x y z) := by
  obtain ⟨D, left, ⟨es, clock, since, seen, c0, a1, a2, a3, a4, a5, rest⟩, h2⟩ := h.ex
  exact ⟨since, seen, c0, a5⟩

theorem has_dec {D : DataW Value} {k : Lit} {s : Nat} (h : has D k = true ↔ s ≠ 0) : has D k = decide (s ≠ 0) := by
  cases hq : has D k with
  | true => simp [h.1 hq]
  | false =>
    simp
    exact Classical.byContradiction fun hn => by rw [h.2 hn] at hq; cases hq
theorem listRange {ops : Array Oper} {rest : List Oper} {o : Oper} {a : Act} {Q : Exit → Act → World → Prop} (hg : o.guard = none) (m : Operand) (hop : o.op = Op.range 50 m) (hm : a.eval m = .map (some b)) (h : PM w b gb C)
    (hK : ∀ w' cnt, RG w' b w.heap.size gb C (fun i => decide (C i ≠ 0)) cnt → w.grownBy w' none → w'.heap.size = w.heap.size + 1 → wpList Ybaz.prog ops Q rest (a.put o.dst (.pointer (some ⟨w.heap.size, 0, none⟩))) w') : wpList Ybaz.prog ops Q (o :: rest) a w := by
  obtain ⟨D, h1, h2, h3, h4⟩ := h.ex
  exact wpList_range_own w hg m 50 hop 9 65 (string_keyed und9) Ybaz.underlying50 heldE b 4 D hm h1 (fun w' r1 r2 r3 => hK w' _ ⟨D, _, r1, h2, fun i hi hC => by
    obtain ⟨v, g1, g2⟩ := (h4 i hi).2 hC
    exact ⟨v, g1.since ((Since.refl _).grown r2 (fun b hb => by cases hb)), g2⟩, fun k hk => hk, fun i hi => ⟨has_dec (h4 i hi).1, fun h => by simpa using h⟩⟩ r2 r3)
theorem listNext {ops : Array Oper} {rest : List Oper} {o : Oper} {a : Act} {Q : Exit → Act → World → Prop} (hg : o.guard = none) (it : Operand) (hop : o.op = Op.next it false) (hit : a.eval it = .pointer (some ⟨r, 0, none⟩)) (h : RG w b r gb C lf cnt)
    (hDone : (∀ i, i < 4 → lf i = false) → wpList Ybaz.prog ops Q rest (a.put o.dst (.tuple #[.bool false])) w)
    (hMore : ∀ (i : Nat) (v : Value) (w' : World) (cnt' : Nat), i < 4 → lf i = true → RuleV w' gb (C i) v → RG w' b r gb C (upd lf i false) cnt' → cnt' < cnt → w.grownBy w' (some r) → w'.heap.size = w.heap.size → (Instr.entry (.pointer (some ⟨r, 0, none⟩))).run Ybaz.prog w' = .ok (.tuple #[.string (keyB i), v]) w' →
      wpList Ybaz.prog ops Q rest (a.put o.dst (.tuple #[.bool true, .string (keyB i), v])) w') : wpList Ybaz.prog ops Q (o :: rest) a w := by
  obtain ⟨si, se, c0, hr⟩ := h.iter
  obtain ⟨D, left, h1, h2, h3, h4, h5⟩ := h.ex
  refine wpList_next_ranges w hg it hop 9 (string_keyed und9) heldE (Value.string) (fun v : Value => v) (fun key kl hk => ?_) (fun v y _ => ⟨v, rfl⟩) b r 4 D left cnt hit h1 (fun _ hl => hDone (fun i hi => by rw [← (h5 i hi).1]; exact hl _)) (fun s c kl y w' cnt' hkey hlk hv hat hrg hlt hgr hsz hen => ?_)
  · obtain ⟨s, rfl, _⟩ := string_of_keyOf und9 hk
    exact ⟨s, rfl⟩
  · have hh := h4 kl hlk
    obtain ⟨i, hi, rfl⟩ := mem_KS.1 (h2 kl hh)
    obtain ⟨s', e, ekl, _⟩ := string_of_keyOf und9 hkey
    cases e
    have hs := keyB_of ekl.symm
    subst hs
    have hkx : Kx [] [] w w' := Kx.iter hr hgr
    have hl : lf i = true := by rw [← (h5 i hi).1]; exact hlk
    obtain ⟨v, g1, g2⟩ := h3 i hi ((h5 i hi).2 hl)
    have hc : c = v := by
      have e1 := hat .nil
      rw [g2] at e1
      simp [heldE] at hv
      rw [← hv] at e1
      simp at e1
      exact e1.symm
    subst hc
    refine hMore i c w' cnt' hi hl (g1.kx hkx (by simp)) ⟨D, _, hrg, h2, fun j hj hC => ?_, fun k hk => h4 k ?_, fun j hj => ⟨?_, fun hj' => ?_⟩⟩ hlt hgr hsz hen
    · obtain ⟨v, q1, q2⟩ := h3 j hj hC
      exact ⟨v, q1.kx hkx (by simp), q2⟩
    · simp at hk
      exact hk.1
    · simp only [(h5 j hj).1, kL_same hj hi]
      by_cases e : j = i
      · subst e; rw [upd_same]; simp
      · rw [upd_ne _ _ e]; simp [e]
    · by_cases e : j = i
      · subst e; rw [upd_same] at hj'; cases hj'
      · rw [upd_ne _ _ e] at hj'; exact (h5 j hj).2 hj'
end
/-- What stays in place while the other set is added. -/
structure Lp (w : World) (pe pp qe qp bx gb : Nat) (T : Nat → Nat) (wr : World) : Prop where
  bt : Bt pe pp w wr
  x : wr.heap[bx]? = some (.cells #[.map (some pe), .map (some pp)] 52)
  y : wr.heap[bx + 1]? = some (.cells #[.map (some qe), .map (some qp)] 52)
  l : w.heap.size ≤ bx
  ps : PS wr pe pp gb T
section
variable {w wr w' : World} {pe pp qe qp bx r gb : Nat} {T : Nat → Nat}
theorem Lp.since (h : Lp w pe pp qe qp bx gb T wr) (hs : Since wr w') : Lp w pe pp qe qp bx gb T w' := ⟨h.bt.since hs, hs.keep h.x, hs.keep h.y, h.l, h.ps.since hs⟩
theorem Lp.bt2 (h : Lp w pe pp qe qp bx gb T wr) {T' : Nat → Nat} (hb : Bt pe pp wr w') (hps : PS w' pe pp gb T') (n1 : pe < w.heap.size) (n2 : pp < w.heap.size) : Lp w pe pp qe qp bx gb T' w' := by
  have := h.l
  exact ⟨h.bt.trans hb, hb.keep h.x (by omega) (by omega), hb.keep h.y (by omega) (by omega), h.l, hps⟩
theorem Lp.iter (h : Lp w pe pp qe qp bx gb T wr) {x y z u} (hi : wr.heap[r]? = some (.mapIter x y z u)) (hg : wr.grownBy w' (some r)) (hr : bx + 2 ≤ r) (n1 : pe < w.heap.size) (n2 : pp < w.heap.size) : Lp w pe pp qe qp bx gb T w' := by
  have hl := h.l
  have hk : Kx [] [] wr w' := Kx.iter hi hg
  exact ⟨⟨hg.os.trans h.bt.os, hg.tape.trans h.bt.tape, hg.output.trans h.bt.output, Nat.le_trans h.bt.size hg.size, fun i hi a1 a2 => (hg.block i (Nat.lt_of_lt_of_le hi h.bt.size) (by simp; omega)).trans (h.bt.block i hi a1 a2)⟩, hk.cell _ _ _ _ h.x (by simp), hk.cell _ _ _ _ h.y (by simp), hl, h.ps.kx hk (by simp) (by simp) (by simp)⟩
end
/-- The state while the exact rules, then the rules by prefix, are added. -/
def st1 (A C : Nat → Nat) (lf : Nat → Bool) (i : Nat) : Nat := if i < 2 then (if lf i then A i else max (A i) (C i)) else A i
def st2 (A C : Nat → Nat) (lf : Nat → Bool) (i : Nat) : Nat := if i < 2 then max (A i) (C i) else (if lf i then A i else max (A i) (C i))

theorem st1_start (A C : Nat → Nat) (i : Nat) : st1 A C (fun i => decide (me C i ≠ 0)) i = A i := by
  unfold st1
  by_cases e : i < 2
  · simp only [e, if_true, me]
    by_cases e2 : C i = 0 <;> simp [e2]
  · simp [e]
theorem st1_upd (A C : Nat → Nat) (lf : Nat → Bool) {i : Nat} (hi : i < 2) (hl : lf i = true) (j : Nat) : st1 A C (upd lf i false) j = upd (st1 A C lf) i (max (st1 A C lf i) (C i)) j := by
  by_cases e : j = i
  · subst e
    rw [upd_same]
    unfold st1
    rw [upd_same]
    simp [hi, hl]
  · rw [upd_ne _ _ e]
    unfold st1
    rw [upd_ne _ _ e]
theorem st2_start (A C : Nat → Nat) (lf : Nat → Bool) (h : ∀ i, i < 4 → lf i = false) {i : Nat} (hi : i < 4) : st2 A C (fun i => decide (mp C i ≠ 0)) i = st1 A C lf i := by
  unfold st2 st1
  by_cases e : i < 2
  · simp [e, h i hi]
  · simp only [e, if_false, mp]
    by_cases e2 : C i = 0 <;> simp [e2]
theorem st2_upd (A C : Nat → Nat) (lf : Nat → Bool) {i : Nat} (hi : ¬ i < 2) (hl : lf i = true) (j : Nat) : st2 A C (upd lf i false) j = upd (st2 A C lf) i (max (st2 A C lf i) (C i)) j := by
  by_cases e : j = i
  · subst e
    rw [upd_same]
    unfold st2
    rw [upd_same]
    simp [hi, hl]
  · rw [upd_ne _ _ e]
    unfold st2
    rw [upd_ne _ _ e]
theorem st2_end (A C : Nat → Nat) (lf : Nat → Bool) (h : ∀ i, i < 4 → lf i = false) {i : Nat} (hi : i < 4) : max (A i) (C i) = st2 A C lf i := by
  unfold st2
  by_cases e : i < 2
  · simp [e]
  · simp [e, h i hi]

set_option maxRecDepth 100000 in
set_option maxHeartbeats 4000000 in
theorem addAll_any (pe pp qe qp gb : Nat) (A C : Nat → Nat) (w : World) (hP : PS w pe pp gb A) (hQ : PS w qe qp gb C) (d1 : qe ≠ pe) (d2 : qe ≠ pp) (d3 : qp ≠ pe) (d4 : qp ≠ pp) :
    Calls Ybaz.prog 17 #[.agg #[.map (some pe), .map (some pp)], .agg #[.map (some qe), .map (some qp)]] w fun r w' => r = .returned (.tuple #[]) ∧ Bt pe pp w w' ∧ PS w' pe pp gb (fun i => max (A i) (C i)) := by
  have hS0 := (Since.new (w.alloc (.cells #[.map (some pe), .map (some pp)] 52)) (.cells #[.map (some qe), .map (some qp)] 52)).then (Since.new w (.cells #[.map (some pe), .map (some pp)] 52))
  have hX := (Since.new (w.alloc (.cells #[.map (some pe), .map (some pp)] 52)) (.cells #[.map (some qe), .map (some qp)] 52)).keep (newBlock w (.cells #[.map (some pe), .map (some pp)] 52))
  have hY := newBlock (w.alloc (.cells #[.map (some pe), .map (some pp)] 52)) (.cells #[.map (some qe), .map (some qp)] 52)
  rw [show (w.alloc (.cells #[.map (some pe), .map (some pp)] 52)).heap.size = w.heap.size + 1 by simp] at hY
  have hL0 : Lp w pe pp qe qp w.heap.size gb A ((w.alloc (.cells #[.map (some pe), .map (some pp)] 52)).alloc (.cells #[.map (some qe), .map (some qp)] 52)) := ⟨Bt.of hS0, hX, hY, Nat.le_refl _, hP.since hS0⟩
  have hq := hQ.pe.since hS0
  have lpe := hP.pe.lt
  have lpp := hP.pp.lt
  have lqe := hQ.pe.lt
  have lqp := hQ.pp.lt
  have HQP := Hid.mk hQ.pp
  have HPS := Hid.mk hP
  clear hQ hP
  go_enter Ybaz.func17, Ybaz.ntmps17
  go_wp2_with (first | (at_range; refine listRange rfl _ rfl rfl hq ?_; intro w1 cnt1 hrg1 hg1 hs1))
  have hSg := (Since.refl _).grown hg1 (fun b hb => by cases hb)
  have hL1 := hL0.since hSg
  obtain ⟨r, hr⟩ : ∃ r, r = ((w.alloc (.cells #[.map (some pe), .map (some pp)] 52)).alloc (.cells #[.map (some qe), .map (some qp)] 52)).heap.size := ⟨_, rfl⟩
  obtain ⟨bx, hbx⟩ : ∃ bx, bx = w.heap.size := ⟨_, rfl⟩
  have hr2 : bx + 2 ≤ r := by rw [hr, hbx]; simp
  rw [← hr] at hrg1 ⊢
  rw [← hbx] at hL1 ⊢
  clear hr hbx hSg hg1 hs1 hL0 hq hS0 hX hY
  have hL1' : Lp w pe pp qe qp bx gb (st1 A C (fun i => decide (me C i ≠ 0))) w1 := ⟨hL1.bt, hL1.x, hL1.y, hL1.l, hL1.ps.congr (fun i hi => st1_start A C i)⟩
  clear hL1
  go_frame
  go_loopw [4] (fun _ wr => ∃ (cnt : Nat) (lf : Nat → Bool), RG wr qe r gb (me C) lf cnt ∧ Lp w pe pp qe qp bx gb (st1 A C lf) wr) (fun _ wr => wr.rangeLeft qe r)
  case atStart => exact ⟨_, _, hrg1, hL1'⟩
  case round =>
    clear hrg1 hL1'
    obtain ⟨cnt, lf, hrg, hL⟩ := hrel
    have yq : wr.cell? ⟨bx + 1, 1, none⟩ = some (.map (some qp)) := cellOf hL.y
    have lyq := sizeOf_block hL.y
    have hq2 : PM wr qp gb (mp C) := HQP.out.keep (hL.bt.block qp lqp d3 d4) (hL.bt.kx (Ms := [pe, pp]) HPS.out (by simp) (by simp)) (by simp)
    go_wp2_with (first | (at_next; refine listNext rfl _ rfl rfl hrg ?_ ?_) | (at_range; refine listRange rfl _ rfl rfl hq2 ?_; intro w1 cnt1 hrg1 hg1 hs1))
    · intro hdone
      go_wp2_with (first | (at_range; refine listRange rfl _ rfl rfl hq2 ?_; intro w1 cnt1 hrg1 hg1 hs1))
      have hSg := (Since.refl _).grown hg1 (fun b hb => by cases hb)
      have hL1 := hL.since hSg
      have hL1' : Lp w pe pp qe qp bx gb (st2 A C (fun i => decide (mp C i ≠ 0))) w1 := ⟨hL1.bt, hL1.x, hL1.y, hL1.l, hL1.ps.congr (fun i hi => st2_start A C lf hdone hi)⟩
      have hlr := hrg.lt
      obtain ⟨W1, rfl⟩ : ∃ W1, W1 = wr := ⟨_, rfl⟩
      obtain ⟨r0, hr0⟩ : ∃ r0, r0 = r := ⟨_, rfl⟩
      obtain ⟨r, hr⟩ : ∃ r, r = W1.heap.size := ⟨_, rfl⟩
      rw [← hr] at hrg1 ⊢
      rw [← hr0]
      have hr2 : bx + 2 ≤ r := by omega
      clear hr hSg hg1 hs1 hq2 hrg hL yq lyq hlr hr0 hL1 hdone
      go_frame
      go_loopw [6] (fun _ wr => ∃ (cnt : Nat) (lf : Nat → Bool), RG wr qp r gb (mp C) lf cnt ∧ Lp w pe pp qe qp bx gb (st2 A C lf) wr) (fun _ wr => wr.rangeLeft qp r)
      case atStart => exact ⟨_, _, hrg1, hL1'⟩
      case round =>
        clear hrg1 hL1'
        obtain ⟨cnt, lf, hrg, hL⟩ := hrel
        go_wp2_with (first | (at_next; refine listNext rfl _ rfl rfl hrg ?_ ?_))
        · intro hdone
          have hf := hL.bt
          have hfp := hL.ps.congr (S' := fun i => max (A i) (C i)) (fun i hi => st2_end A C lf hdone hi)
          clear hrg hL hdone
          go_wp2
          go_end0
          exact ⟨rfl, hf, hfp⟩
        · intro i v w2 cnt2 hi4 hlf hrv hrg2 hlt2 hg2 hs2 hen
          obtain ⟨vx, va, vn, vc, rfl⟩ := hrv.form
          obtain ⟨si, se, c0, hit⟩ := hrg.iter
          have hL2 := hL.iter hit hg2 hr2 lpe lpp
          have hCi : mp C i ≠ 0 := by
            obtain ⟨D, left, -, -, -, -, h5⟩ := hrg.ex
            exact (h5 i hi4).2 hlf
          have hi2 : ¬ i < 2 := by
            exact fun hn => hCi (by unfold mp; rw [if_pos hn])
          have hmC : mp C i = C i := by unfold mp; rw [if_neg hi2]
          rw [hmC] at hrv hCi
          have hwb : wildB i = true := by simp [wildB]; omega
          have HLT := Hid.mk hlt2
          have HRG := Hid.mk hrg
          have HST := Hid.mk (st2_upd A C lf hi2 hlf)
          clear hg2 hs2 hlt2 hrg hL hit hmC
          go_wp2_with fail
          have hSb := Since.new w2 (.cells #[.bool vx, .slice va vn vc] 65)
          have hBb := newBlock w2 (.cells #[.bool vx, .slice va vn vc] 65)
          have hL3 := hL2.since hSb
          have hrv3 := hrv.since hSb
          have hrg3 := hrg2.keep (hSb.out.block _ hrg2.lt.1) (hSb.out.block _ hrg2.lt.2) (Kx.since (Ts := []) (Ms := []) hSb) (by simp)
          obtain ⟨tb, htb⟩ : ∃ tb, tb = w2.heap.size := ⟨_, rfl⟩
          have htl : w.heap.size ≤ tb := by have := hL2.bt.size; omega
          rw [← htb] at hBb ⊢
          generalize hW3 : w2.alloc (.cells #[.bool vx, .slice va vn vc] 65) = W3 at *
          clear hW3 htb hSb hen hL2 hrg2 hrv
          have hbl := hL3.l
          have x0 : W3.cell? ⟨bx, 1, none⟩ = some (.map (some pp)) := cellOf hL3.x
          have lx := sizeOf_block hL3.x
          have y0 : W3.cell? ⟨tb, 0, none⟩ = some (.bool vx) := cellOf hBb
          have y1 : W3.cell? ⟨tb, 1, none⟩ = some (.slice va vn vc) := cellOf hBb
          have ly := sizeOf_block hBb
          obtain ⟨hpm, hTk⟩ := hL3.ps.at hi4
          rw [hwb] at hpm hTk
          simp only [if_true, if_false, Bool.false_eq_true] at hpm hTk
          obtain ⟨T, hT⟩ : ∃ T, T = st2 A C lf := ⟨_, rfl⟩
          rw [← hT] at hL3 hpm hTk HST
          have HS2 : Hid (∀ w'', Since W3 w'' → ∀ x, RuleV w'' gb (max (T i) (C i)) x → ∃ w5, (Instr.mapUpdate 50 (.map (some pp)) (.string (keyB i)) x).run Ybaz.prog w'' = .ok () w5 ∧ Bt pe pp W3 w5 ∧ PS w5 pe pp gb (upd T i (max (T i) (C i)))) := ⟨fun w'' hs x hx => by
            obtain ⟨w5, h1, h2, h3⟩ := (hpm.since hs).store hi4 hx (by omega)
            exact ⟨w5, h1, (Bt.of hs).turned (.inr rfl) h3, (hL3.ps.since hs).turned hi4 (by rw [hwb]; rfl) (by rw [hwb]; exact h2) h3⟩⟩
          obtain ⟨v1, hv1, hl1, -⟩ := (hpm.since Since.dr).look hi4
          rw [hTk] at hv1
          have HV1 : Hid (RuleV W3.drew gb (T i) v1) := ⟨hv1⟩
          have HU : Hid (RuleV W3.drew gb (C i) (.agg #[.bool vx, .slice va vn vc])) := ⟨⟨hrv3.ex⟩⟩
          have HCI := Hid.mk hCi
          clear hv1 hrv3 hCi hpm hTk hT hlf hi2 hwb
          go_region_law (first | (go_simp; refine (or_any gb (T i) (C i) v1 _ _ HV1.out HU.out HCI.out).mono ?_; rintro r4 w4 ⟨x4, rfl, hx4, hS4⟩; dsimp only; have hS4' : Since W3 w4 := hS4.then Since.dr; obtain ⟨w5, hst, hbt, hps⟩ := HS2.out w4 hS4' x4 hx4; have x4c := hS4'.cell x0; have l4 := sizeOf_block (hS4'.keep hL3.x)))
          all_goals
            have hL4 := hL3.bt2 hbt hps lpe lpp
            have hlr := hrg3.lt
            have hrg4 := hrg3.keep (hbt.block _ hlr.1 d3 d4) (hbt.block _ hlr.2 (by omega) (by omega)) (hbt.kx (Ms := [pe, pp]) hL3.ps (by simp) (by simp)) (by simp)
            have hL5 : Lp w pe pp qe qp bx gb (st2 A C (upd lf i false)) w5 := ⟨hL4.bt, hL4.x, hL4.y, hL4.l, hL4.ps.congr (fun j hj => HST.out j)⟩
            clear hst hbt hps hL4 hlr x4c l4 hx4 hS4 hS4' hL3 hrg3 x0 lx y0 y1 ly
            go_wp2
            go_roundw
            case rel => exact ⟨cnt2, _, hrg4, hL5⟩
            case measure => rw [hrg4.left_eq, HRG.out.left_eq]; exact HLT.out
    · clear hq2 yq lyq
      intro i v w2 cnt2 hi4 hlf hrv hrg2 hlt2 hg2 hs2 hen
      obtain ⟨vx, va, vn, vc, rfl⟩ := hrv.form
      obtain ⟨si, se, c0, hit⟩ := hrg.iter
      have hL2 := hL.iter hit hg2 hr2 lpe lpp
      have hCi : me C i ≠ 0 := by
        obtain ⟨D, left, -, -, -, -, h5⟩ := hrg.ex
        exact (h5 i hi4).2 hlf
      have hi2 : i < 2 := by
        exact Classical.byContradiction fun hn => hCi (by unfold me; rw [if_neg hn])
      have hmC : me C i = C i := by unfold me; rw [if_pos hi2]
      rw [hmC] at hrv hCi
      have hwb : wildB i = false := by simp [wildB]; omega
      have HLT := Hid.mk hlt2
      have HRG := Hid.mk hrg
      have HST := Hid.mk (st1_upd A C lf hi2 hlf)
      clear hg2 hs2 hlt2 hrg hL hit hmC
      go_wp2_with fail
      have hSb := Since.new w2 (.cells #[.bool vx, .slice va vn vc] 65)
      have hBb := newBlock w2 (.cells #[.bool vx, .slice va vn vc] 65)
      have hL3 := hL2.since hSb
      have hrv3 := hrv.since hSb
      have hrg3 := hrg2.keep (hSb.out.block _ hrg2.lt.1) (hSb.out.block _ hrg2.lt.2) (Kx.since (Ts := []) (Ms := []) hSb) (by simp)
      obtain ⟨tb, htb⟩ : ∃ tb, tb = w2.heap.size := ⟨_, rfl⟩
      have htl : w.heap.size ≤ tb := by have := hL2.bt.size; omega
      rw [← htb] at hBb ⊢
      generalize hW3 : w2.alloc (.cells #[.bool vx, .slice va vn vc] 65) = W3 at *
      clear hW3 htb hSb hen hL2 hrg2 hrv
      have hbl := hL3.l
      have x0 : W3.cell? ⟨bx, 0, none⟩ = some (.map (some pe)) := cellOf hL3.x
      have lx := sizeOf_block hL3.x
      have y0 : W3.cell? ⟨tb, 0, none⟩ = some (.bool vx) := cellOf hBb
      have y1 : W3.cell? ⟨tb, 1, none⟩ = some (.slice va vn vc) := cellOf hBb
      have ly := sizeOf_block hBb
      obtain ⟨hpm, hTk⟩ := hL3.ps.at hi4
      rw [hwb] at hpm hTk
      simp only [if_true, if_false, Bool.false_eq_true] at hpm hTk
      obtain ⟨T, hT⟩ : ∃ T, T = st1 A C lf := ⟨_, rfl⟩
      rw [← hT] at hL3 hpm hTk HST
      have HS2 : Hid (∀ w'', Since W3 w'' → ∀ x, RuleV w'' gb (max (T i) (C i)) x → ∃ w5, (Instr.mapUpdate 50 (.map (some pe)) (.string (keyB i)) x).run Ybaz.prog w'' = .ok () w5 ∧ Bt pe pp W3 w5 ∧ PS w5 pe pp gb (upd T i (max (T i) (C i)))) := ⟨fun w'' hs x hx => by
        obtain ⟨w5, h1, h2, h3⟩ := (hpm.since hs).store hi4 hx (by omega)
        exact ⟨w5, h1, (Bt.of hs).turned (.inl rfl) h3, (hL3.ps.since hs).turned hi4 (by rw [hwb]; rfl) (by rw [hwb]; exact h2) h3⟩⟩
      obtain ⟨v1, hv1, hl1, -⟩ := (hpm.since Since.dr).look hi4
      rw [hTk] at hv1
      have HV1 : Hid (RuleV W3.drew gb (T i) v1) := ⟨hv1⟩
      have HU : Hid (RuleV W3.drew gb (C i) (.agg #[.bool vx, .slice va vn vc])) := ⟨⟨hrv3.ex⟩⟩
      have HCI := Hid.mk hCi
      clear hv1 hrv3 hCi hpm hTk hT hlf hi2 hwb
      go_region_law (first | (go_simp; refine (or_any gb (T i) (C i) v1 _ _ HV1.out HU.out HCI.out).mono ?_; rintro r4 w4 ⟨x4, rfl, hx4, hS4⟩; dsimp only; have hS4' : Since W3 w4 := hS4.then Since.dr; obtain ⟨w5, hst, hbt, hps⟩ := HS2.out w4 hS4' x4 hx4; have x4c := hS4'.cell x0; have l4 := sizeOf_block (hS4'.keep hL3.x)))
      all_goals
        have hL4 := hL3.bt2 hbt hps lpe lpp
        have hlr := hrg3.lt
        have hrg4 := hrg3.keep (hbt.block _ hlr.1 d1 d2) (hbt.block _ hlr.2 (by omega) (by omega)) (hbt.kx (Ms := [pe, pp]) hL3.ps (by simp) (by simp)) (by simp)
        have hL5 : Lp w pe pp qe qp bx gb (st1 A C (upd lf i false)) w5 := ⟨hL4.bt, hL4.x, hL4.y, hL4.l, hL4.ps.congr (fun j hj => HST.out j)⟩
        clear hst hbt hps hL4 hlr x4c l4 hx4 hS4 hS4' hL3 hrg3 x0 lx y0 y1 ly
        go_wp2
        go_roundw
        case rel => exact ⟨cnt2, _, hrg4, hL5⟩
        case measure => rw [hrg4.left_eq, HRG.out.left_eq]; exact HLT.out
end Go.Proofs.YbulkcvxmGreatFmt
