/- Lists of strings put together: Grow (42) at nil, Clip (34), Concat (30). -/
import Derived.Test.YbulkcvxmGreatFmtReach
set_option linter.unusedSimpArgs false
set_option linter.unusedVariables false
namespace Go.Proofs.YbulkcvxmGreatFmt
open Go.RowKit

theorem Ybaz.info20 : (Ybaz.prog.info? 20).map (fun i => (i.zero, i.size, i.bytes)) = some (some .nilIface, 1, 16) := by kernel_rfl
theorem und3' : Ybaz.prog.underlying 3 = some (.int .i64) := by kernel_rfl
/-- 'append(nil, make([]any, n)...)'. -/
theorem run_grow_nil (w : World) (ty : TypeId) (n : Nat) (h0 : 0 < n) (hn : n ≤ 1000000) :
    ∃ cur, (Builtin.append_ #[53, 3] ty #[.slice none 0 0, .int .i64 n]).run Ybaz.prog w = .ok (.slice (some ⟨w.heap.size, 0, none⟩) n (grownCap w n 0 20)) (w.drew.alloc (.cells cur 20)) ∧ cur.size = grownCap w n 0 20 := by
  obtain ⟨i, hi, hz, hs, hy⟩ := info_parts Ybaz.info20
  have hne : n ≠ 0 := by omega
  have hw : IntKind.i64.wrap (n : Int) = n := by simp [IntKind.wrap, IntKind.signed, IntKind.bits]; omega
  have h1 : ¬ ((n : Int) < 0) := by omega
  have h2 : ¬ (281474976710656 < (n : Int) * (i.bytes : Int)) := by rw [hy]; omega
  have h63' : ¬ (9223372036854775807 < (n : Int)) := by omega
  have h48' : ¬ (281474976710656 < Builtin.nextslicecap n 0 * i.bytes) := by rw [nextslicecap_zero h0, hy]; omega
  refine ⟨Builtin.zeroCells (Value.nilIface).cells n ++ Builtin.zeroCells (Value.nilIface).cells (grownCap w n 0 20 - n), ?_, ?_⟩
  · simp [Builtin.append_, run_underlying Ybaz.underlying53, run_underlying und3', sizeOf, typeInfo, zeroValue, hi, hz, hw, h1, h2, Builtin.lenOf, Builtin.firstCells, hne, h63', h48', Question.forced, newRow, grownCap, asInt, asIntOf, hs]
  · have := grownCap_ge w n 0 20
    have hc : (Value.nilIface).cells = #[Value.nilIface] := rfl
    simp [Builtin.zeroCells, hc]
    omega
theorem listGrow {ops : Array Oper} {rest : List Oper} {o : Oper} {a : Act} {w : World} {Q : Exit → Act → World → Prop} (hgd : o.guard = none) (s x : Operand) (ho : o.op = .call { callee := .builtin .append, args := #[s, x], argTypes := #[53, 3] })
    (n : Nat) (h0 : 0 < n) (hn : n ≤ 1000000) (hs : a.eval s = .slice none 0 0) (hx : a.eval x = .int .i64 n)
    (h : ∀ cap w', Since w w' → RowL w' w.heap.size 20 1 (fun _ : Nat => [Value.nilIface]) (.slice (some ⟨w.heap.size, 0, none⟩) 0 cap) [] → w.heap.size < w'.heap.size → n ≤ cap → cap ≤ maxLen → wpList Ybaz.prog ops Q rest (a.put o.dst (.slice (some ⟨w.heap.size, 0, none⟩) n cap)) w') :
    wpList Ybaz.prog ops Q (o :: rest) a w := by
  refine wpList_plain hgd fun K hK => ?_
  obtain ⟨cur, hr, hc⟩ := run_grow_nil w o.type n h0 hn
  unfold Oper.wp
  simp [execOp, ho, resolve, invoke, builtin, hs, hx, hr, Result.andThen]
  have hcm := grownCap_le_maxLen w n 0 20 (by unfold maxLen; omega)
  have hB : (w.drew.alloc (.cells cur 20)).heap[w.heap.size]? = some (.cells cur 20) := newBlock w.drew _
  refine hK _ _ (h _ _ (Since.alloc Since.dr) ⟨⟨by simp, .inr ⟨w.heap.size, _, cur, rfl, Nat.le_refl _, hB, Nat.zero_le _, hcm, by simp [hc], by simp⟩⟩⟩ (sizeOf_block hB) (grownCap_ge w n 0 20) hcm)

/-- A string in an interface. -/
def anC (s : ByteArray) : List Value := [.iface 9 (.string s)]
theorem anC_len (s : ByteArray) : (anC s).length = 1 := rfl
theorem rowNil {α β : Type} {w : World} {base e sz : Nat} {F : α → List Value} {G : β → List Value} {v : Value} (h : RowL w base e sz F v []) : RowL w base e sz G v [] := ⟨h.own⟩

set_option maxRecDepth 100000 in
set_option maxHeartbeats 2000000 in
theorem grow_any (n : Nat) (w : World) (hn : n ≤ 1000000) :
    Calls Ybaz.prog 54 #[.slice none 0 0, .int .i64 n] w fun r w' => ∃ v, r = .returned v ∧ Since w w' ∧ RowL w' w.heap.size 20 1 anC v [] := by
  rcases Nat.eq_zero_or_pos n with h0 | h0
  · subst h0
    go_enter Ybaz.func54, Ybaz.ntmps54
    go_wp2
    go_ret
    exact ⟨_, rfl, Since.refl _, RowL.nil _ _ _ _ _⟩
  · go_enter Ybaz.func54, Ybaz.ntmps54
    go_wp2_with (first | (at_builtin; refine listGrow rfl _ _ rfl n h0 hn rfl rfl ?_; intro cap w1 hS1 hR1 hl1 hc1 hm1; unfold maxLen at hm1))
    go_ret
    exact ⟨_, rfl, hS1, rowNil hR1⟩

set_option maxRecDepth 100000 in
set_option maxHeartbeats 2000000 in
theorem clip_any (g m cap : Nat) (w : World) (hc : m ≤ cap) (hm : cap ≤ maxLen) :
    Calls Ybaz.prog 35 #[.slice (some ⟨g, 0, none⟩) m cap] w fun r w' => r = .returned (.slice (some ⟨g, 0, none⟩) m m) ∧ w = w' := by
  unfold maxLen at hm
  go_enter Ybaz.func35, Ybaz.ntmps35
  go_wp2
  go_ret
  exact ⟨rfl, rfl⟩

def vC (v : Value) : List Value := [v]
theorem vC_len (v : Value) : (vC v).length = 1 := rfl
/-- A list of strings as 'sortedCodes' leaves it: the front of a block (its capacity may be cut). -/
structure CodesL (w : World) (v : Value) (L : List ByteArray) : Prop where
  ex : ∃ g cap cs, v = .slice (some ⟨g, 0, none⟩) L.length cap ∧ L.length ≤ cap ∧ cap ≤ maxLen ∧ w.heap[g]? = some (.cells cs 20) ∧ ∀ (k : Nat) s, L[k]? = some s → cs[k]? = some (.iface 9 (.string s))
theorem CodesL.since {w w' : World} {v : Value} {L : List ByteArray} (h : CodesL w v L) (hs : Since w w') : CodesL w' v L := by
  obtain ⟨g, cap, cs, h1, h2, h3, h4, h5⟩ := h.ex
  exact ⟨g, cap, cs, h1, h2, h3, hs.keep h4, h5⟩
theorem CodesL.kx {Ts Ms : List Nat} {w w' : World} {v : Value} {L : List ByteArray} (h : CodesL w v L) (hk : Kx Ts Ms w w') (hT : 20 ∉ Ts) : CodesL w' v L := by
  obtain ⟨g, cap, cs, h1, h2, h3, h4, h5⟩ := h.ex
  exact ⟨g, cap, cs, h1, h2, h3, hk.cell g cs 20 _ h4 hT, h5⟩
theorem an_get (L : List ByteArray) (k : Nat) : (L.flatMap anC)[k]? = L[k]?.map (fun s => Value.iface 9 (.string s)) := by
  induction L generalizing k with
  | nil => simp
  | cons a L ih => cases k with
    | zero => simp [anC]
    | succ k => simpa [anC] using ih k
theorem CodesL.cells {w : World} {g len cap : Nat} {L : List ByteArray} (h : CodesL w (.slice (some ⟨g, 0, none⟩) len cap) L) (k : Nat) (u : Value) (hu : (L.flatMap anC)[k]? = some u) : w.cell? ((⟨g, 0, none⟩ : Addr).add k) = some u := by
  obtain ⟨g', cap', cs, h1, h2, h3, h4, h5⟩ := h.ex
  cases h1
  rw [an_get] at hu
  obtain ⟨s, hs, rfl⟩ := Option.map_eq_some_iff.1 hu
  have := h5 k s hs
  rw [← cellOf h4] at this
  by_cases hk : k = 0
  · subst hk; simpa [Addr.add] using this
  · simpa [Addr.add, hk] using this
/-- Lists of strings, as a slice of slices. -/
structure Lists (w : World) (cv : Value) (LL : List (List ByteArray)) : Prop where
  ex : ∃ VS : List Value, RowL w 0 53 1 vC cv VS ∧ VS.length = LL.length ∧ ∀ (j : Nat) v L, VS[j]? = some v → LL[j]? = some L → CodesL w v L ∧ L ≠ [] ∧ L.length ≤ 300
theorem take_flat_succ {α : Type} {LL : List (List α)} {j : Nat} {L : List α} (h : LL[j]? = some L) : (LL.take (j + 1)).flatten = (LL.take j).flatten ++ L := by
  obtain ⟨hj, e⟩ := List.getElem?_eq_some_iff.1 h
  rw [List.take_succ_eq_append_getElem hj, List.flatten_append, e]
  simp
theorem an_one (L : List ByteArray) : ∀ u ∈ L.flatMap anC, u.oneCell' = true := by
  intro u hu
  simp only [List.mem_flatMap, anC, List.mem_singleton] at hu
  obtain ⟨s, _, rfl⟩ := hu
  rfl

set_option maxRecDepth 100000 in
set_option maxHeartbeats 4000000 in
theorem concat_any (cv : Value) (LL : List (List ByteArray)) (w : World) (hL : Lists w cv LL) (hm : LL.length ≤ 1100) :
    Calls Ybaz.prog 31 #[cv] w fun r w' => ∃ v, r = .returned v ∧ Since w w' ∧ RowL w' w.heap.size 20 1 anC v LL.flatten := by
  obtain ⟨VS, hR, hlen, hEach⟩ := hL.ex
  obtain ⟨ca, ccap, rfl, _⟩ := hR.form
  obtain ⟨i20, hi20, hz20, hs20, hy20⟩ := info_parts Ybaz.info20
  have hVm : VS.length ≤ 1100 := by omega
  have hbound : ∀ j, j ≤ VS.length → ((LL.take j).flatten).length ≤ j * 300 := by
    intro j
    induction j with
    | zero => intro _; simp
    | succ j ih =>
      intro hj
      have hjl : j < LL.length := by omega
      have e := List.getElem?_eq_getElem hjl
      have ev := List.getElem?_eq_getElem (show j < VS.length by omega)
      rw [take_flat_succ e, List.length_append]
      have := (hEach j _ _ ev e).2.2
      have := ih (by omega)
      omega
  have HEACH := Hid.mk hEach
  clear hEach
  go_enter Ybaz.func31, Ybaz.ntmps31
  go_wp2_with fail
  go_loop [3, 11] (fun tv iv => ∃ j : Nat, j ≤ VS.length ∧ iv = .int .i64 j ∧ tv = .int .i64 ((LL.take j).flatten).length) (fun _ iv => VS.length - (intOf iv).toNat)
  case atStart => exact ⟨0, Nat.zero_le _, rfl, rfl⟩
  case round =>
    obtain ⟨j, hj, rfl, rfl⟩ := hrel
    have hbj := hbound j hj
    by_cases hjl : j < VS.length
    · obtain ⟨g, rfl, _⟩ := hR.at hjl
      obtain ⟨v, hv⟩ : ∃ v, VS[j]? = some v := ⟨VS[j], List.getElem?_eq_getElem hjl⟩
      obtain ⟨L, hLj⟩ : ∃ L, LL[j]? = some L := ⟨LL[j]'(by omega), List.getElem?_eq_getElem (by omega)⟩
      obtain ⟨hrow, hne, hl3⟩ := HEACH.out j v L hv hLj
      have r0 := (hR.cell vC_len (i := 0) (u := v) hv (by omega) rfl rfl).1
      simp only [Nat.mul_one, Nat.add_zero] at r0
      have lr := sizeOf_cell r0
      simp only at lr
      have HT : Hid (((LL.take (j + 1)).flatten).length = ((LL.take j).flatten).length + L.length) := ⟨by rw [take_flat_succ hLj, List.length_append]⟩
      obtain ⟨g2, vcap, _, rfl, hvc1, hvc2, _⟩ := hrow.ex
      generalize ((LL.take j).flatten).length = T at *
      clear hv hLj
      go_wp2
      go_round
      case rel => exact ⟨j + 1, by omega, by go_num, by rw [HT.out]; go_num⟩
      case measure => simp [intOf]; omega
    · have hjv : j = VS.length := by omega
      subst hjv
      obtain ⟨T0, hT0⟩ : ∃ T0, T0 = ((LL.take VS.length).flatten).length := ⟨_, rfl⟩
      rw [← hT0] at hbj ⊢
      clear hT0
      go_wp2_with fail
      refine (grow_any T0 w (by omega)).mono ?_
      rintro r1 w1 ⟨v1, rfl, hS1, hR1⟩
      obtain ⟨xa, xcap, rfl, _⟩ := hR1.form
      go_wp2_with fail
      go_loopw [6, 27] (fun nv iv wr => ∃ j : Nat, j ≤ VS.length ∧ iv = .int .i64 j ∧ Since w wr ∧ RowL wr w.heap.size 20 1 anC nv (LL.take j).flatten) (fun _ iv _ => VS.length - (intOf iv).toNat)
      case atStart => exact ⟨0, Nat.zero_le _, rfl, hS1, hR1⟩
      case round =>
        clear hS1 hR1
        obtain ⟨j, hj, rfl, hS, hN⟩ := hrel
        have hbj2 := hbound j hj
        by_cases hjl : j < VS.length
        · obtain ⟨g, rfl, _⟩ := hR.at hjl
          obtain ⟨v, hv⟩ : ∃ v, VS[j]? = some v := ⟨VS[j], List.getElem?_eq_getElem hjl⟩
          obtain ⟨L, hLj⟩ : ∃ L, LL[j]? = some L := ⟨LL[j]'(by omega), List.getElem?_eq_getElem (by omega)⟩
          obtain ⟨hrow, hne, hl3⟩ := HEACH.out j v L hv hLj
          have r0 := ((hR.since hS).cell vC_len (i := 0) (u := v) hv (by omega) rfl rfl).1
          simp only [Nat.mul_one, Nat.add_zero] at r0
          have lr := sizeOf_cell r0
          simp only at lr
          have HT : Hid ((LL.take (j + 1)).flatten = (LL.take j).flatten ++ L) := ⟨take_flat_succ hLj⟩
          obtain ⟨g2, vcap, _, rfl, hvc1, hvc2, _⟩ := hrow.ex
          have hLpos : 0 < L.length := by cases L with | nil => exact absurd rfl hne | cons _ _ => simp
          have hrow2 := hrow.since hS
          have hcells : ∀ (k : Nat) u, (L.flatMap anC)[k]? = some u → wr.cell? ((⟨g2, 0, none⟩ : Addr).add k) = some u := hrow2.cells
          obtain ⟨T, hT⟩ : ∃ T, T = (LL.take j).flatten := ⟨_, rfl⟩
          rw [← hT] at hN HT hbj2
          obtain ⟨na, ncap, rfl, _⟩ := hN.form
          have lw := hS.size
          clear hv hLj hT hne
          go_wp2_with (first | (at_builtin; refine listApp rfl _ _ 53 rfl w.heap.size 20 i20 _ 1 16 Ybaz.underlying53 hi20 hz20 hs20 hy20 rfl (by decide) (.slice na T.length ncap) T.length (T.flatMap anC) rfl (RowL.own hN) ⟨g2, 0, none⟩ L.length vcap (L.flatMap anC) rfl (by rw [flat_len anC_len]) hcells (an_one L) (by unfold maxLen; omega) (by omega) lw hLpos ?_; intro g1 cap1 w8 hbg hown hgr hloc))
          have hR8 : RowL w8 w.heap.size 20 1 anC (.slice (some ⟨g1, 0, none⟩) (T.length + L.length) cap1) (T ++ L) := ⟨by
            rw [List.length_append, List.flatMap_append]
            exact hown⟩
          have hS8 : Since w w8 := hS.grown hgr (fun b hb => (hN.base_ge b hb).1)
          clear hown hgr hloc hN hS r0 lr hrow2 hcells hbg
          go_wp2
          go_roundw
          case rel => exact ⟨j + 1, by omega, by go_num, hS8, by rw [HT.out]; exact hR8⟩
          case measure => simp [intOf]; omega
        · have hjv2 : j = VS.length := by omega
          have hN2 := hN
          rw [hjv2, hlen, List.take_length] at hN2
          have HN := Hid.mk hN2
          clear hN2
          go_wp2
          go_ret
          exact ⟨_, rfl, hS, HN.out⟩
end Go.Proofs.YbulkcvxmGreatFmt
