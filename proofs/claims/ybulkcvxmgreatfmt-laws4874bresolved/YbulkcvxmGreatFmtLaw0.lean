/- The law (3): what was built is a net; slices.Sort (9); small facts. -/
import Derived.Test.YbulkcvxmGreatFmtLawP
import Derived.Test.YbulkcvxmGreatFmtBuild
set_option linter.unusedSimpArgs false
set_option linter.unusedVariables false
namespace Go.Proofs.YbulkcvxmGreatFmt
open Go.RowKit Go.Sort Go.Shelf

/-- The net that was built. -/
def netOf (I : Nat → Rin) (n gb mb : Nat) (rb : Nat → Nat) : Gph := ⟨n, rb, edgesOf I, gOf I, fun k => (I k).rank, mb, gb⟩
section
variable {w0 w : World} {I : Nat → Rin} {n gb lb mb : Nat} {rb : Nat → Nat} {F : Nat → Nat → Value}
theorem Bd.ok (h : Bd w0 I n gb n lb mb rb F w) {eb : Nat} {w1 : World} (hE : Ed w1 eb n (edgesOf I)) (hg : ∀ i, i < n → (I i).gr.length ≤ 1024) : Gok (netOf I n gb mb rb) :=
  ⟨hE.n3, fun i j hi hj e => h.inj i j hi hj e, fun i hi v hv => edges_lt hv, hE.len, fun i hi k hk => by
    simp only [netOf, gOf, List.mem_map] at hk
    obtain ⟨x, _, rfl⟩ := hk
    omega, fun i hi => by simp only [netOf, gOf, List.length_map]; exact hg i hi⟩
theorem Bd.net (h : Bd w0 I n gb n lb mb rb F w) : Net w (netOf I n gb mb rb) (fun _ => 0) (fun _ => 0) (fun _ _ => 0) (fun _ => []) F :=
  ⟨fun i hi => h.cells i hi, fun i hi => h.role i hi, h.map⟩
end
/-- Only roles' blocks have turned. -/
structure Rf (g : Gph) (w w' : World) : Prop where
  os : w'.os = w.os
  tape : w'.tape = w.tape
  output : w'.output = w.output
  size : w.heap.size ≤ w'.heap.size
  block : ∀ k, k < w.heap.size → (∀ j, j < g.n → k ≠ g.rb j) → w'.heap[k]? = w.heap[k]?
theorem Rf.refl (g : Gph) (w : World) : Rf g w w := ⟨rfl, rfl, rfl, Nat.le_refl _, fun _ _ _ => rfl⟩
theorem Rf.but {g : Gph} {w w' w'' : World} (h : Rf g w w') {i : Nat} (hi : i < g.n) (hb : But (g.rb i) w' w'') : Rf g w w'' :=
  ⟨hb.os.trans h.os, hb.tape.trans h.tape, hb.output.trans h.output, Nat.le_trans h.size hb.size, fun k hk hj => (hb.block k (Nat.lt_of_lt_of_le hk h.size) (hj i hi)).trans (h.block k hk hj)⟩
section
variable {w0 w : World} {I : Nat → Rin} {n gb lb mb : Nat} {rb : Nat → Nat} {F : Nat → Nat → Value}
theorem Bd.rf (h : Bd w0 I n gb n lb mb rb F w) {w' : World} (hr : Rf (netOf I n gb mb rb) w w') : Since w0 w' :=
  ⟨hr.os.trans h.since.out.os, hr.tape.trans h.since.out.tape, hr.output.trans h.since.out.output, Nat.le_trans h.since.size hr.size, fun k hk => (hr.block k (Nat.lt_of_lt_of_le hk h.since.size) (fun j hj e => by
    have h1 : w0.heap.size ≤ rb j := h.lr j hj
    have h2 : k = rb j := e
    omega)).trans (h.since.out.block k hk)⟩
theorem Bd.lst (h : Bd w0 I n gb n lb mb rb F w) {w' : World} (hr : Rf (netOf I n gb mb rb) w w') : Cells w' lb 44 n (fun k => .pointer (some ⟨rb k, 0, none⟩)) := by
  have h1 := h.list.congr (G := fun k => .pointer (some ⟨rb k, 0, none⟩)) (fun x hx => by rw [if_pos hx])
  obtain ⟨cs, h2, h3⟩ := h1.ex
  refine ⟨cs, ?_, h3⟩
  rw [hr.block lb (sizeOf_block h2) (fun j hj e => ?_)]
  · exact h2
  · obtain ⟨cs', h4⟩ := h.net.blocks j hj
    rw [← e, h2] at h4
    cases h4
end
theorem neG (gb : Nat) (w : World) : (binOp .neq 27 (.pointer (some ⟨gb, 0, none⟩)) (.pointer (some ⟨gb, 0, none⟩))).run Ybaz.prog w = .ok (.bool false) w := by
  have h := eqG gb w
  simp only [binOp] at h ⊢
  revert h
  generalize (Op.equal 27 (.pointer (some ⟨gb, 0, none⟩)) (.pointer (some ⟨gb, 0, none⟩))) = q
  intro h
  simp at h ⊢
  cases hq : Sem.run Ybaz.prog q w <;> rw [hq] at h <;> simp_all [Result.andThen]
theorem as9t (v : Value) (w : World) : (Instr.typeAssert (.iface 9 v) 20 9 true).run Ybaz.prog w = .ok (.tuple #[v, .bool true]) w := by kernel_rfl

/-! ### slices.Sort -/
theorem sortStr_any (g cap base : Nat) (W : List ByteArray) (w : World) (h : RowL w base 9 1 strC (.slice (some ⟨g, 0, none⟩) W.length cap) W) (hl : W.length ≤ 1000) :
    Calls Ybaz.prog 9 #[.slice (some ⟨g, 0, none⟩) W.length cap] w fun r w' => r = .returned (.tuple #[]) ∧ But g w w' ∧ ∀ (j : Nat) (s : List UInt8), ((W.map (·.data.toList)).mergeSort fun x y => decide (x ≤ y))[j]? = some s → w'.cell? ⟨g, j, none⟩ = some (.string ⟨s.toArray⟩) := by
  obtain ⟨cs, hg⟩ : ∃ cs, w.heap[g]? = some (.cells cs 9) ∧ W.length ≤ cs.size := by
    rcases h.own.2 with ⟨h0, _⟩ | ⟨g', cap', cur, hv, _, hg', h1, h2, h3, _⟩
    · cases h0
    · simp at hv
      obtain ⟨rfl, rfl⟩ := hv
      exact ⟨cur, hg', by omega⟩
  have hds : (W.map (·.data.toList)).length = W.length := by simp
  have hH : Holds encStr w g 0 (W.map (·.data.toList)).toArray := fun j hj => by
    have hj' : j < W.length := by simpa using hj
    have e := h.cell strC_len (j := j) (i := 0) (x := W[j]) (u := .string W[j]) (List.getElem?_eq_getElem hj') (by omega) rfl rfl
    simp only [Nat.mul_one, Nat.add_zero] at e
    refine ⟨?_, ?_⟩
    · rw [Nat.zero_add, e.1]
      simp [encStr, hj']
    · rw [Nat.zero_add]; exact e.2
  have hS := Ybaz.slices_Sort_string g 0 cap (W.map (·.data.toList)) w hH (sizeOf_block hg.1) (by rw [hds]; omega)
  rw [hds] at hS
  refine hS.mono ?_
  rintro r w' ⟨rfl, n, os, rfl⟩
  have hlen : ((W.map (·.data.toList)).mergeSort fun x y => decide (x ≤ y)).length = W.length := by rw [List.length_mergeSort, hds]
  generalize hM : ((W.map (·.data.toList)).mergeSort fun x y => decide (x ≤ y)) = M at *
  have hlt := sizeOf_block hg.1
  refine ⟨rfl, ⟨rfl, rfl, rfl, ?_, fun i hi hn => ?_⟩, fun j s hj => ?_⟩
  · simp [Sort.grow, putRow, mapBlock]
  · show ((putRow encStr (Go.Sort.ahead w n) g 0 M.toArray).heap ++ os)[i]? = _
    rw [Array.getElem?_append_left (by simpa [putRow, mapBlock] using hi)]
    simp [putRow, mapBlock, Array.getElem?_modify, Ne.symm hn]
  · have hb : (Sort.grow (putRow encStr (Go.Sort.ahead w n) g 0 M.toArray) os).heap[g]? = some (.cells (putCells encStr 0 M.toArray cs) 9) := by
      show ((putRow encStr (Go.Sort.ahead w n) g 0 M.toArray).heap ++ os)[g]? = _
      rw [Array.getElem?_append_left (by simpa [putRow, mapBlock] using hlt)]
      simp [putRow, mapBlock, Array.getElem?_modify, hg.1, onCells]
    rw [cellOf hb]
    have hjl := (List.getElem?_eq_some_iff.1 hj).1
    have hjc : j < cs.size := by omega
    simp [putCells, Array.getElem?_mapIdx, hlen, hjc, encStr]
    rw [if_pos (by omega), hj]
    rfl
end Go.Proofs.YbulkcvxmGreatFmt
