import Derived.Test.YbulkcvzqRows
import Derived.WalkKit
import Derived.WalkSpells
import Derived.WalkLawsBesides
import Derived.Deep.QuietTactic
import Derived.BigQuiet
import Derived.Laws.EntriesVeiled
import Derived.Below
import Derived.LaidEqlPtr
import Derived.Test.YbulkcvzqInv
set_option linter.unusedSimpArgs false
set_option linter.unusedVariables false
namespace Go.Proofs.Ybulkcvzq
open Go.RowKit

set_option maxHeartbeats 400000 in
theorem size_any (b off : Nat) (a : Option Addr) (n c : Nat) (w : World)
    (h0 : w.cell? ⟨b, off, none⟩ = some (.slice a n c)) :
    Calls Yba.prog 6 #[.pointer (some ⟨b, off, none⟩)] w fun e w' => e = .returned (.int .i64 n) ∧ w = w' := by
  go_enter Yba.func6, Yba.ntmps6
  go_wp2
  go_ret
  exact ⟨rfl, rfl⟩

set_option maxHeartbeats 400000 in
theorem buffered_any (b : Nat) (w : World)
    (h0 : w.cell? ⟨b, 3, none⟩ = some (.int .i64 0)) (h1 : w.cell? ⟨b, 2, none⟩ = some (.int .i64 0)):
    Calls Yba.prog 7 #[.pointer (some ⟨b, 0, none⟩)] w fun e w' => e = .returned (.int .i64 0) ∧ ∃ n, w' = w.drewN n := by
  go_enter Yba.func7, Yba.ntmps7
  go_wp2
  go_quiet (fail)
  go_wp2
  go_ret
  exact ⟨rfl, _, rfl⟩

set_option maxHeartbeats 400000 in
theorem reset_any (sa : Addr) (n c : Nat) (T : TypeId) (r : Value) (v0 v1 v2 v3 v4 v5 v6 : Value) (O : Obj) (w : World) :
    Calls Yba.prog 9 #[.pointer (some ⟨w.heap.size, 0, none⟩), .slice (some sa) n c, .iface T r] ((w.alloc (.cells #[v0, v1, v2, v3, v4, v5, v6] 54)).alloc O) fun e w' => e = .returned (.tuple #[]) ∧ w' = ((w.alloc (.cells #[.slice (some sa) n c, .iface T r, .int .i64 0, .int .i64 0, .nilIface, .int .i64 (-1), .int .i64 (-1)] 54)).alloc O) := by
  go_enter Yba.func9, Yba.ntmps9
  go_wp2
  go_end0
  exact ⟨rfl, rfl⟩

theorem Yba.info5 : (Yba.prog.info? 5).map (fun i => (i.zero, i.size, i.bytes)) = some (some (.int .u8 0), 1, 1) := by kernel_rfl

theorem mk64 : ∃ O : Obj, ∀ w : World, (Instr.makeSlice 22 (.int .i64 65536) (.int .i64 65536)).run Yba.prog w = .ok (.slice (some ⟨w.heap.size, 0, none⟩) 65536 65536) (w.alloc O) := by
  obtain ⟨i, hi, hz0, hz1, hz2⟩ := info_parts Yba.info5
  exact ⟨_, fun w => run_make w 22 5 i _ Yba.underlying22 hi hz0 .i64 .i64 65536 65536 (by omega) (by omega) (by rw [hz2]; omega) (by omega)⟩

theorem ta50 (a : Option Addr) (w : World) : (Instr.typeAssert (.iface 24 (.pointer a)) 50 32 true).run Yba.prog w = .ok (.tuple #[.pointer none, .bool false]) w := by kernel_rfl

set_option maxHeartbeats 400000 in
set_option maxRecDepth 100000 in
theorem newReader_any (a : Option Addr) (w : World) :
    Calls Yba.prog 8 #[.iface 24 (.pointer a), .int .i64 65536] w fun e w' => e = .returned (.pointer (some ⟨w.heap.size, 0, none⟩)) ∧
       ∃ O, w' = ((w.alloc (.cells #[.slice (some ⟨w.heap.size + 1, 0, none⟩) 65536 65536, .iface 24 (.pointer a), .int .i64 0, .int .i64 0, .nilIface, .int .i64 (-1), .int .i64 (-1)] 54)).alloc O) := by
  obtain ⟨O, hO⟩ := mk64
  have h1 := ta50
  go_enter Yba.func8, Yba.ntmps8
  go_wp2_with fail
  refine (reset_any _ _ _ _ _ _ _ _ _ _ _ _ _ _).mono ?_
  rintro e w' ⟨rfl, rfl⟩
  go_wp2_with fail
  go_ret
  exact ⟨rfl, _, rfl⟩

theorem mkchan1 (w : World) : (Instr.makeChan 33 (.int .i64 1)).run Yba.prog w = .ok (.chan (some w.heap.size)) (w.alloc (.chan 1 #[] false 0 0 false)) := by kernel_rfl
theorem mkchan0 (w : World) : (Instr.makeChan 33 (.int .i64 0)).run Yba.prog w = .ok (.chan (some w.heap.size)) (w.alloc (.chan 0 #[] false 0 0 false)) := by kernel_rfl


def rdr (a : Option Addr) (ba : Addr) : Array Value := #[.slice (some ba) 65536 65536, .iface 24 (.pointer a), .int .i64 0, .int .i64 0, .nilIface, .int .i64 (-1), .int .i64 (-1)]
def lnk (a : Option Addr) (rb c1 c2 m1 m2 : Nat) : Array Value := #[.int .i64 0, .iface 24 (.pointer a), .pointer (some ⟨rb, 0, none⟩), .chan (some c1), .chan (some c2), .int .i32 0, .int .u32 0, .slice none 0 0, .map (some m1), .map (some m2), .bool false, .bool false]
/-- What the parts of a new link lie in. -/
def Parts (a : Option Addr) (x : World) (rb c1 c2 m1 m2 : Nat) : Prop :=
  (∃ ba, x.heap[rb]? = some (.cells (rdr a ba) 54)) ∧ x.heap[c1]? = some (.chan 1 #[] false 0 0 false) ∧ x.heap[c2]? = some (.chan 0 #[] false 0 0 false) ∧ x.heap[m1]? = some (.map #[] 0) ∧ x.heap[m2]? = some (.map #[] 0)

/-- What each operation of the literal leaves. -/
def F (a : Option Addr) (i : Nat) (v : Value) (x : World) : Prop :=
     match i with
     | 0 => v = .iface 24 (.pointer a)
     | 1 => v = .iface 24 (.pointer a)
     | 2 => ∃ rb ba, v = .pointer (some ⟨rb, 0, none⟩) ∧ x.heap[rb]? = some (.cells (rdr a ba) 54)
     | 3 => ∃ c, v = .chan (some c) ∧ x.heap[c]? = some (.chan 1 #[] false 0 0 false)
     | 4 => ∃ c, v = .chan (some c) ∧ x.heap[c]? = some (.chan 0 #[] false 0 0 false)
     | 5 => ∃ c, v = .map (some c) ∧ x.heap[c]? = some (.map #[] 0)
     | 6 => ∃ c, v = .map (some c) ∧ x.heap[c]? = some (.map #[] 0)
     | 7 => ∃ rb c1 c2 m1 m2, v = .agg (lnk a rb c1 c2 m1 m2) ∧ Parts a x rb c1 c2 m1 m2
     | 8 => ∃ lb rb c1 c2 m1 m2, v = .pointer (some ⟨lb, 0, none⟩) ∧ x.heap[lb]? = some (.cells (lnk a rb c1 c2 m1 m2) 45) ∧ Parts a x rb c1 c2 m1 m2
     | 9 => ∃ lb rb c1 c2 m1 m2, v = .pointer (some ⟨lb, 0, none⟩) ∧ x.heap[lb]? = some (.cells (lnk a rb c1 c2 m1 m2) 45) ∧ Parts a x rb c1 c2 m1 m2
     | _ => True

theorem keepB {x y : World} {b : Nat} {o : Obj} (h : x.heap[b]? = some o) (hb : Below x.heap.size x y) : y.heap[b]? = some o := by
  rw [hb.block b (Array.getElem?_eq_some_iff.1 h).1]; exact h
theorem Parts.keep {a : Option Addr} {x y : World} {rb c1 c2 m1 m2 : Nat} (h : Parts a x rb c1 c2 m1 m2) (hb : Below x.heap.size x y) : Parts a y rb c1 c2 m1 m2 := by
  obtain ⟨⟨ba, h0⟩, h1, h2, h3, h4⟩ := h
  exact ⟨⟨ba, keepB h0 hb⟩, keepB h1 hb, keepB h2 hb, keepB h3 hb, keepB h4 hb⟩
theorem F.keep {a : Option Addr} {i : Nat} {v : Value} {x y : World} (h : F a i v x) (hb : Below x.heap.size x y) : F a i v y := by
  unfold F at h ⊢
  split at h
  · exact h
  · exact h
  · obtain ⟨rb, ba, h1, h2⟩ := h; exact ⟨rb, ba, h1, keepB h2 hb⟩
  · obtain ⟨c, h1, h2⟩ := h; exact ⟨c, h1, keepB h2 hb⟩
  · obtain ⟨c, h1, h2⟩ := h; exact ⟨c, h1, keepB h2 hb⟩
  · obtain ⟨c, h1, h2⟩ := h; exact ⟨c, h1, keepB h2 hb⟩
  · obtain ⟨c, h1, h2⟩ := h; exact ⟨c, h1, keepB h2 hb⟩
  · obtain ⟨rb, c1, c2, m1, m2, h1, h2⟩ := h; exact ⟨rb, c1, c2, m1, m2, h1, h2.keep hb⟩
  · obtain ⟨lb, rb, c1, c2, m1, m2, h1, h2, h3⟩ := h; exact ⟨lb, rb, c1, c2, m1, m2, h1, keepB h2 hb, h3.keep hb⟩
  · obtain ⟨lb, rb, c1, c2, m1, m2, h1, h2, h3⟩ := h; exact ⟨lb, rb, c1, c2, m1, m2, h1, keepB h2 hb, h3.keep hb⟩
  · trivial

theorem belowAlloc (x : World) (o : Obj) : Below x.heap.size x (x.alloc o) := (Below.refl _ _).alloc (Nat.le_refl _) o
theorem newBlock (x : World) (o : Obj) : (x.alloc o).heap[x.heap.size]? = some o := by
  show (x.heap.push o)[x.heap.size]? = _
  simp

set_option maxHeartbeats 300000 in
set_option maxRecDepth 100000 in
theorem newLink_any (a : Option Addr) (w : World) :
    Calls Yba.prog 5 #[.iface 24 (.pointer a)] w fun e w' => ∃ lb rb c1 c2 m1 m2, e = .returned (.pointer (some ⟨lb, 0, none⟩)) ∧ w'.heap[lb]? = some (.cells (lnk a rb c1 c2 m1 m2) 45) ∧ Parts a w' rb c1 c2 m1 m2 ∧ Below w.heap.size w w' := by
  have h1 := mkchan1
  have h2 := mkchan0
  have hmm := @run_makeMap Yba.prog
  go_enter Yba.func5, Yba.ntmps5
  go_wp2
  refine Inv.wp_region_facts (by kernel_rfl) (by kernel_rfl) (by kernel_rfl) (fun x y => Below x.heap.size x y) (fun _ => Below.refl _ _) (fun h h' => h.trans (h'.mono h.size)) (F a) F.keep ?_ ?_
  · intro i o a' w' ho hB hsz hold hfact
    have hi : i < 10 := (Array.getElem?_eq_some_iff.1 ho).1
    match i, hi with
    | 0, _ =>
      cases ho
      have e0 : a'.eval (.tmp 0) = .iface 24 (.pointer a) := hold 0 (by decide)
      exact Inv.step_value (v := .iface 24 (.pointer a)) (w' := w') rfl rfl (by simp [execOp, e0]) ⟨Below.refl _ _, _, rfl, fun _ => rfl⟩
    | 1, _ =>
      cases ho
      have e0 : a'.eval (.tmp 0) = .iface 24 (.pointer a) := hold 0 (by decide)
      exact Inv.step_value (v := .iface 24 (.pointer a)) (w' := w') rfl rfl (by simp [execOp, e0]) ⟨Below.refl _ _, _, rfl, fun _ => rfl⟩
    | 2, _ => 
      cases ho
      have f0 : a'.eval (.tmp 4) = .iface 24 (.pointer a) := hfact ⟨1, .data⟩ (by simp) rfl _ 4 rfl rfl
      have f1 : a'.tmps[4]?.getD undef = .iface 24 (.pointer a) := by simpa [Act.eval] using f0
      refine Inv.step_call (f := 8) (args := #[.iface 24 (.pointer a), .int .i64 65536]) (w' := w') rfl rfl (by simp [execOp, resolve, invoke, f1, Act.eval, go_sem]) ?_
      refine (newReader_any a w').mono ?_
      rintro e w2 ⟨rfl, O, rfl⟩
      refine ⟨_, rfl, ?_, _, rfl, fun _ => ?_⟩
      · exact (belowAlloc _ _).trans ((belowAlloc _ _).mono (by simp))
      · exact ⟨w'.heap.size, _, rfl, keepB (newBlock _ _) (belowAlloc _ _)⟩
    | 3, _ => 
      cases ho
      exact Inv.step_value rfl rfl (by simp [execOp, h1, Act.eval, Result.andThen]) ⟨belowAlloc _ _, _, rfl, fun _ => ⟨_, rfl, newBlock _ _⟩⟩
    | 4, _ =>
      cases ho
      exact Inv.step_value rfl rfl (by simp [execOp, h2, Act.eval, Result.andThen]) ⟨belowAlloc _ _, _, rfl, fun _ => ⟨_, rfl, newBlock _ _⟩⟩
    | 5, _ =>
      cases ho
      exact Inv.step_value rfl rfl (by simp [execOp, hmm, Act.eval, Result.andThen]) ⟨belowAlloc _ _, _, rfl, fun _ => ⟨_, rfl, newBlock _ _⟩⟩
    | 6, _ =>
      cases ho
      exact Inv.step_value rfl rfl (by simp [execOp, hmm, Act.eval, Result.andThen]) ⟨belowAlloc _ _, _, rfl, fun _ => ⟨_, rfl, newBlock _ _⟩⟩
    | 7, _ =>
      cases ho
      have f : a'.eval (.tmp 3) = .iface 24 (.pointer a) := hfact ⟨0, .data⟩ (by simp) rfl _ 3 rfl rfl
      have f0 : a'.tmps[3]?.getD undef = .iface 24 (.pointer a) := by simpa [Act.eval] using f
      obtain ⟨rb, ba, g1, p1⟩ := hfact ⟨2, .data⟩ (by simp) rfl _ 5 rfl rfl
      obtain ⟨c1, g2, p2⟩ := hfact ⟨3, .data⟩ (by simp) rfl _ 6 rfl rfl
      obtain ⟨c2, g3, p3⟩ := hfact ⟨4, .data⟩ (by simp) rfl _ 7 rfl rfl
      obtain ⟨m1, g4, p4⟩ := hfact ⟨5, .data⟩ (by simp) rfl _ 8 rfl rfl
      obtain ⟨m2, g5, p5⟩ := hfact ⟨6, .data⟩ (by simp) rfl _ 9 rfl rfl
      have g1' : a'.tmps[5]?.getD undef = .pointer (some ⟨rb, 0, none⟩) := by simpa [Act.eval] using g1
      have g2' : a'.tmps[6]?.getD undef = .chan (some c1) := by simpa [Act.eval] using g2
      have g3' : a'.tmps[7]?.getD undef = .chan (some c2) := by simpa [Act.eval] using g3
      have g4' : a'.tmps[8]?.getD undef = .map (some m1) := by simpa [Act.eval] using g4
      have g5' : a'.tmps[9]?.getD undef = .map (some m2) := by simpa [Act.eval] using g5
      exact Inv.step_value (v := .agg (lnk a rb c1 c2 m1 m2)) (w' := w') rfl rfl (by simp [execOp, Act.eval, f0, g1', g2', g3', g4', g5', go_sem, lnk]) ⟨Below.refl _ _, _, rfl, fun _ => ⟨rb, c1, c2, m1, m2, rfl, ⟨ba, p1⟩, p2, p3, p4, p5⟩⟩
    | 8, _ =>
      cases ho
      obtain ⟨rb, c1, c2, m1, m2, g1, p1⟩ := hfact ⟨7, .data⟩ (by simp) rfl _ 10 rfl rfl
      have g1' : a'.tmps[10]?.getD undef = .agg (lnk a rb c1 c2 m1 m2) := by simpa [Act.eval] using g1
      exact Inv.step_value (v := .pointer (some ⟨w'.heap.size, 0, none⟩)) (w' := w'.alloc (.cells (lnk a rb c1 c2 m1 m2) 45)) rfl rfl (by simp [execOp, Act.eval, g1', go_sem, lnk]) ⟨belowAlloc _ _, _, rfl, fun _ => ⟨_, rb, c1, c2, m1, m2, rfl, newBlock _ _, p1.keep (belowAlloc _ _)⟩⟩
    | 9, _ =>
      cases ho
      obtain ⟨lb, rb, c1, c2, m1, m2, g1, p0, p1⟩ := hfact ⟨8, .data⟩ (by simp) rfl _ 11 rfl rfl
      exact Inv.step_value (v := .pointer (some ⟨lb, 0, none⟩)) (w' := w') rfl rfl (by simp [execOp, g1]) ⟨Below.refl _ _, _, rfl, fun _ => ⟨lb, rb, c1, c2, m1, m2, rfl, p0, p1⟩⟩
  · intro vs w' hB hfact a2 ha2
    obtain ⟨lb, rb, c1, c2, m1, m2, g1, p0, p1⟩ := hfact 9 _ rfl (by simp)
    have e2 : a2 = { tmps := #[.iface 24 (.pointer a), undef, vs 9, vs 0, vs 1, vs 2, vs 3, vs 4, vs 5, vs 6, vs 7, vs 8], defers := [] } := by rw [ha2]; kernel_rfl
    rw [g1] at e2
    clear ha2 hfact h1 h2 hmm
    subst e2
    go_wp2
    go_ret
    exact ⟨lb, rb, c1, c2, m1, m2, rfl, p0, p1, ⟨hB.os, hB.tape, hB.output, hB.size, hB.block⟩⟩

theorem cellAlloc {w : World} {p : Addr} {v : Value} {o : Obj} (h : w.cell? p = some v) : (w.alloc o).cell? p = some v := by
  unfold World.cell? at h ⊢
  have hb : p.block < w.heap.size := by
    rcases Nat.lt_or_ge p.block w.heap.size with h' | h'
    · exact h'
    · simp [Array.getElem?_eq_none h'] at h
  rw [Below.heap_alloc w o p.block hb]
  exact h
theorem cellOf {w : World} {b o : Nat} {cs : Array Value} {T : TypeId} {fz : Nat × Nat} (h : w.heap[b]? = some (.cells cs T fz)) : w.cell? ⟨b, o, none⟩ = cs[o]? := by
  simp [World.cell?, h]
theorem oneU8 (zs : List Int) : ∀ u ∈ zs.map (Value.int .u8), u.oneCell' = true := by
  intro u hu
  obtain ⟨n, _, rfl⟩ := List.mem_map.1 hu
  rfl

set_option maxRecDepth 100000 in
set_option maxHeartbeats 400000 in
theorem clone_nil (w : World) : Calls Yba.prog 4 #[.slice none 0 0] w fun e w' => e = .returned (.slice none 0 0) ∧ w' = w := by
  have hn := fun (w : World) => Lib.run_eql_slice_nil (P := Yba.prog) w 22 5 none 0 0 0 0 Yba.underlying22
  go_enter Yba.func4, Yba.ntmps4
  go_wp2
  go_ret
  exact ⟨rfl, rfl⟩

set_option maxRecDepth 100000 in
set_option maxHeartbeats 400000 in
theorem clone_some (x : Addr) (len cap : Nat) (zs : List Int) (w : World) (hz : zs.length = cap) (hlc : len ≤ cap) (hl : len ≤ 100000)
    (hc : ∀ i, i < zs.length → w.cell? (x.add i) = some (.int .u8 (zs.getD i 0))) :
    Calls Yba.prog 4 #[.slice (some x) len cap] w fun e w' => (∃ a n c, e = .returned (.slice a n c)) ∧ Below w.heap.size w w' := by
  obtain ⟨i, hi, hz0, hz1, hz2⟩ := info_parts Yba.info5
  have hn := fun (w : World) => Lib.run_eql_slice_nil (P := Yba.prog) w 22 5 (some x) len cap 0 0 Yba.underlying22
  go_enter Yba.func4, Yba.ntmps4
  go_wp2_with (at_builtin; refine wpList_append_own _ rfl _ _ 22 rfl w.heap.size 5 i (.int .u8 0) 1 1 Yba.underlying22 hi hz0 hz1 hz2 rfl (by omega) _ 0 [] rfl ?h1 x len cap ((zs.take len).map (Value.int .u8)) rfl ?h2 ?h3 (oneU8 _) ?h4 ?h5 ?h6 ?h7)
  case h1 => exact ⟨rfl, .inr ⟨w.heap.size, 0, #[], rfl, Nat.le_refl _, newBlock _ _, Nat.le_refl _, Nat.zero_le _, rfl, rfl⟩⟩
  case h2 => simp; omega
  case h3 =>
    intro j u hu
    have hj : j < len := by
      have := (List.getElem?_eq_some_iff.1 hu).1
      simp at this
      omega
    have hcj := hc j (by omega)
    rw [cellAlloc hcj, ← hu]
    simp [hj, show j < zs.length by omega]
  case h4 => simp [maxLen]; omega
  case h5 => omega
  case h6 => simp
  case h7 =>
    intro v' w' hown hg hne
    go_wp2
    go_ret
    refine ⟨?_, ?_⟩
    · obtain ⟨_, h | ⟨g, cap, cur, h, _⟩⟩ := hown
      · exact ⟨none, 0, 0, by rw [h.1]; rfl⟩
      · exact ⟨_, _, _, by rw [h]; rfl⟩
    · exact ((Below.refl _ _).alloc (Nat.le_refl _) _).grown hg (by simp) (by simp [Value.ownBlock])

theorem Yba.info26 : (Yba.prog.info? 26).map (fun i => (i.size)) = some 6 := by kernel_rfl
theorem neq_same (a : Addr) (w : World) : (binOp .neq 24 (.pointer (some a)) (.pointer (some a))).run Yba.prog w = .ok (.bool false) w := by
  obtain ⟨i, hi, hz⟩ := Option.map_eq_some_iff.1 Yba.info26
  have h : ∀ d : Nat, (Op.equalIn (d + 1) 24 (.pointer (some a)) (.pointer (some a))).run Yba.prog w = .ok true w := fun d => by
    simp [Op.equalIn, run_underlying Yba.underlying24, sizeOf, typeInfo, hi, hz, run_sameAddr_same]
  simp only [binOp]
  simp [Op.equal, Op.maxDepth, h 9999]
theorem chan_nil (c : Nat) (w : World) : (binOp .eql 33 (.chan (some c)) (.chan none)).run Yba.prog w = .ok (.bool false) w := by kernel_rfl
theorem map_nil42 (c : Nat) (w : World) : (binOp .eql 42 (.map (some c)) (.map none)).run Yba.prog w = .ok (.bool false) w := by kernel_rfl
theorem map_nil43 (c : Nat) (w : World) : (binOp .eql 43 (.map (some c)) (.map none)).run Yba.prog w = .ok (.bool false) w := by kernel_rfl
theorem sl_nil (w : World) : (binOp .neq 41 (.slice none 0 0) (.slice none 0 0)).run Yba.prog w = .ok (.bool false) w := by kernel_rfl
theorem cap_chan (c n : Nat) (w : World) (h : w.heap[c]? = some (.chan n #[] false 0 0 false)) : (Builtin.cap_ #[33] 3 #[.chan (some c)]).run Yba.prog w = .ok (.int .i64 n) w := by
  simp [Builtin.cap_, run_underlying Yba.underlying33, getObj, Sem.run, h, goInt]
theorem len_chan (c n : Nat) (w : World) (h : w.heap[c]? = some (.chan n #[] false 0 0 false)) : (Builtin.len_ #[33] 3 #[.chan (some c)]).run Yba.prog w = .ok (.int .i64 0) w := by
  simp [Builtin.len_, run_underlying Yba.underlying33, getObj, Sem.run, h, goInt]
theorem len_map42 (c : Nat) (w : World) (h : w.heap[c]? = some (.map #[] 0)) : (Builtin.len_ #[42] 3 #[.map (some c)]).run Yba.prog w = .ok (.int .i64 0) w := by
  simp [Builtin.len_, run_underlying Yba.underlying42, getObj, Sem.run, h, goInt]
theorem len_map43 (c : Nat) (w : World) (h : w.heap[c]? = some (.map #[] 0)) : (Builtin.len_ #[43] 3 #[.map (some c)]).run Yba.prog w = .ok (.int .i64 0) w := by
  simp [Builtin.len_, run_underlying Yba.underlying43, getObj, Sem.run, h, goInt]

/-- What is asked of the clone: a slice, and nothing old has turned. -/
def Cloned (x : Option Addr) (len cap : Nat) (w : World) : Prop :=
  Calls Yba.prog 4 #[.slice x len cap] w fun e w' => (∃ a n c, e = .returned (.slice a n c)) ∧ Below w.heap.size w w'

set_option maxRecDepth 100000 in
set_option maxHeartbeats 400000 in
theorem law_small (x : Option Addr) (len cap : Nat) (c : Int) (w : World) (hl : len ≤ 100000) (hc0 : 0 ≤ c) (hc1 : c < 256)
    (hcl : Cloned x len cap w) :
    Calls Yba.prog 3 #[.slice x len cap, .int .u8 c] w fun e w' => e = .returned (.bool true) ∧ Below w.heap.size w w' := by
  go_enter Yba.func3, Yba.ntmps3
  go_wp2_with fail
  refine Calls.mono hcl ?_
  rintro e w1 ⟨⟨ca, cn, cc, rfl⟩, hb1⟩
  go_wp2_with fail
  refine (newLink_any _ _).mono ?_
  rintro e w2 ⟨lb, rb, c1, c2, m1, m2, rfl, hl, ⟨⟨ba, hr⟩, hc1, hc2, hm1, hm2⟩, hb2⟩
  have k0 : w2.cell? ⟨lb, 0, none⟩ = some (.int .i64 0) := cellOf hl
  have k1 : w2.cell? ⟨lb, 1, none⟩ = some (.iface 24 (.pointer (some ⟨w1.heap.size, 0, none⟩))) := cellOf hl
  have k2 : w2.cell? ⟨lb, 2, none⟩ = some (.pointer (some ⟨rb, 0, none⟩)) := cellOf hl
  have k3 : w2.cell? ⟨lb, 3, none⟩ = some (.chan (some c1)) := cellOf hl
  have k4 : w2.cell? ⟨lb, 4, none⟩ = some (.chan (some c2)) := cellOf hl
  have k7 : w2.cell? ⟨lb, 7, none⟩ = some (.slice none 0 0) := cellOf hl
  have k8 : w2.cell? ⟨lb, 8, none⟩ = some (.map (some m1)) := cellOf hl
  have k9 : w2.cell? ⟨lb, 9, none⟩ = some (.map (some m2)) := cellOf hl
  have k10 : w2.cell? ⟨lb, 10, none⟩ = some (.bool false) := cellOf hl
  have k11 : w2.cell? ⟨lb, 11, none⟩ = some (.bool false) := cellOf hl
  have r0 : w2.cell? ⟨rb, 0, none⟩ = some (.slice (some ba) 65536 65536) := cellOf hr
  have r2 : w2.cell? ⟨rb, 2, none⟩ = some (.int .i64 0) := cellOf hr
  have r3 : w2.cell? ⟨rb, 3, none⟩ = some (.int .i64 0) := cellOf hr
  have ta : ∀ (a : Option Addr) (w : World), (Instr.typeAssert (.iface 24 (.pointer a)) 31 24 true).run Yba.prog w = .ok (.tuple #[.pointer a, .bool true]) w := fun a w => by kernel_rfl
  have hcn := hb2.block w1.heap.size (by simp)
  rw [newBlock] at hcn
  have n3 : w2.cell? ⟨w1.heap.size, 3, none⟩ = some (.int .i64 0) := cellOf hcn
  have n4 : w2.cell? ⟨w1.heap.size, 4, none⟩ = some (.int .i64 0) := cellOf hcn
  have n5 : w2.cell? ⟨w1.heap.size, 5, none⟩ = some (.int .i64 0) := cellOf hcn
  have q1 := neq_same
  have q2 := chan_nil
  have q3 := map_nil42
  have q4 := map_nil43
  have q5 := sl_nil
  have q6 := fun n => cap_chan c1 1 (w2.drewN n) hc1
  have q7 := fun n => len_chan c1 1 (w2.drewN n) hc1
  have q8 := fun n => cap_chan c2 0 (w2.drewN n) hc2
  have q9 := fun n => len_map42 m1 (w2.drewN n) hm1
  have q10 := fun n => len_map43 m2 (w2.drewN n) hm2
  have hb2' := hb2.mono (B' := w1.heap.size) (by simp)
  clear hb2 hcn hl hr hc1 hc2 hm1 hm2
  go_wp2_with (first | (go_at_call 6; refine (size_any _ _ _ _ _ _ r0).mono ?_; rintro e w' ⟨rfl, rfl⟩) | (go_at_call 7; refine (buffered_any _ _ r3 r2).mono ?_; rintro e w' ⟨rfl, n, rfl⟩))
  go_ret
  refine ⟨rfl, ?_⟩
  have b2 := hb1.trans (((belowAlloc _ _).trans hb2').mono hb1.size)
  exact ⟨b2.os, b2.tape, b2.output, b2.size, b2.block⟩

set_option maxRecDepth 100000 in
set_option maxHeartbeats 400000 in
theorem law_big (x : Option Addr) (len cap : Nat) (c : Int) (w : World) (hl : 100000 < len) (hm : len ≤ maxLen) :
    Calls Yba.prog 3 #[.slice x len cap, .int .u8 c] w fun e w' => e = .returned (.bool true) ∧ Below w.heap.size w w' := by
  unfold maxLen at hm
  have h : (100000 : Int) < (len : Int) := by omega
  go_enter Yba.func3, Yba.ntmps3
  go_wp2
  go_ret
  exact ⟨rfl, Below.refl _ _⟩
end Go.Proofs.Ybulkcvzq
