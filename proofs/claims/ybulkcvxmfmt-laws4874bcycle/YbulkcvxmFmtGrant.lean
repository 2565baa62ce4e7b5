/- A grant is added (16). -/
import Derived.Test.YbulkcvxmFmtAt
set_option linter.unusedSimpArgs false
set_option linter.unusedVariables false
namespace Go.Proofs.YbulkcvxmFmt
open Go.RowKit

/-- What a store leaves, as a function. -/
def outW (w : World) : Result Unit → World
  | .ok _ w' => w'
  | _ => w
noncomputable def updW (w : World) (b : Nat) (s : ByteArray) : World := outW w ((Instr.mapUpdate 44 (.map (some b)) (.string s) (.agg #[.bool true, .slice none 0 0])).run Ybaf.prog w)
/-- What a look-up finds. -/
def outB : Result Value → Bool
  | .ok (.agg #[.bool x, _]) _ => x
  | _ => false
noncomputable def lookB (w : World) (b : Nat) (s : ByteArray) : Bool := outB ((Instr.lookup 44 (.map (some b)) (.string s) false).run Ybaf.prog w)
theorem PM.run_store {w : World} {b : Nat} (h : PM w b) {s : ByteArray} (hs : IsK s) : (Instr.mapUpdate 44 (.map (some b)) (.string s) (.agg #[.bool true, .slice none 0 0])).run Ybaf.prog w = .ok () (updW w b s) ∧ PM (updW w b s) b ∧ w.mapTurned (updW w b s) b := by
  obtain ⟨w', hr, h1, h2⟩ := h.store hs
  have e : updW w b s = w' := by unfold updW; rw [hr]; rfl
  rw [e]
  exact ⟨hr, h1, h2⟩
theorem PM.run_look {w : World} {b : Nat} (h : PM w b) {s : ByteArray} (hs : IsK s) : (Instr.lookup 44 (.map (some b)) (.string s) false).run Ybaf.prog w = .ok (.agg #[.bool (lookB w b s), .slice none 0 0]) w := by
  obtain ⟨x, hr⟩ := h.look hs
  have e : lookB w b s = x := by unfold lookB; rw [hr]; rfl
  rw [e]
  exact hr

/-- All blocks stand but the two maps, which are permission maps still. -/
structure Bt (e p : Nat) (w w' : World) : Prop where
  os : w'.os = w.os
  tape : w'.tape = w.tape
  output : w'.output = w.output
  size : w.heap.size ≤ w'.heap.size
  block : ∀ i, i < w.heap.size → i ≠ e → i ≠ p → w'.heap[i]? = w.heap[i]?
  pe : PM w' e
  pp : PM w' p
section
variable {e p : Nat} {w w' w'' : World}
theorem Bt.refl (he : PM w e) (hp : PM w p) : Bt e p w w := ⟨rfl, rfl, rfl, Nat.le_refl _, fun _ _ _ _ => rfl, he, hp⟩
theorem Bt.trans (h : Bt e p w w') (h' : Bt e p w' w'') : Bt e p w w'' :=
  ⟨h'.os.trans h.os, h'.tape.trans h.tape, h'.output.trans h.output, Nat.le_trans h.size h'.size, fun i hi h1 h2 => (h'.block i (Nat.lt_of_lt_of_le hi h.size) h1 h2).trans (h.block i hi h1 h2), h'.pe, h'.pp⟩
theorem Bt.since (h : Bt e p w w') (hs : Since w' w'') : Bt e p w w'' :=
  ⟨hs.out.os.trans h.os, hs.out.tape.trans h.tape, hs.out.output.trans h.output, Nat.le_trans h.size hs.size, fun i hi h1 h2 => (hs.out.block i (Nat.lt_of_lt_of_le hi h.size)).trans (h.block i hi h1 h2), h.pe.since hs, h.pp.since hs⟩
theorem Bt.upd (h : Bt e p w w') {m : Nat} (hm : m = e ∨ m = p) {s : ByteArray} (hs : IsK s) : Bt e p w (updW w' m s) := by
  have hpm : PM w' m := by rcases hm with rfl | rfl; exact h.pe; exact h.pp
  obtain ⟨_, h1, h2⟩ := hpm.run_store hs
  have hg := h2.grown
  refine ⟨hg.os.trans h.os, hg.tape.trans h.tape, hg.output.trans h.output, Nat.le_trans h.size hg.size, fun i hi a1 a2 => (hg.block i (Nat.lt_of_lt_of_le hi h.size) (by simp; rcases hm with rfl | rfl <;> assumption)).trans (h.block i hi a1 a2), ?_, ?_⟩
  · by_cases e1 : m = e
    · rw [← e1]; exact h1
    · exact h.pe.keep (hg.block e h.pe.lt (by simp; exact fun e2 => e1 e2.symm))
  · by_cases e1 : m = p
    · rw [← e1]; exact h1
    · exact h.pp.keep (hg.block p h.pp.lt (by simp; exact fun e2 => e1 e2.symm))
theorem Bt.keep (h : Bt e p w w') {i : Nat} {o : Obj} (hi : w.heap[i]? = some o) (h1 : i ≠ e) (h2 : i ≠ p) : w'.heap[i]? = some o := by
  rw [h.block i (sizeOf_block hi) h1 h2]; exact hi
end

set_option maxRecDepth 100000 in
set_option maxHeartbeats 2000000 in
theorem add_any (k e p : Nat) (w : World) (hk : k < 4) (he : PM w e) (hp : PM w p) :
    Calls Ybaf.prog 16 #[.agg #[.map (some e), .map (some p)], .agg #[.string (codeB k), .pointer none]] w fun r w' => r = .returned (.tuple #[]) ∧ Bt e p w w' := by
  have hS0 := (Since.new (w.alloc (.cells #[.map (some e), .map (some p)] 46)) (.cells #[.string (codeB k), .pointer none] 60)).then (Since.new w (.cells #[.map (some e), .map (some p)] 46))
  have hB := newBlock (w.alloc (.cells #[.map (some e), .map (some p)] 46)) (.cells #[.string (codeB k), .pointer none] 60)
  rw [show (w.alloc (.cells #[.map (some e), .map (some p)] 46)).heap.size = w.heap.size + 1 by simp] at hB
  have le := he.lt
  have lp := hp.lt
  go_enter Ybaf.func16, Ybaf.ntmps16
  go_wp2_with fail
  refine (at_any k e p _ hk).mono ?_
  rintro r w1 ⟨rfl, hS1⟩
  have hS2 := hS1.then hS0
  have hB1 := hS1.keep hB
  obtain ⟨m, hm⟩ : ∃ m, m = if wildB k then p else e := ⟨_, rfl⟩
  have hm2 : m = e ∨ m = p := by rw [hm]; split <;> simp
  rw [← hm]
  have hb0 : Bt e p w w1 := (Bt.refl he hp).since hS2
  have hb1 : Bt e p w1 w1 := Bt.refl (he.since hS2) (hp.since hS2)
  have hpm : ∀ w'', Bt e p w1 w'' → PM w'' m := fun w'' h => by rcases hm2 with h2 | h2 <;> rw [h2]; exact h.pe; exact h.pp
  have d0 : ∀ w'', Bt e p w1 w'' → w''.cell? ⟨w.heap.size + 1, 1, none⟩ = some (.pointer none) := fun w'' h => cellOf (h.keep hB1 (by omega) (by omega))
  have hlk : ∀ w'', Bt e p w1 w'' → (Instr.lookup 44 (.map (some m)) (.string (keyB k)) false).run Ybaf.prog w'' = .ok (.agg #[.bool (lookB w'' m (keyB k)), .slice none 0 0]) w'' := fun w'' h => (hpm w'' h).run_look (keyB_isK k)
  have hst : ∀ w'', Bt e p w1 w'' → (Instr.mapUpdate 44 (.map (some m)) (.string (keyB k)) (.agg #[.bool true, .slice none 0 0])).run Ybaf.prog w'' = .ok () (updW w'' m (keyB k)) := fun w'' h => ((hpm w'' h).run_store (keyB_isK k)).1
  have HM := Hid.mk hm2
  have HB0 := Hid.mk hb0
  clear hm hm2 hb0 hS0 hB hS1 hS2 hpm le lp
  go_wp2
  go_region_held3 (fun w'' => Bt e p w1 w'') (first | exact Bt.since hb1 Since.dr | exact Bt.since (by assumption) hc1 | exact Bt.since (by assumption) hc2 | exact Bt.upd (by assumption) HM.out (keyB_isK k) | assumption) (first | (go_at_call 29; refine (ruleOf_nil _).mono ?_; rintro r2 w2 ⟨rfl, hc1⟩) | (go_at_call 28; refine (or_always _ _).mono ?_; rintro r3 w3 ⟨rfl, hc2⟩))
  all_goals
    have hf := HB0.out.trans (by assumption)
    go_end0
    exact ⟨rfl, hf⟩
end Go.Proofs.YbulkcvxmFmt
