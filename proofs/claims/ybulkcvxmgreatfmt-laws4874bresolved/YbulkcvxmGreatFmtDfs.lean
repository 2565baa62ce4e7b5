/- The edges as they lie; a frame. -/
import Derived.Test.YbulkcvxmGreatFmtMem
set_option linter.unusedSimpArgs false
set_option linter.unusedVariables false
namespace Go.Proofs.YbulkcvxmGreatFmt
open Go.RowKit

def orC (i : Nat) : List Value := [.int .i64 i]
theorem orC_len (i : Nat) : (orC i).length = 1 := rfl
/-- The edges as they lie: a row of slices of numbers. -/
structure Ed (w : World) (eb n : Nat) (E : Nat → List Nat) : Prop where
  ex : ∃ ES : Nat → Value, Cells w eb 69 n ES ∧ ∀ i, i < n → RowL w 0 3 1 orC (ES i) (E i)
  lt : ∀ i, i < n → ∀ v ∈ E i, v < n
  len : ∀ i, i < n → (E i).length ≤ 1024
  n3 : n ≤ 300
theorem Ed.since {w w' : World} {eb n : Nat} {E : Nat → List Nat} (h : Ed w eb n E) (hs : Since w w') : Ed w' eb n E := by
  obtain ⟨ES, h1, h2⟩ := h.ex
  exact ⟨⟨ES, h1.since hs, fun i hi => (h2 i hi).since hs⟩, h.lt, h.len, h.n3⟩
theorem Ed.kx {w w' : World} {eb n : Nat} {E : Nat → List Nat} {Ts Ms : List Nat} (h : Ed w eb n E) (hk : Kx Ts Ms w w') (h1 : 69 ∉ Ts) (h2 : 3 ∉ Ts) : Ed w' eb n E := by
  obtain ⟨ES, g1, g2⟩ := h.ex
  exact ⟨⟨ES, g1.kx hk h1, fun i hi => hk.row (g2 i hi) h2⟩, h.lt, h.len, h.n3⟩

/-- All blocks stand but the one. -/
structure But (b : Nat) (w w' : World) : Prop where
  os : w'.os = w.os
  tape : w'.tape = w.tape
  output : w'.output = w.output
  size : w.heap.size ≤ w'.heap.size
  block : ∀ i, i < w.heap.size → i ≠ b → w'.heap[i]? = w.heap[i]?
section
variable {b : Nat} {w w' w'' : World}
theorem But.refl (b : Nat) (w : World) : But b w w := ⟨rfl, rfl, rfl, Nat.le_refl _, fun _ _ _ => rfl⟩
theorem But.trans (h : But b w w') (h' : But b w' w'') : But b w w'' :=
  ⟨h'.os.trans h.os, h'.tape.trans h.tape, h'.output.trans h.output, Nat.le_trans h.size h'.size, fun i hi hn => (h'.block i (Nat.lt_of_lt_of_le hi h.size) hn).trans (h.block i hi hn)⟩
theorem But.set (b o : Nat) (v : Value) (w : World) : But b w (w.setCell ⟨b, o, none⟩ v) := ⟨rfl, rfl, rfl, by simp [World.setCell], fun i _ hn => setFar hn⟩
theorem But.keep (h : But b w w') {i : Nat} {o : Obj} (hi : w.heap[i]? = some o) (hn : i ≠ b) : w'.heap[i]? = some o := by
  rw [h.block i (sizeOf_block hi) hn]; exact hi
theorem But.ed {eb n : Nat} {E : Nat → List Nat} {cs : Array Value} {T : TypeId} {fz : Nat × Nat} (h : But b w w') (hb : w.heap[b]? = some (.cells cs T fz)) (h1 : T ≠ 69) (h2 : T ≠ 3) (he : Ed w eb n E) : Ed w' eb n E := by
  obtain ⟨ES, ⟨es, g1, g2⟩, g3⟩ := he.ex
  refine ⟨⟨ES, ⟨es, h.keep g1 (fun e => ?_), g2⟩, fun i hi => (g3 i hi).keep (fun g cs' _ hg => h.keep hg (fun e => ?_))⟩, he.lt, he.len, he.n3⟩
  · subst e; rw [g1] at hb; cases hb; exact h1 rfl
  · subst e; rw [hg] at hb; cases hb; exact h2 rfl
end

theorem Since.but {w0 w w' : World} {b : Nat} (h : Since w0 w) (hb : But b w w') (hl : w0.heap.size ≤ b) : Since w0 w' :=
  ⟨hb.os.trans h.out.os, hb.tape.trans h.out.tape, hb.output.trans h.out.output, Nat.le_trans h.size hb.size, fun i hi => (hb.block i (Nat.lt_of_lt_of_le hi h.size) (by omega)).trans (h.out.block i hi)⟩
end Go.Proofs.YbulkcvxmGreatFmt
