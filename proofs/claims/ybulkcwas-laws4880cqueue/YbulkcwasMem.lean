import Derived.Test.YbulkcwasLess
set_option linter.unusedSimpArgs false
set_option linter.unusedVariables false
namespace Go.Proofs.Ybulkcwas
open Go.RowKit

@[go_sem] theorem run_store_float (P : Program) (w : World) (a : Addr) (k : FloatKind) (b : Nat) (m : Mode) : (store a (.float k b) m).run P w = stored P w a (.float k b) m := run_store P w a _ m rfl

/-- What a call leaves alone: all old blocks but those of K. -/
structure Fr (K : List Nat) (w w' : World) : Prop where
  os : w'.os = w.os
  tape : w'.tape = w.tape
  output : w'.output = w.output
  size : w.heap.size ≤ w'.heap.size
  block : ∀ i, i < w.heap.size → i ∉ K → w'.heap[i]? = w.heap[i]?

theorem Fr.refl (K : List Nat) (w : World) : Fr K w w := ⟨rfl, rfl, rfl, Nat.le_refl _, fun _ _ _ => rfl⟩
theorem Fr.trans {K : List Nat} {a b c : World} (h : Fr K a b) (h' : Fr K b c) : Fr K a c :=
  ⟨h'.os.trans h.os, h'.tape.trans h.tape, h'.output.trans h.output, Nat.le_trans h.size h'.size, fun i hi hk => (h'.block i (Nat.lt_of_lt_of_le hi h.size) hk).trans (h.block i hi hk)⟩
theorem Fr.since {K : List Nat} {a b : World} (h : Since a b) : Fr K a b := ⟨h.out.os, h.out.tape, h.out.output, h.out.size, fun i hi _ => h.out.block i hi⟩
theorem Fr.set {K : List Nat} {a b : World} {k o : Nat} {v : Value} (h : Fr K a b) (hk : k ∈ K ∨ a.heap.size ≤ k) : Fr K a (b.setCell ⟨k, o, none⟩ v) :=
  ⟨h.os, h.tape, h.output, by simpa [World.setCell] using h.size, fun i hi hn => (Below.heap_setCell _ _ _ _ (by intro e; have e' : i = k := e; subst e'; rcases hk with hk | hk <;> first | exact hn hk | omega)).trans (h.block i hi hn)⟩
theorem Fr.drew {K : List Nat} {a b : World} (h : Fr K a b) : Fr K a b.drew := ⟨h.os, h.tape, h.output, h.size, h.block⟩
theorem Fr.drewN {K : List Nat} {a b : World} (n : Nat) (h : Fr K a b) : Fr K a (b.drewN n) := ⟨h.os, h.tape, h.output, h.size, h.block⟩
theorem Fr.alloc {K : List Nat} {a b : World} {o : Obj} (h : Fr K a b) : Fr K a (b.alloc o) := h.trans (Fr.since (Since.of (belowAlloc _ _)))
theorem Fr.keep {K : List Nat} {a b : World} {i : Nat} {o : Obj} (h : Fr K a b) (hi : a.heap[i]? = some o) (hk : i ∉ K) : b.heap[i]? = some o := by
  rw [h.block i (sizeOf_block hi) hk]; exact hi
theorem Fr.mono {K K' : List Nat} {a b : World} (h : Fr K a b) (hk : ∀ i ∈ K, i ∈ K' ∨ a.heap.size ≤ i) : Fr K' a b :=
  ⟨h.os, h.tape, h.output, h.size, fun i hi hn => h.block i hi (fun e => by rcases hk i e with h1 | h1 <;> first | exact hn h1 | omega)⟩
theorem Fr.new {K : List Nat} {a b : World} (h : Fr K a b) (hk : ∀ i ∈ K, a.heap.size ≤ i) : Since a b :=
  ⟨h.os, h.tape, h.output, h.size, fun i hi => h.block i hi (fun e => by have := hk i e; omega)⟩

theorem setOf {w : World} {b o : Nat} {cs : Array Value} {T : TypeId} {fz : Nat × Nat} {v : Value} (h : w.heap[b]? = some (.cells cs T fz)) : (w.setCell ⟨b, o, none⟩ v).heap[b]? = some (.cells (cs.setIfInBounds o v) T fz) := by
  simp [World.setCell, Array.getElem?_modify, h]
theorem setFar {w : World} {b k o : Nat} {v : Value} (h : b ≠ k) : (w.setCell ⟨k, o, none⟩ v).heap[b]? = w.heap[b]? := Below.heap_setCell _ _ _ _ h

/-- m copies lie from the block's start on. -/
structure EvRow (w : World) (g m cap : Nat) (V : Nat → Ev) : Prop where
  ex : ∃ cur, w.heap[g]? = some (.cells cur 36) ∧ cur.size = cap * 4 ∧ ∀ j, j < m → cur[j * 4]? = some (.float .f64 (fl (V j).time)) ∧ cur[j * 4 + 1]? = some (.int .i32 (V j).fr) ∧ cur[j * 4 + 2]? = some (.int .i32 (V j).to) ∧ cur[j * 4 + 3]? = some (.int .i32 (V j).tt)
  mc : m ≤ cap
  cm : cap ≤ maxLen

section
variable {w w' : World} {g m cap : Nat} {V : Nat → Ev}
theorem EvRow.lt (h : EvRow w g m cap V) : g < w.heap.size := by obtain ⟨cur, h1, _⟩ := h.ex; exact sizeOf_block h1
theorem EvRow.keep (h : EvRow w g m cap V) (he : w'.heap[g]? = w.heap[g]?) : EvRow w' g m cap V := by
  obtain ⟨cur, h1, h2⟩ := h.ex
  exact ⟨⟨cur, he.trans h1, h2⟩, h.mc, h.cm⟩
theorem EvRow.fr {K : List Nat} (h : EvRow w g m cap V) (hf : Fr K w w') (hk : g ∉ K) : EvRow w' g m cap V := h.keep (hf.block g h.lt hk)
theorem EvRow.since (h : EvRow w g m cap V) (hs : Since w w') : EvRow w' g m cap V := h.keep (hs.out.block g h.lt)
theorem EvRow.cell (h : EvRow w g m cap V) {j : Nat} (hj : j < m) : w.cell? ⟨g, j * 4, none⟩ = some (.float .f64 (fl (V j).time)) ∧ w.cell? ⟨g, j * 4 + 1, none⟩ = some (.int .i32 (V j).fr) ∧ w.cell? ⟨g, j * 4 + 2, none⟩ = some (.int .i32 (V j).to) ∧ w.cell? ⟨g, j * 4 + 3, none⟩ = some (.int .i32 (V j).tt) := by
  obtain ⟨cur, h1, _, h2⟩ := h.ex
  rw [cellOf h1, cellOf h1, cellOf h1, cellOf h1]
  exact h2 j hj
theorem EvRow.frozen (h : EvRow w g m cap V) (o : Nat) : w.frozen? ⟨g, o, none⟩ = false := by
  obtain ⟨cur, h1, _⟩ := h.ex
  exact frozenOf h1
theorem EvRow.shrink (h : EvRow w g m cap V) {k : Nat} (hk : k ≤ m) : EvRow w g k cap V := by
  obtain ⟨cur, h1, h3, h2⟩ := h.ex
  exact ⟨⟨cur, h1, h3, fun j hj => h2 j (by omega)⟩, Nat.le_trans hk h.mc, h.cm⟩
theorem EvRow.set (h : EvRow w g m cap V) {i : Nat} (hi : i < m) (c : Ev) :
    EvRow ((((w.setCell ⟨g, i * 4, none⟩ (.float .f64 (fl c.time))).setCell ⟨g, i * 4 + 1, none⟩ (.int .i32 c.fr)).setCell ⟨g, i * 4 + 2, none⟩ (.int .i32 c.to)).setCell ⟨g, i * 4 + 3, none⟩ (.int .i32 c.tt)) g m cap (upd V i c) := by
  obtain ⟨cur, h1, h3, h2⟩ := h.ex
  have hm := h.mc
  refine ⟨⟨_, setOf (setOf (setOf (setOf h1))), by simp [h3], fun j hj => ?_⟩, h.mc, h.cm⟩
  by_cases e : j = i
  · subst e
    rw [upd_same]
    simp only [Array.getElem?_setIfInBounds, Array.size_setIfInBounds]
    refine ⟨?_, ?_, ?_, ?_⟩ <;> simp <;> omega
  · rw [upd_ne _ _ e]
    simp only [Array.getElem?_setIfInBounds, Array.size_setIfInBounds]
    obtain ⟨a, b, c', d⟩ := h2 j hj
    refine ⟨?_, ?_, ?_, ?_⟩
    · rw [if_neg (by omega), if_neg (by omega), if_neg (by omega), if_neg (by omega)]; exact a
    · rw [if_neg (by omega), if_neg (by omega), if_neg (by omega), if_neg (by omega)]; exact b
    · rw [if_neg (by omega), if_neg (by omega), if_neg (by omega), if_neg (by omega)]; exact c'
    · rw [if_neg (by omega), if_neg (by omega), if_neg (by omega), if_neg (by omega)]; exact d
theorem EvRow.congr (h : EvRow w g m cap V) {V' : Nat → Ev} (he : ∀ j, j < m → V' j = V j) : EvRow w g m cap V' := by
  obtain ⟨cur, h1, h3, h2⟩ := h.ex
  exact ⟨⟨cur, h1, h3, fun j hj => by rw [he j hj]; exact h2 j hj⟩, h.mc, h.cm⟩
end

/-- n slots. -/
structure SlRow (w : World) (b n : Nat) (T : Nat → Int) : Prop where
  ex : ∃ cur, w.heap[b]? = some (.cells cur 21) ∧ cur.size = n ∧ ∀ v, v < n → cur[v]? = some (.int .i32 (T v))
section
variable {w w' : World} {b n : Nat} {T : Nat → Int}
theorem SlRow.lt (h : SlRow w b n T) : b < w.heap.size := by obtain ⟨cur, h1, _⟩ := h.ex; exact sizeOf_block h1
theorem SlRow.keep (h : SlRow w b n T) (he : w'.heap[b]? = w.heap[b]?) : SlRow w' b n T := by
  obtain ⟨cur, h1, h2⟩ := h.ex
  exact ⟨⟨cur, he.trans h1, h2⟩⟩
theorem SlRow.fr {K : List Nat} (h : SlRow w b n T) (hf : Fr K w w') (hk : b ∉ K) : SlRow w' b n T := h.keep (hf.block b h.lt hk)
theorem SlRow.since (h : SlRow w b n T) (hs : Since w w') : SlRow w' b n T := h.keep (hs.out.block b h.lt)
theorem SlRow.cell (h : SlRow w b n T) {v : Nat} (hv : v < n) : w.cell? ⟨b, v, none⟩ = some (.int .i32 (T v)) := by
  obtain ⟨cur, h1, _, h2⟩ := h.ex
  rw [cellOf h1]
  exact h2 v hv
theorem SlRow.frozen (h : SlRow w b n T) (o : Nat) : w.frozen? ⟨b, o, none⟩ = false := by
  obtain ⟨cur, h1, _⟩ := h.ex
  exact frozenOf h1
theorem SlRow.set (h : SlRow w b n T) {v : Nat} (hv : v < n) (x : Int) : SlRow (w.setCell ⟨b, v, none⟩ (.int .i32 x)) b n (upd T v x) := by
  obtain ⟨cur, h1, h3, h2⟩ := h.ex
  refine ⟨⟨_, setOf h1, by simp [h3], fun u hu => ?_⟩⟩
  by_cases e : u = v
  · subst e; rw [upd_same, Array.getElem?_setIfInBounds, if_pos rfl, if_pos (by omega)]
  · rw [upd_ne _ _ e, Array.getElem?_setIfInBounds, if_neg (fun e' => e e'.symm)]; exact h2 u hu
end
end Go.Proofs.Ybulkcwas
