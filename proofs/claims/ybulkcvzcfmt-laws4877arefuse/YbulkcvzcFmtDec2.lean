import Derived.Test.YbulkcvzcFmtDec1
set_option linter.unusedSimpArgs false
set_option linter.unusedVariables false
namespace Go.Proofs.YbulkcvzcFmt
open Go.RowKit

/-! ### one block is written, the others stay -/
theorem gTrans {a b c : World} {k : Nat} (h : a.grownBy b (some k)) (h' : b.grownBy c (some k)) : a.grownBy c (some k) :=
  ⟨h'.os.trans h.os, h'.tape.trans h.tape, h'.output.trans h.output, Nat.le_trans h.size h'.size, fun i hi hk => (h'.block i (Nat.lt_of_lt_of_le hi h.size) hk).trans (h.block i hi hk)⟩
theorem gBelow {a b : World} (k : Option Nat) (h : Below a.heap.size a b) : a.grownBy b k := ⟨h.os, h.tape, h.output, h.size, fun i hi _ => h.block i hi⟩
theorem gSet (a : World) (k o : Nat) (v : Value) : a.grownBy (a.setCell ⟨k, o, none⟩ v) (some k) :=
  ⟨rfl, rfl, rfl, by simp [World.setCell], fun i hi hk => Below.heap_setCell _ _ _ _ (fun e => hk (by rw [e]))⟩
theorem gKeep {a b : World} {k i : Nat} {o : Obj} (h : a.grownBy b (some k)) (hi : a.heap[i]? = some o) (hk : i ≠ k) : b.heap[i]? = some o := by
  rw [h.block i (sizeOf_block hi) (fun e => hk (Option.some.inj e))]; exact hi
theorem setOf {w : World} {b o : Nat} {cs : Array Value} {T : TypeId} {fz : Nat × Nat} {v : Value} (h : w.heap[b]? = some (.cells cs T fz)) : (w.setCell ⟨b, o, none⟩ v).heap[b]? = some (.cells (cs.setIfInBounds o v) T fz) := by
  simp [World.setCell, Array.getElem?_modify, h]
theorem setFar {w : World} {b k o : Nat} {v : Value} (h : b ≠ k) : (w.setCell ⟨k, o, none⟩ v).heap[b]? = w.heap[b]? := Below.heap_setCell _ _ _ _ h

/-- Nothing that lay in x has turned: 'Below' under one name, so that the walk's simp leaves it as it stands. -/
def Since (x y : World) : Prop := Below x.heap.size x y
theorem Since.of {x y : World} (h : Below x.heap.size x y) : Since x y := h
theorem Since.out {x y : World} (h : Since x y) : Below x.heap.size x y := h
theorem Since.refl (x : World) : Since x x := Below.refl _ _
theorem Since.dr {x : World} : Since x x.drew := (Below.refl _ _).drew
theorem Since.drew {x y : World} (h : Since x y) : Since x y.drew := Below.drew h
theorem Since.drewN {x y : World} (h : Since x y) (n : Nat) : Since x (y.drewN n) := below_drewN h n
/-- the second step first: it names the world between. -/
theorem Since.then {x y z : World} (h' : Since y z) (h : Since x y) : Since x z := Below.trans h (Below.mono h' (Below.size h))
theorem Since.alloc {x y : World} {o : Obj} (h : Since x y) : Since x (y.alloc o) := Below.alloc h (Below.size h) o
theorem Since.set {x y : World} {p : Addr} {v : Value} (h : Since x y) (hp : x.heap.size ≤ p.block) : Since x (y.setCell p v) := Below.setCell h hp v
theorem Since.set4 {x y : World} {b : Nat} {v0 v1 v2 v3 : Value} (h : Since x y) (hp : x.heap.size ≤ b) : Since x ((((y.setCell ⟨b, 0, none⟩ v0).setCell ⟨b, 1, none⟩ v1).setCell ⟨b, 2, none⟩ v2).setCell ⟨b, 3, none⟩ v3) := (((h.set hp).set hp).set hp).set hp
theorem Since.keep {x y : World} {b : Nat} {o : Obj} (h : Since x y) (hx : x.heap[b]? = some o) : y.heap[b]? = some o := keepB hx h
theorem Since.size {x y : World} (h : Since x y) : x.heap.size ≤ y.heap.size := Below.size h
theorem Since.new {x y : World} {o : Obj} (h : Since (x.alloc o) y) : y.heap[x.heap.size]? = some o := newKept h
theorem Since.newD {x y : World} {o : Obj} (h : Since (x.alloc o).drew y) : y.heap[x.heap.size]? = some o := keepB (x := (x.alloc o).drew) (newBlock x o) h
theorem Since.cell {x y : World} {p : Addr} {v : Value} (h : Since x y) (hx : x.cell? p = some v) : y.cell? p = some v := (Below.cell h (sizeOf_cell hx)).trans hx
theorem cmpS {W : World} {cb db : Nat} {pos fin : Int} {what : ByteArray} {seen last : Int} (h : W.heap[cb]? = some (cmpO db pos fin what seen last)) :
    (∀ w', Since W w' → w'.cell? ⟨cb, 0, none⟩ = some (.pointer (some ⟨db, 0, none⟩))) ∧ (∀ w', Since W w' → w'.cell? ⟨cb, 1, none⟩ = some (.int .i64 pos)) ∧ (∀ w', Since W w' → w'.cell? ⟨cb, 2, none⟩ = some (.int .i64 fin)) ∧
    (∀ w', Since W w' → w'.cell? ⟨cb, 3, none⟩ = some (.pointer (some ⟨db, 0, none⟩))) ∧ (∀ w', Since W w' → w'.cell? ⟨cb, 4, none⟩ = some (.string what)) ∧ (∀ w', Since W w' → w'.cell? ⟨cb, 5, none⟩ = some (.int .u32 seen)) ∧ (∀ w', Since W w' → w'.cell? ⟨cb, 6, none⟩ = some (.int .i64 last)) ∧ (∀ w' o, Since W w' → w'.frozen? ⟨cb, o, none⟩ = false) :=
  ⟨fun _ hb => cellOf (keepB h hb), fun _ hb => cellOf (keepB h hb), fun _ hb => cellOf (keepB h hb), fun _ hb => cellOf (keepB h hb), fun _ hb => cellOf (keepB h hb), fun _ hb => cellOf (keepB h hb), fun _ hb => cellOf (keepB h hb), fun _ _ hb => frozenOf (keepB h hb)⟩
theorem decS {W : World} {db gb N cap : Nat} {er : Option Addr} (h : W.heap[db]? = some (decO gb N cap er)) :
    (∀ w', Since W w' → w'.cell? ⟨db, 0, none⟩ = some (.slice (some ⟨gb, 0, none⟩) N cap)) ∧ (∀ w', Since W w' → w'.cell? ⟨db, 1, none⟩ = some (.pointer er)) ∧ (∀ w' o, Since W w' → w'.frozen? ⟨db, o, none⟩ = false) :=
  ⟨fun _ hb => cellOf (keepB h hb), fun _ hb => cellOf (keepB h hb), fun _ _ hb => frozenOf (keepB h hb)⟩
theorem seven {w : World} {b : Nat} {v0 v1 v2 v3 v4 v5 v6 : Value} {T : TypeId} (h : w.heap[b]? = some (.cells #[v0, v1, v2, v3, v4, v5, v6] T)) :
    w.cell? ⟨b, 0, none⟩ = some v0 ∧ w.cell? ⟨b, 1, none⟩ = some v1 ∧ w.cell? ⟨b, 2, none⟩ = some v2 ∧ w.cell? ⟨b, 3, none⟩ = some v3 ∧ w.cell? ⟨b, 4, none⟩ = some v4 ∧ w.cell? ⟨b, 5, none⟩ = some v5 ∧ w.cell? ⟨b, 6, none⟩ = some v6 ∧ (∀ o, w.frozen? ⟨b, o, none⟩ = false) :=
  ⟨cellOf h, cellOf h, cellOf h, cellOf h, cellOf h, cellOf h, cellOf h, fun _ => frozenOf h⟩

set_option maxRecDepth 100000 in
set_option maxHeartbeats 1000000 in
/-- elements.next where none is left, or where reading has failed. -/
theorem elnext_no (cb db gb N cap : Nat) (er : Option Addr) (pos fin : Int) (what : ByteArray) (seen last : Int) (w : World) (hD : w.heap[db]? = some (decO gb N cap er)) (hC : w.heap[cb]? = some (cmpO db pos fin what seen last))
    (h : er ≠ none ∨ fin ≤ pos) :
    Calls Ybaf.prog 37 #[.pointer (some ⟨cb, 0, none⟩)] w fun r w' => r = .returned (.tuple #[.agg #[.int .u8 0, .int .i64 0, .int .i64 0, .int .i64 0], .bool false]) ∧ Below w.heap.size w w' := by
  have d1 : w.cell? ⟨db, 1, none⟩ = some (.pointer er) := cellOf hD
  have c0 : w.cell? ⟨cb, 0, none⟩ = some (.pointer (some ⟨db, 0, none⟩)) := cellOf hC
  have c1 : w.cell? ⟨cb, 1, none⟩ = some (.int .i64 pos) := cellOf hC
  have c2 : w.cell? ⟨cb, 2, none⟩ = some (.int .i64 fin) := cellOf hC
  have hds := sizeOf_block hD
  have hcs := sizeOf_block hC
  clear hD hC
  cases er with
  | some a =>
    go_enter Ybaf.func37, Ybaf.ntmps37
    go_wp2
    go_quiet (fail)
    go_wp2
    refine bodyPost_ret (v := .tuple #[.agg #[.int .u8 0, .int .i64 0, .int .i64 0, .int .i64 0], .bool false]) (by simp [results, Ybaf.results37, go_sem]) rfl ⟨rfl, ?_⟩
    exact ((((below_drewN (belowAlloc _ _) _).setCell (by simp) _).setCell (by simp) _).setCell (by simp) _).setCell (by simp) _
  | none =>
    have hge : fin ≤ pos := by simpa using h
    go_enter Ybaf.func37, Ybaf.ntmps37
    go_wp2
    go_quiet (fail)
    go_wp2
    refine bodyPost_ret (v := .tuple #[.agg #[.int .u8 0, .int .i64 0, .int .i64 0, .int .i64 0], .bool false]) (by simp [results, Ybaf.results37, go_sem]) rfl ⟨rfl, ?_⟩
    exact ((((below_drewN (belowAlloc _ _) _).setCell (by simp) _).setCell (by simp) _).setCell (by simp) _).setCell (by simp) _

end Go.Proofs.YbulkcvzcFmt
