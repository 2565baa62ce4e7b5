import Derived.Test.YbulkcvzcFmtMsg
import Derived.Deep.QuietTactic
import Derived.BigQuiet
import Derived.BigRegion
import Derived.Deep.RegionHeld3
set_option linter.unusedSimpArgs false
set_option linter.unusedVariables false
namespace Go.Proofs.YbulkcvzcFmt
open Go.RowKit

def elV (id : Int) (o s e : Int) : Value := .agg #[.int .u8 id, .int .i64 o, .int .i64 s, .int .i64 e]
/-- The decoder over the message, and its error. -/
def decO (gb N cap : Nat) (er : Option Addr) : Obj := .cells #[.slice (some ⟨gb, 0, none⟩) N cap, .pointer er, .slice none 0 0, .slice none 0 0] 40
/-- The components that are read. -/
def cmpO (db : Nat) (pos fin : Int) (what : ByteArray) (seen last : Int) : Obj := .cells #[.pointer (some ⟨db, 0, none⟩), .int .i64 pos, .int .i64 fin, .pointer (some ⟨db, 0, none⟩), .string what, .int .u32 seen, .int .i64 last] 94

theorem sizeOf_cell {w : World} {p : Addr} {v : Value} (h : w.cell? p = some v) : p.block < w.heap.size := by
  unfold World.cell? at h
  rcases Nat.lt_or_ge p.block w.heap.size with h' | h'
  · exact h'
  · simp [Array.getElem?_eq_none h'] at h
theorem el4 {w : World} {b : Nat} {id o s e : Int} (h : w.heap[b]? = some (.cells #[.int .u8 id, .int .i64 o, .int .i64 s, .int .i64 e] 29)) :
    (∀ w', Below w.heap.size w w' → w'.cell? ⟨b, 0, none⟩ = some (.int .u8 id)) ∧ (∀ w', Below w.heap.size w w' → w'.cell? ⟨b, 1, none⟩ = some (.int .i64 o)) ∧ (∀ w', Below w.heap.size w w' → w'.cell? ⟨b, 2, none⟩ = some (.int .i64 s)) ∧ (∀ w', Below w.heap.size w w' → w'.cell? ⟨b, 3, none⟩ = some (.int .i64 e)) :=
  ⟨fun _ hb => cellOf (keepB h hb), fun _ hb => cellOf (keepB h hb), fun _ hb => cellOf (keepB h hb), fun _ hb => cellOf (keepB h hb)⟩
/-- A block of four cells that may be written. -/
theorem cells4 {w : World} {b : Nat} {v0 v1 v2 v3 : Value} {T : TypeId} (h : w.heap[b]? = some (.cells #[v0, v1, v2, v3] T)) :
    (w.cell? ⟨b, 0, none⟩ = some v0 ∧ w.cell? ⟨b, 1, none⟩ = some v1 ∧ w.cell? ⟨b, 2, none⟩ = some v2 ∧ w.cell? ⟨b, 3, none⟩ = some v3) ∧ (w.frozen? ⟨b, 0, none⟩ = false ∧ w.frozen? ⟨b, 1, none⟩ = false ∧ w.frozen? ⟨b, 2, none⟩ = false ∧ w.frozen? ⟨b, 3, none⟩ = false) :=
  ⟨⟨cellOf h, cellOf h, cellOf h, cellOf h⟩, frozenOf h, frozenOf h, frozenOf h, frozenOf h⟩
theorem belT {x y z : World} (h : Below x.heap.size x y) (h' : Below y.heap.size y z) : Below x.heap.size x z := h.trans (h'.mono h.size)
theorem belAl {x y : World} {o : Obj} (h : Below x.heap.size x y) : Below x.heap.size x (y.alloc o) := belT h (belowAlloc _ _)
theorem newKept {w w' : World} {o : Obj} (h : Below (w.alloc o).heap.size (w.alloc o) w') : w'.heap[w.heap.size]? = some o := keepB (newBlock _ _) h

set_option maxRecDepth 100000 in
theorem constructed_any (id o s e : Int) (w : World) :
    Calls Ybaf.prog 33 #[.agg #[.int .u8 id, .int .i64 o, .int .i64 s, .int .i64 e]] w fun r w' => r = .returned (.bool (bits .and .u8 id 32 != 0)) ∧ Below w.heap.size w w' := by
  go_enter Ybaf.func33, Ybaf.ntmps33
  go_wp2
  go_ret
  exact ⟨rfl, belowAlloc _ _⟩

set_option maxRecDepth 100000 in
set_option maxHeartbeats 1000000 in
theorem inside_any (db : Nat) (id o s e : Int) (w : World) :
    Calls Ybaf.prog 36 #[.pointer (some ⟨db, 0, none⟩), .agg #[.int .u8 id, .int .i64 o, .int .i64 s, .int .i64 e]] w fun r w' => r = .returned (.agg #[.pointer (some ⟨db, 0, none⟩), .int .i64 s, .int .i64 e]) ∧ Below w.heap.size w w' := by
  go_enter Ybaf.func36, Ybaf.ntmps36
  go_wp2
  exact bodyPost_ret (v := .agg #[.pointer (some ⟨db, 0, none⟩), .int .i64 s, .int .i64 e]) (by simp [results, Ybaf.results36, go_sem]) rfl ⟨rfl, (belowAlloc _ _).trans ((belowAlloc _ _).mono (by simp))⟩

set_option maxRecDepth 100000 in
set_option maxHeartbeats 1000000 in
/-- sequence of a constructed element, no error so far. -/
theorem sequence_any (db gb N cap : Nat) (o s e : Int) (what : ByteArray) (w : World) (hD : w.heap[db]? = some (decO gb N cap none)) :
    Calls Ybaf.prog 18 #[.pointer (some ⟨db, 0, none⟩), .agg #[.int .u8 48, .int .i64 o, .int .i64 s, .int .i64 e], .string what] w fun r w' => ∃ c, r = .returned (.pointer (some ⟨c, 0, none⟩)) ∧ w.heap.size ≤ c ∧ w'.heap[c]? = some (cmpO db s e what 0 (-1)) ∧ Below w.heap.size w w' := by
  have hbit : (bits .and .u8 48 32 != 0) = true := by decide
  have d1 : w.cell? ⟨db, 1, none⟩ = some (.pointer none) := cellOf hD
  have hds := sizeOf_block hD
  go_enter Ybaf.func18, Ybaf.ntmps18
  go_wp2_with (go_at_call 33; refine (constructed_any _ _ _ _ _).mono ?_; rintro e w' ⟨rfl, hb⟩; rw [hbit])
  have hB := newKept hb
  obtain ⟨k0, k1, k2, k3⟩ := el4 hB
  have hbw : Below w.heap.size w w' := (belowAlloc _ _).trans (hb.mono (by simp))
  clear hb hB d1 hD
  go_region_held3 (fun w'' => Below w'.heap.size w' w'') (first | exact (Below.refl _ _).drew | exact belT (by assumption) (by assumption) | exact belAl (by assumption)) (first | (go_at_call 36; refine (inside_any _ _ _ _ _ _).mono ?_; rintro e1 w1 ⟨rfl, hb1⟩))
  have hS : Below w'.heap.size w' w1 := belT (y := w'.drew) ((Below.refl _ _).drew) hb1
  have hbw1 := belT hbw hS
  go_wp2
  go_ret
  exact ⟨w1.heap.size, rfl, hbw1.size, newBlock _ _, belAl hbw1⟩

set_option maxRecDepth 100000 in
set_option maxHeartbeats 1000000 in
/-- take: there are enough octets. -/
theorem take_any (db : Nat) (id o s0 e0 pos n fin : Int) (w : World) (h0 : 0 ≤ pos) (h1 : 0 ≤ n) (h2 : pos + n ≤ fin) (h3 : fin ≤ 1000) :
    Calls Ybaf.prog 69 #[.pointer (some ⟨db, 0, none⟩), .agg #[.int .u8 id, .int .i64 o, .int .i64 s0, .int .i64 e0], .int .i64 pos, .int .i64 n, .int .i64 fin] w fun r w' => r = .returned (.tuple #[.agg #[.int .u8 id, .int .i64 o, .int .i64 pos, .int .i64 (pos + n)], .int .i64 (pos + n)]) ∧ Below w.heap.size w w' := by
  have hlt : ¬ (fin - pos < n) := by omega
  go_enter Ybaf.func69, Ybaf.ntmps69
  go_wp2
  go_region
  all_goals go_wp2
  all_goals exact bodyPost_ret (v := .tuple #[.agg #[.int .u8 id, .int .i64 o, .int .i64 pos, .int .i64 (pos + n)], .int .i64 (pos + n)]) (by simp [results, Ybaf.results69, go_sem]) rfl ⟨rfl, ((belAl (belowAlloc _ _)).drew)⟩

theorem and31 (v : Int) (h0 : 0 ≤ v) (h1 : v < 256) : bits .and .u8 v 31 = v % 32 := by
  have h : ∀ k : Fin 256, bits .and .u8 (k.val : Int) 31 = (k.val : Int) % 32 := by decide +kernel
  have := h ⟨v.toNat, by omega⟩
  have e : ((v.toNat : Nat) : Int) = v := by omega
  simpa [e] using this

set_option maxRecDepth 100000 in
set_option maxHeartbeats 1000000 in
/-- element: a one-octet tag, a one-octet length, the contents within 'fin'. -/
theorem element_any (db gb N cap pos : Nat) (id n fin : Int) (w : World) (hD : w.heap[db]? = some (decO gb N cap none)) (hN : N ≤ 1000)
    (hp : pos + 1 < N) (hid : w.cell? ⟨gb, pos, none⟩ = some (.int .u8 id)) (hn : w.cell? ⟨gb, pos + 1, none⟩ = some (.int .u8 n))
    (i0 : 0 ≤ id) (i1 : id < 256) (i2 : id % 32 ≠ 31) (n0 : 0 ≤ n) (n1 : n < 128) (hf : (pos : Int) + 2 + n ≤ fin) (hfin : fin ≤ 1000) :
    Calls Ybaf.prog 53 #[.pointer (some ⟨db, 0, none⟩), .int .i64 pos, .int .i64 fin, .int .i64 0] w fun r w' => r = .returned (.tuple #[.agg #[.int .u8 id, .int .i64 pos, .int .i64 ((pos : Int) + 2), .int .i64 ((pos : Int) + 2 + n)], .int .i64 ((pos : Int) + 2 + n)]) ∧ Below w.heap.size w w' := by
  have d0 : w.cell? ⟨db, 0, none⟩ = some (.slice (some ⟨gb, 0, none⟩) N cap) := cellOf hD
  have d1 : w.cell? ⟨db, 1, none⟩ = some (.pointer none) := cellOf hD
  have hds := sizeOf_block hD
  have a31 := and31 id i0 i1
  have a31' : (bits .and .u8 id 31 == 31) = false := by rw [a31]; exact beq_eq_false_iff_ne.2 i2
  have hgs : gb < w.heap.size := sizeOf_cell hid
  clear hD a31
  go_enter Ybaf.func53, Ybaf.ntmps53
  go_wp2_with fail
  refine (take_any db id pos 0 0 ((pos : Int) + 1 + 1) n fin _ (by omega) n0 (by omega) hfin).mono ?_
  rintro e w1 ⟨rfl, hb⟩
  have hR := keepB (b := w.heap.size) (o := .cells #[.int .u8 0, .int .i64 0, .int .i64 0, .int .i64 0] 29) (keepB (newBlock _ _) (belowAlloc _ _)) hb
  obtain ⟨⟨r0, r1, r2, r3⟩, z0, z1, z2, z3⟩ := cells4 hR
  have hbw : Below w.heap.size w w1 := belT (belAl (belowAlloc _ _)) hb
  clear hR hb
  rw [show (pos : Int) + 1 + 1 = (pos : Int) + 2 by omega]
  go_wp2
  refine bodyPost_ret (v := .tuple #[.agg #[.int .u8 id, .int .i64 pos, .int .i64 ((pos : Int) + 2), .int .i64 ((pos : Int) + 2 + n)], .int .i64 ((pos : Int) + 2 + n)]) (by simp [results, Ybaf.results53, go_sem, r0, r1, r2, r3]) rfl ⟨rfl, ?_⟩
  exact (((hbw.setCell (by simp) _).setCell (by simp) _).setCell (by simp) _).setCell (by simp) _

end Go.Proofs.YbulkcvzcFmt
