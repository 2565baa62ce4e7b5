import Derived.Test.YbulkcwasFl
set_option linter.unusedSimpArgs false
set_option linter.unusedVariables false
namespace Go.Proofs.Ybulkcwas
open Go.RowKit

/-! ### memory -/
theorem newBlock (x : World) (o : Obj) : (x.alloc o).heap[x.heap.size]? = some o := by
  show (x.heap.push o)[x.heap.size]? = _
  simp
theorem belowAlloc (x : World) (o : Obj) : Below x.heap.size x (x.alloc o) := (Below.refl _ _).alloc (Nat.le_refl _) o
theorem keepB {x y : World} {b : Nat} {o : Obj} (h : x.heap[b]? = some o) (hb : Below x.heap.size x y) : y.heap[b]? = some o := by
  rw [hb.block b (Array.getElem?_eq_some_iff.1 h).1]; exact h
theorem cellOf {w : World} {b o : Nat} {cs : Array Value} {T : TypeId} {fz : Nat × Nat} (h : w.heap[b]? = some (.cells cs T fz)) : w.cell? ⟨b, o, none⟩ = cs[o]? := by
  simp [World.cell?, h]
theorem frozenOf {w : World} {b o : Nat} {cs : Array Value} {T : TypeId} (h : w.heap[b]? = some (.cells cs T (0, 0))) : w.frozen? ⟨b, o, none⟩ = false := by
  simp [World.frozen?, h]
theorem sizeOf_block {w : World} {b : Nat} {o : Obj} (h : w.heap[b]? = some o) : b < w.heap.size := (Array.getElem?_eq_some_iff.1 h).1
theorem sizeOf_cell {w : World} {p : Addr} {v : Value} (h : w.cell? p = some v) : p.block < w.heap.size := World.block_lt_of_cell? _ _ h

/-- Nothing that lay in x has turned: 'Below' under one name, so that the walk's simp leaves it as it stands. -/
def Since (x y : World) : Prop := Below x.heap.size x y
theorem Since.of {x y : World} (h : Below x.heap.size x y) : Since x y := h
theorem Since.out {x y : World} (h : Since x y) : Below x.heap.size x y := h
theorem Since.refl (x : World) : Since x x := Below.refl _ _
theorem Since.dr {x : World} : Since x x.drew := (Below.refl _ _).drew
theorem Since.drew {x y : World} (h : Since x y) : Since x y.drew := Below.drew h
theorem Since.then {x y z : World} (h' : Since y z) (h : Since x y) : Since x z := Below.trans h (Below.mono h' (Below.size h))
theorem Since.alloc {x y : World} {o : Obj} (h : Since x y) : Since x (y.alloc o) := Below.alloc h (Below.size h) o
theorem Since.keep {x y : World} {b : Nat} {o : Obj} (h : Since x y) (hx : x.heap[b]? = some o) : y.heap[b]? = some o := keepB hx h
theorem Since.size {x y : World} (h : Since x y) : x.heap.size ≤ y.heap.size := Below.size h
theorem Since.cell {x y : World} {p : Addr} {v : Value} (h : Since x y) (hx : x.cell? p = some v) : y.cell? p = some v := (Below.cell h (sizeOf_cell hx)).trans hx

/-- An equation kept out of simp's sight. -/
structure Hid (p : Prop) : Prop where
  out : p

/-! ### the two orders -/
structure Bnd (e : Ev) : Prop where
  t0 : -128 ≤ e.time
  t1 : e.time < 128

set_option maxRecDepth 100000 in
set_option maxHeartbeats 1000000 in
theorem before_any (a b : Ev) (ha : Bnd a) (hb : Bnd b) (w : World) :
    Calls Yba.prog 12 #[.agg #[.float .f64 (fl a.time), .int .i32 a.fr, .int .i32 a.to, .int .i32 a.tt], .agg #[.float .f64 (fl b.time), .int .i32 b.fr, .int .i32 b.to, .int .i32 b.tt]] w fun r w' => r = .returned (.bool (decide (a.lt b))) ∧ Since w w' := by
  have hS : Since w ((w.alloc (.cells #[.float .f64 (fl a.time), .int .i32 a.fr, .int .i32 a.to, .int .i32 a.tt] 36)).alloc (.cells #[.float .f64 (fl b.time), .int .i32 b.fr, .int .i32 b.to, .int .i32 b.tt] 36)) := Since.alloc (Since.of (belowAlloc _ _))
  rcases Int.lt_trichotomy a.time b.time with h | h | h
  · have ho := order_lt _ _ ha.t0 hb.t1 h
    have hr : decide (a.lt b) = true := decide_eq_true (by unfold Ev.lt; omega)
    rw [hr]
    go_enter Yba.func12, Yba.ntmps12
    go_wp2
    go_ret
    exact ⟨rfl, hS⟩
  · have ho := order_eq _ hb.t0 hb.t1
    rw [h] at hS ⊢
    rcases Int.lt_trichotomy a.fr b.fr with h2 | h2 | h2
    · have hr : decide (a.lt b) = true := decide_eq_true (by unfold Ev.lt; omega)
      have hn : (a.fr != b.fr) = true := by simp; omega
      rw [hr]
      clear h
      go_enter Yba.func12, Yba.ntmps12
      go_wp2
      go_ret
      exact ⟨rfl, hS⟩
    · have hr : decide (a.lt b) = decide (a.to < b.to) := by apply decide_eq_decide.2; unfold Ev.lt; omega
      rw [hr]
      rw [h2] at hS ⊢
      clear h h2
      go_enter Yba.func12, Yba.ntmps12
      go_wp2
      go_ret
      exact ⟨rfl, hS⟩
    · have hr : decide (a.lt b) = false := decide_eq_false (by unfold Ev.lt; omega)
      have hn : (a.fr != b.fr) = true := by simp; omega
      have hq : decide (a.fr < b.fr) = false := by simp; omega
      rw [hr]
      clear h
      go_enter Yba.func12, Yba.ntmps12
      go_wp2
      go_ret
      exact ⟨rfl, hS⟩
  · have ho := order_gt _ _ ha.t1 hb.t0 h
    have hr : decide (a.lt b) = false := decide_eq_false (by unfold Ev.lt; omega)
    rw [hr]
    go_enter Yba.func12, Yba.ntmps12
    go_wp2
    go_ret
    exact ⟨rfl, hS⟩

set_option maxRecDepth 100000 in
set_option maxHeartbeats 1000000 in
theorem less_any (a b : Ev) (ha : Bnd a) (hb : Bnd b) (w : World) :
    Calls Yba.prog 6 #[.agg #[.float .f64 (fl a.time), .int .i32 a.fr, .int .i32 a.to, .int .i32 a.tt], .agg #[.float .f64 (fl b.time), .int .i32 b.fr, .int .i32 b.to, .int .i32 b.tt]] w fun r w' => r = .returned (.bool (decide (a.lt b))) ∧ Since w w' := by
  have hS : Since w ((w.alloc (.cells #[.float .f64 (fl a.time), .int .i32 a.fr, .int .i32 a.to, .int .i32 a.tt] 36)).alloc (.cells #[.float .f64 (fl b.time), .int .i32 b.fr, .int .i32 b.to, .int .i32 b.tt] 36)) := Since.alloc (Since.of (belowAlloc _ _))
  rcases Int.lt_trichotomy a.time b.time with h | h | h
  · have ho := order_lt _ _ ha.t0 hb.t1 h
    have hr : decide (a.lt b) = true := decide_eq_true (by unfold Ev.lt; omega)
    rw [hr]
    go_enter Yba.func6, Yba.ntmps6
    go_wp2
    go_ret
    exact ⟨rfl, hS⟩
  · have ho := order_eq _ hb.t0 hb.t1
    rw [h] at hS ⊢
    rcases Int.lt_trichotomy a.fr b.fr with h2 | h2 | h2
    · have hr : decide (a.lt b) = true := decide_eq_true (by unfold Ev.lt; omega)
      have hq : decide (a.fr < b.fr) = true := by simp; omega
      rw [hr]
      clear h
      go_enter Yba.func6, Yba.ntmps6
      go_wp2
      go_ret
      exact ⟨rfl, hS⟩
    · have hr : decide (a.lt b) = decide (a.to < b.to) := by apply decide_eq_decide.2; unfold Ev.lt; omega
      rw [hr]
      rw [h2] at hS ⊢
      clear h h2
      go_enter Yba.func6, Yba.ntmps6
      go_wp2
      go_ret
      exact ⟨rfl, hS⟩
    · have hr : decide (a.lt b) = false := decide_eq_false (by unfold Ev.lt; omega)
      have hq : decide (a.fr < b.fr) = false := by simp; omega
      have hq2 : decide (b.fr < a.fr) = true := by simp; omega
      rw [hr]
      clear h
      go_enter Yba.func6, Yba.ntmps6
      go_wp2
      go_ret
      exact ⟨rfl, hS⟩
  · have ho := order_gt _ _ ha.t1 hb.t0 h
    have hr : decide (a.lt b) = false := decide_eq_false (by unfold Ev.lt; omega)
    rw [hr]
    go_enter Yba.func6, Yba.ntmps6
    go_wp2
    go_ret
    exact ⟨rfl, hS⟩
end Go.Proofs.Ybulkcwas
