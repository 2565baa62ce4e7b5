import Derived.Test.YbulkcwasMem
set_option linter.unusedSimpArgs false
set_option linter.unusedVariables false
namespace Go.Proofs.Ybulkcwas
open Go.RowKit

/-- A queue whose heap has room: its struct at qb, its copies at g, its slots at sb. -/
structure Qm (w : World) (qb sb g n m cap : Nat) (V : Nat → Ev) (T : Nat → Int) : Prop where
  hq : w.heap[qb]? = some (.cells #[.slice (some ⟨g, 0, none⟩) m cap, .slice (some ⟨sb, 0, none⟩) n n] 26)
  he : EvRow w g m cap V
  hs : SlRow w sb n T
  d1 : qb ≠ g
  d2 : qb ≠ sb
  d3 : g ≠ sb
  n16 : n ≤ 16
  m16 : m ≤ 16

theorem Qm.since {w w' : World} {qb sb g n m cap : Nat} {V : Nat → Ev} {T : Nat → Int} (h : Qm w qb sb g n m cap V T) (hs : Since w w') : Qm w' qb sb g n m cap V T :=
  ⟨hs.keep h.hq, h.he.since hs, h.hs.since hs, h.d1, h.d2, h.d3, h.n16, h.m16⟩

set_option maxRecDepth 100000 in
set_option maxHeartbeats 1000000 in
theorem place_any (qb sb g n m cap i : Nat) (c : Ev) (V : Nat → Ev) (T : Nat → Int) (w : World) (h : Qm w qb sb g n m cap V T) (hi : i < m) (c0 : 0 ≤ c.to) (c1 : c.to < n) :
    Calls Yba.prog 14 #[.pointer (some ⟨qb, 0, none⟩), .int .i64 i, .agg #[.float .f64 (fl c.time), .int .i32 c.fr, .int .i32 c.to, .int .i32 c.tt]] w fun r w' => r = .returned (.tuple #[]) ∧ Qm w' qb sb g n m cap (upd V i c) (upd T c.to.toNat i) ∧ Fr [g, sb] w w' := by
  obtain ⟨to, hto⟩ : ∃ to : Nat, c.to = to := ⟨c.to.toNat, by omega⟩
  have htn : to < n := by omega
  have HTO : Hid (c.to = to) := ⟨hto⟩
  have e1 : c.to.toNat = to := by omega
  rw [e1, hto]
  have n16 := h.n16
  have m16 := h.m16
  clear hto e1 c0 c1
  have hq0 : w.cell? ⟨qb, 0, none⟩ = some (.slice (some ⟨g, 0, none⟩) m cap) := cellOf h.hq
  have hq1 : w.cell? ⟨qb, 1, none⟩ = some (.slice (some ⟨sb, 0, none⟩) n n) := cellOf h.hq
  have l1 := sizeOf_block h.hq
  have l2 := h.he.lt
  have l3 := h.hs.lt
  obtain ⟨h0, h1, h2, h3⟩ := h.he.cell hi
  have z0 := h.he.frozen (i * 4)
  have z1 := h.he.frozen (i * 4 + 1)
  have z2 := h.he.frozen (i * 4 + 2)
  have z3 := h.he.frozen (i * 4 + 3)
  have s0 := h.hs.cell htn
  have sz := h.hs.frozen to
  have d1 := h.d1
  have d2 := h.d2
  have d3 := h.d3
  go_enter Yba.func14, Yba.ntmps14
  go_wp2
  go_region
  go_wp2
  go_region
  go_end0
  have hev := h.he.set hi c
  rw [HTO.out] at hev
  have hsv : SlRow ((((w.setCell ⟨g, i * 4, none⟩ (.float .f64 (fl c.time))).setCell ⟨g, i * 4 + 1, none⟩ (.int .i32 c.fr)).setCell ⟨g, i * 4 + 2, none⟩ (.int .i32 to)).setCell ⟨g, i * 4 + 3, none⟩ (.int .i32 c.tt)) sb n T :=
    h.hs.keep (by rw [setFar (Ne.symm d3), setFar (Ne.symm d3), setFar (Ne.symm d3), setFar (Ne.symm d3)])
  have hs5 := hsv.set htn i
  have hev5 := hev.keep (w' := World.setCell _ ⟨sb, to, none⟩ (.int .i32 i)) (setFar d3)
  have hq5 : (((((w.setCell ⟨g, i * 4, none⟩ (.float .f64 (fl c.time))).setCell ⟨g, i * 4 + 1, none⟩ (.int .i32 c.fr)).setCell ⟨g, i * 4 + 2, none⟩ (.int .i32 to)).setCell ⟨g, i * 4 + 3, none⟩ (.int .i32 c.tt)).setCell ⟨sb, to, none⟩ (.int .i32 i)).heap[qb]? = some (.cells #[.slice (some ⟨g, 0, none⟩) m cap, .slice (some ⟨sb, 0, none⟩) n n] 26) := by
    rw [setFar d2, setFar d1, setFar d1, setFar d1, setFar d1]; exact h.hq
  have hQ : Qm _ qb sb g n m cap (upd V i c) (upd T to i) := ⟨hq5, hev5, hs5, d1, d2, d3, n16, m16⟩
  exact ⟨rfl, hQ.since (Since.drew (Since.drew (Since.of (belowAlloc _ _)))), Fr.drew (Fr.drew (Fr.alloc (Fr.set (Fr.set (Fr.set (Fr.set (Fr.set (Fr.refl _ _) (.inl (by simp))) (.inl (by simp))) (.inl (by simp))) (.inl (by simp))) (.inl (by simp)))))⟩
end Go.Proofs.Ybulkcwas
