import Derived.Test.YbulkcwasNew
set_option linter.unusedSimpArgs false
set_option linter.unusedVariables false
namespace Go.Proofs.Ybulkcwas
open Go.RowKit

theorem Yba.info4 : (Yba.prog.info? 4).map (fun i => (i.zero, i.size, i.bytes)) = some (some (.bool false), 1, 1) := by kernel_rfl
theorem made_bool (w : World) (n : Nat) : BoRow (w.alloc (.cells (madeCells #[Value.bool false] n) 4)) w.heap.size n (fun _ => false) := by
  refine ⟨⟨_, newBlock _ _, by simp [size_madeCells], fun v hv => ?_⟩⟩
  simp [madeCells, hv, Nat.mod_one]
/-- The copy that is nothing. -/
def ev0 : Ev := ⟨0, 0, 0, 0⟩
theorem fl0 : fl 0 = 0 := by kernel_rfl
theorem made_ev (w : World) (n : Nat) (hn : n ≤ 16) : EvRow (w.alloc (.cells (madeCells #[Value.float .f64 0, .int .i32 0, .int .i32 0, .int .i32 0] (n * 4)) 36)) w.heap.size n n (fun _ => ev0) := by
  refine ⟨⟨_, newBlock _ _, by simp [size_madeCells], fun v hv => ?_⟩, Nat.le_refl _, by unfold maxLen; omega⟩
  have h0 : v * 4 < n * 4 := by omega
  have h1 : v * 4 + 1 < n * 4 := by omega
  have h2 : v * 4 + 2 < n * 4 := by omega
  have h3 : v * 4 + 3 < n * 4 := by omega
  have m0 : v * 4 % 4 = 0 := by omega
  have m1 : (v * 4 + 1) % 4 = 1 := by omega
  have m2 : (v * 4 + 2) % 4 = 2 := by omega
  have m3 : (v * 4 + 3) % 4 = 3 := by omega
  refine ⟨?_, ?_, ?_, ?_⟩
  · simp [madeCells, h0, m0, ev0, fl0]
  · simp [madeCells, h1, m1, ev0]
  · simp [madeCells, h2, m2, ev0]
  · simp [madeCells, h3, m3, ev0]

/-- The first state. -/
theorem linv0 {base : Nat} {w : World} {qb sb hb ab n : Nat} (hq : w.heap[qb]? = some (.cells #[.slice none 0 0, .slice (some ⟨sb, 0, none⟩) n n] 26)) (hs : SlRow w sb n (fun _ => -1)) (he : EvRow w hb n n (fun _ => ev0)) (ha : BoRow w ab n (fun _ => false))
    (h1 : qb < base) (h2 : sb < base) (h3 : hb < base) (h4 : ab < base) (hb' : base ≤ w.heap.size) (ne : qb ≠ sb) (hd : hb ≠ qb ∧ hb ≠ sb ∧ ab ≠ qb ∧ ab ≠ sb ∧ hb ≠ ab) (n1 : 1 ≤ n) (n16 : n ≤ 16) :
    LInv base w qb sb hb ab n 0 (fun _ => ev0) (fun _ => -1) (fun _ => ev0) (fun _ => false) where
  q := ⟨⟨.inl ⟨rfl, hq⟩, hs, h1, h2, ne, hb', n16, by omega⟩, ⟨fun j hj => absurd hj (Nat.not_lt_zero _), fun v hv => .inl rfl⟩, fun j _ hj => absurd hj (Nat.not_lt_zero _), fun j hj => absurd hj (Nat.not_lt_zero _)⟩
  he := he
  ha := ha
  vw := fun v hv => by simp [view]
  ct := by
    have : ∀ k, cnt (fun _ => false) k = 0 := by
      intro k
      induction k with
      | zero => rfl
      | succ k ih => simp [cnt, ih]
    exact this n
  l1 := h3
  l2 := h4
  d := hd
  n1 := n1
end Go.Proofs.Ybulkcwas
