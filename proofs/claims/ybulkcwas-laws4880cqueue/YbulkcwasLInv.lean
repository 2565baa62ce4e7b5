import Derived.Test.YbulkcwasOffer2
set_option linter.unusedSimpArgs false
set_option linter.unusedVariables false
namespace Go.Proofs.Ybulkcwas
open Go.RowKit

/-- n bools. -/
structure BoRow (w : World) (b n : Nat) (A : Nat → Bool) : Prop where
  ex : ∃ cur, w.heap[b]? = some (.cells cur 4) ∧ cur.size = n ∧ ∀ v, v < n → cur[v]? = some (.bool (A v))
section
variable {w w' : World} {b n : Nat} {A : Nat → Bool}
theorem BoRow.lt (h : BoRow w b n A) : b < w.heap.size := by obtain ⟨cur, h1, _⟩ := h.ex; exact sizeOf_block h1
theorem BoRow.keep (h : BoRow w b n A) (he : w'.heap[b]? = w.heap[b]?) : BoRow w' b n A := by
  obtain ⟨cur, h1, h2⟩ := h.ex
  exact ⟨⟨cur, he.trans h1, h2⟩⟩
theorem BoRow.since (h : BoRow w b n A) (hs : Since w w') : BoRow w' b n A := h.keep (hs.out.block b h.lt)
theorem BoRow.cell (h : BoRow w b n A) {v : Nat} (hv : v < n) : w.cell? ⟨b, v, none⟩ = some (.bool (A v)) := by
  obtain ⟨cur, h1, _, h2⟩ := h.ex
  rw [cellOf h1]
  exact h2 v hv
theorem BoRow.frozen (h : BoRow w b n A) (o : Nat) : w.frozen? ⟨b, o, none⟩ = false := by
  obtain ⟨cur, h1, _⟩ := h.ex
  exact frozenOf h1
theorem BoRow.set (h : BoRow w b n A) {v : Nat} (hv : v < n) (x : Bool) : BoRow (w.setCell ⟨b, v, none⟩ (.bool x)) b n (upd A v x) := by
  obtain ⟨cur, h1, h3, h2⟩ := h.ex
  refine ⟨⟨_, setOf h1, by simp [h3], fun u hu => ?_⟩⟩
  by_cases e : u = v
  · subst e; rw [upd_same, Array.getElem?_setIfInBounds, if_pos rfl, if_pos (by omega)]
  · rw [upd_ne _ _ e, Array.getElem?_setIfInBounds, if_neg (fun e' => e e'.symm)]; exact h2 u hu
end

def cnt (A : Nat → Bool) : Nat → Nat
  | 0 => 0
  | n + 1 => cnt A n + if A n then 1 else 0
theorem cnt_le (A : Nat → Bool) : ∀ n, cnt A n ≤ n
  | 0 => Nat.le_refl _
  | n + 1 => by have := cnt_le A n; unfold cnt; split <;> omega
theorem cnt_congr {A B : Nat → Bool} : ∀ {n}, (∀ v, v < n → A v = B v) → cnt A n = cnt B n
  | 0, _ => rfl
  | n + 1, h => by unfold cnt; rw [cnt_congr (n := n) (fun v hv => h v (by omega)), h n (by omega)]
theorem cnt_set {A : Nat → Bool} {v : Nat} : ∀ {n}, v < n → A v = false → cnt (upd A v true) n = cnt A n + 1
  | 0, h, _ => absurd h (Nat.not_lt_zero _)
  | n + 1, h, ha => by
    unfold cnt
    by_cases e : v = n
    · subst e; rw [upd_same, ha, cnt_congr (A := upd A v true) (B := A) (fun u hu => upd_ne _ _ (by omega))]; simp
    · rw [cnt_set (n := n) (by omega) ha, upd_ne _ _ (Ne.symm e)]; omega
theorem cnt_clear {A : Nat → Bool} {v : Nat} : ∀ {n}, v < n → A v = true → cnt (upd A v false) n + 1 = cnt A n
  | 0, h, _ => absurd h (Nat.not_lt_zero _)
  | n + 1, h, ha => by
    unfold cnt
    by_cases e : v = n
    · subst e; rw [upd_same, ha, cnt_congr (A := upd A v false) (B := A) (fun u hu => upd_ne _ _ (by omega))]; simp
    · have := cnt_clear (n := n) (by omega) ha
      rw [upd_ne _ _ (Ne.symm e)]; omega
theorem cnt_pos {A : Nat → Bool} : ∀ {n}, 0 < cnt A n → ∃ v, v < n ∧ A v = true
  | 0, h => absurd h (Nat.lt_irrefl _)
  | n + 1, h => by
    unfold cnt at h
    by_cases e : A n = true
    · exact ⟨n, by omega, e⟩
    · obtain ⟨v, hv, ha⟩ := cnt_pos (n := n) (by simp [e] at h; exact h)
      exact ⟨v, by omega, ha⟩

/-- What the law holds between its steps. -/
structure LInv (base : Nat) (w : World) (qb sb hb ab n m : Nat) (V : Nat → Ev) (T : Nat → Int) (H : Nat → Ev) (A : Nat → Bool) : Prop where
  q : WholeS base w qb sb n m V T
  he : EvRow w hb n n H
  ha : BoRow w ab n A
  vw : ∀ v, v < n → view V T v = if A v then some (H v) else none
  ct : cnt A n = m
  l1 : hb < base
  l2 : ab < base
  d : hb ≠ qb ∧ hb ≠ sb ∧ ab ≠ qb ∧ ab ≠ sb ∧ hb ≠ ab
  n1 : 1 ≤ n

section
variable {base qb sb hb ab n m : Nat} {w w' : World} {V : Nat → Ev} {T : Nat → Int} {H : Nat → Ev} {A : Nat → Bool}
theorem LInv.since (h : LInv base w qb sb hb ab n m V T H A) (hs : Since w w') : LInv base w' qb sb hb ab n m V T H A :=
  ⟨⟨h.q.q.since hs, h.q.good, h.q.heap, h.q.bnd⟩, h.he.since hs, h.ha.since hs, h.vw, h.ct, h.l1, h.l2, h.d, h.n1⟩
/-- A node that has a copy: where it lies. -/
theorem LInv.has (h : LInv base w qb sb hb ab n m V T H A) {v : Nat} (hv : v < n) (ha : A v = true) : ∃ j, j < m ∧ T v = j ∧ H v = V j ∧ (H v).to = v ∧ Bnd (H v) := by
  have h1 := h.vw v hv
  rw [ha, if_pos rfl] at h1
  unfold view at h1
  split at h1
  · cases h1
  · rcases h.q.good.at2 v hv with h2 | ⟨j, hj, h2, h3⟩
    · omega
    · rw [h2] at h1
      have e : V j = H v := by simpa using h1
      exact ⟨j, hj, h2, e.symm, by rw [← e]; exact h3, by rw [← e]; exact h.q.bnd j hj⟩
theorem LInv.hasnt (h : LInv base w qb sb hb ab n m V T H A) {v : Nat} (hv : v < n) (ha : A v = false) : T v = -1 := by
  have h1 := h.vw v hv
  rw [ha] at h1
  unfold view at h1
  split at h1
  · rcases h.q.good.at2 v hv with h2 | ⟨j, hj, h2, h3⟩
    · exact h2
    · omega
  · cases h1
/-- A copy in the heap: it is its node's. -/
theorem LInv.at (h : LInv base w qb sb hb ab n m V T H A) {j : Nat} (hj : j < m) : ∃ v, v < n ∧ (V j).to = v ∧ A v = true ∧ H v = V j ∧ T v = j := by
  obtain ⟨a1, a2, a3⟩ := h.q.good.at1 j hj
  refine ⟨(V j).to.toNat, by omega, by omega, ?_, ?_, a3⟩
  all_goals
    have h1 := h.vw (V j).to.toNat (by omega)
    unfold view at h1
    rw [a3, if_neg (by omega)] at h1
    cases hA : A (V j).to.toNat with
    | false => rw [hA] at h1; cases h1
    | true => first | rfl | (rw [hA] at h1; simpa using h1.symm)
end
end Go.Proofs.Ybulkcwas
