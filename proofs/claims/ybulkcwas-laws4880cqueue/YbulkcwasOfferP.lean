import Derived.Test.YbulkcwasPop
set_option linter.unusedSimpArgs false
set_option linter.unusedVariables false
namespace Go.Proofs.Ybulkcwas
open Go.RowKit

theorem upd_idem {α : Type} (f : Nat → α) (i : Nat) (x : α) : upd (upd f i x) i x = upd f i x := by
  funext j
  by_cases e : j = i
  · subst e; rw [upd_same, upd_same]
  · rw [upd_ne _ _ e]

/-- A copy to a node that has none. -/
theorem new_plain {n m to : Nat} {c : Ev} {V : Nat → Ev} {T : Nat → Int} (hg : Good n m V T) (hh : Heap m V) (hb : ∀ j, j < m → Bnd (V j)) (hbc : Bnd c) (hto : c.to = to) (htn : to < n) (hT : T to = -1) :
    Good n (m + 1) (upd V m c) (upd T to m) ∧ UpInv (m + 1) m (upd V m c) ∧ (∀ j, j < m + 1 → Bnd (upd V m c j)) ∧
    ∀ v, v < n → view (upd V m c) (upd T to m) v = if v = to then some c else view V T v := by
  have hd : ∀ j, j < m → (V j).to.toNat ≠ to := fun j hj e => by
    have := (hg.at1 j hj).2.2
    rw [e, hT] at this
    omega
  refine ⟨⟨fun j hj => ?_, fun v hv => ?_⟩, ⟨fun j j0 jm jn => ?_, fun j j0 jm jp _ => ?_⟩, fun j hj => ?_, fun v hv => ?_⟩
  · by_cases e : j = m
    · subst e; rw [upd_same, hto]; exact ⟨by omega, by omega, by simp [upd_same]⟩
    · rw [upd_ne _ _ e]
      have a := hg.at1 j (by omega)
      exact ⟨a.1, a.2.1, by rw [upd_ne _ _ (hd j (by omega))]; exact a.2.2⟩
  · by_cases e : v = to
    · rw [e, upd_same]; exact .inr ⟨m, by omega, rfl, by rw [upd_same, hto]⟩
    · rw [upd_ne _ _ e]
      rcases hg.at2 v hv with h1 | ⟨j, hj, h1, h2⟩
      · exact .inl h1
      · exact .inr ⟨j, by omega, h1, by rw [upd_ne _ _ (by omega)]; exact h2⟩
  · have hp : par j < j := by unfold par; omega
    rw [upd_ne _ _ jn, upd_ne _ _ (by omega)]
    exact hh j j0 (by omega)
  · exfalso; unfold par at jp; omega
  · by_cases e : j = m
    · subst e; rw [upd_same]; exact hbc
    · rw [upd_ne _ _ e]; exact hb j (by omega)
  · unfold view
    by_cases e : v = to
    · rw [e, upd_same, if_neg (by omega), if_pos rfl]; simp [upd_same]
    · rw [upd_ne _ _ e, if_neg e]
      rcases hg.at2 v hv with h1 | ⟨j, hj, h1, h2⟩
      · simp [h1]
      · have : j ≠ m := by omega
        simp [h1, upd_ne _ _ this]

/-- A copy that comes before the one that its node has. -/
theorem old_plain {n m to j : Nat} {c : Ev} {V : Nat → Ev} {T : Nat → Int} (hg : Good n m V T) (hh : Heap m V) (hb : ∀ j, j < m → Bnd (V j)) (hbc : Bnd c) (hto : c.to = to) (htn : to < n) (hj : j < m) (hT : T to = j) (hVj : (V j).to = to) (hl : c.lt (V j)) :
    Good n m (upd V j c) (upd T to j) ∧ UpInv m j (upd V j c) ∧ (∀ k, k < m → Bnd (upd V j c k)) ∧
    ∀ v, v < n → view (upd V j c) (upd T to j) v = if v = to then some c else view V T v := by
  have hTT : upd T to j = T := by
    funext v
    by_cases e : v = to
    · rw [e, upd_same, hT]
    · rw [upd_ne _ _ e]
  rw [hTT]
  refine ⟨⟨fun k hk => ?_, fun v hv => ?_⟩, ⟨fun k k0 km kn => ?_, fun k k0 km kp j0 => ?_⟩, fun k hk => ?_, fun v hv => ?_⟩
  · by_cases e : k = j
    · subst e; rw [upd_same, hto]; exact ⟨by omega, by omega, by simpa using hT⟩
    · rw [upd_ne _ _ e]; exact hg.at1 k hk
  · rcases hg.at2 v hv with h1 | ⟨k, hk, h1, h2⟩
    · exact .inl h1
    · refine .inr ⟨k, hk, h1, ?_⟩
      by_cases e : k = j
      · subst e; rw [upd_same]; omega
      · rw [upd_ne _ _ e]; exact h2
  · rw [upd_ne _ _ kn]
    have hk := hh k k0 km
    by_cases e : par k = j
    · rw [e, upd_same]; rw [e] at hk; exact Ev.ltn hk hl
    · rw [upd_ne _ _ e]; exact hk
  · have kj : k ≠ j := by unfold par at kp; omega
    have hpj : par j ≠ j := by unfold par; omega
    rw [upd_ne _ _ kj, upd_ne _ _ hpj]
    have hk := hh k k0 km
    rw [kp] at hk
    exact Ev.ntrans hk (hh j j0 hj)
  · by_cases e : k = j
    · subst e; rw [upd_same]; exact hbc
    · rw [upd_ne _ _ e]; exact hb k hk
  · unfold view
    by_cases e : v = to
    · rw [e, hT, if_neg (by omega), if_pos rfl]; simp [upd_same]
    · rw [if_neg e]
      rcases hg.at2 v hv with h1 | ⟨k, hk, h1, h2⟩
      · simp [h1]
      · have : k ≠ j := by rintro rfl; omega
        simp [h1, upd_ne _ _ this]

/-- The view after an offer. -/
def offered (o : Option Ev) (c : Ev) : Ev := match o with
  | none => c
  | some e => if c.lt e then c else e
end Go.Proofs.Ybulkcwas
