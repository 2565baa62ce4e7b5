/-
  THE PLAIN LAW: a binary heap with slots, as functions of places. No Go in sight.
-/
namespace Go.Proofs.Ybulkcwas

structure Ev where
  time : Int
  fr : Int
  to : Int
  tt : Int
  deriving DecidableEq

def Ev.lt (a b : Ev) : Prop := a.time < b.time ∨ (a.time = b.time ∧ (a.fr < b.fr ∨ (a.fr = b.fr ∧ a.to < b.to)))
instance (a b : Ev) : Decidable (a.lt b) := by unfold Ev.lt; infer_instance

theorem Ev.asym {a b : Ev} (h : a.lt b) : ¬ b.lt a := by unfold Ev.lt at *; omega
theorem Ev.irrefl (a : Ev) : ¬ a.lt a := by unfold Ev.lt; omega
theorem Ev.ntrans {a b c : Ev} (h : ¬ a.lt b) (h' : ¬ b.lt c) : ¬ a.lt c := by unfold Ev.lt at *; omega
theorem Ev.ltn {a b c : Ev} (h : ¬ a.lt b) (h' : c.lt b) : ¬ a.lt c := by unfold Ev.lt at *; omega
theorem Ev.same {a b : Ev} (h : ¬ a.lt b) (h' : ¬ b.lt a) : a.to = b.to := by unfold Ev.lt at *; omega

def upd {α : Type} (f : Nat → α) (i : Nat) (x : α) : Nat → α := fun j => if j = i then x else f j
theorem upd_same {α : Type} (f : Nat → α) (i : Nat) (x : α) : upd f i x i = x := by simp [upd]
theorem upd_ne {α : Type} (f : Nat → α) {i j : Nat} (x : α) (h : j ≠ i) : upd f i x j = f j := by simp [upd, h]

/-- The slots point at the copies, and the copies' nodes at the slots. -/
structure Good (n m : Nat) (V : Nat → Ev) (T : Nat → Int) : Prop where
  at1 : ∀ j, j < m → 0 ≤ (V j).to ∧ (V j).to < n ∧ T (V j).to.toNat = j
  at2 : ∀ v, v < n → T v = -1 ∨ ∃ j, j < m ∧ T v = j ∧ (V j).to = v

theorem Good.inj {n m : Nat} {V : Nat → Ev} {T : Nat → Int} (h : Good n m V T) {i j : Nat} (hi : i < m) (hj : j < m) (e : (V i).to = (V j).to) : i = j := by
  have h1 := (h.at1 i hi).2.2
  have h2 := (h.at1 j hj).2.2
  rw [e] at h1
  omega

def view (V : Nat → Ev) (T : Nat → Int) (v : Nat) : Option Ev := if T v < 0 then none else some (V (T v).toNat)

/-- A copy moves from p to i, c from i to p. -/
theorem Good.swap {n m : Nat} {V : Nat → Ev} {T : Nat → Int} {i p : Nat} (h : Good n m V T) (hi : i < m) (hp : p < m) (hne : p ≠ i) :
    Good n m (upd (upd V i (V p)) p (V i)) (upd (upd T (V p).to.toNat i) (V i).to.toNat p) ∧
    ∀ v, v < n → view (upd (upd V i (V p)) p (V i)) (upd (upd T (V p).to.toNat i) (V i).to.toNat p) v = view V T v := by
  have a1 := h.at1 i hi
  have a2 := h.at1 p hp
  have hd : (V p).to.toNat ≠ (V i).to.toNat := fun e => hne (h.inj hp hi (by omega))
  refine ⟨⟨fun j hj => ?_, fun v hv => ?_⟩, fun v hv => ?_⟩
  · by_cases e1 : j = p
    · subst e1
      rw [upd_same]
      exact ⟨a1.1, a1.2.1, by rw [upd_same]⟩
    · rw [upd_ne _ _ e1]
      by_cases e2 : j = i
      · subst e2
        rw [upd_same]
        exact ⟨a2.1, a2.2.1, by rw [upd_ne _ _ hd, upd_same]⟩
      · rw [upd_ne _ _ e2]
        have a3 := h.at1 j hj
        have d1 : (V j).to.toNat ≠ (V i).to.toNat := fun e => e2 (h.inj hj hi (by omega))
        have d2 : (V j).to.toNat ≠ (V p).to.toNat := fun e => e1 (h.inj hj hp (by omega))
        exact ⟨a3.1, a3.2.1, by rw [upd_ne _ _ d1, upd_ne _ _ d2]; exact a3.2.2⟩
  · by_cases e1 : v = (V i).to.toNat
    · rw [e1, upd_same]
      exact .inr ⟨p, hp, rfl, by rw [upd_same]; omega⟩
    · rw [upd_ne _ _ e1]
      by_cases e2 : v = (V p).to.toNat
      · rw [e2, upd_same]
        exact .inr ⟨i, hi, rfl, by rw [upd_ne _ _ (Ne.symm hne), upd_same]; omega⟩
      · rw [upd_ne _ _ e2]
        rcases h.at2 v hv with h1 | ⟨j, hj, h1, h2⟩
        · exact .inl h1
        · refine .inr ⟨j, hj, h1, ?_⟩
          have d1 : j ≠ p := by rintro rfl; omega
          have d2 : j ≠ i := by rintro rfl; omega
          rw [upd_ne _ _ d1, upd_ne _ _ d2]
          exact h2
  · unfold view
    by_cases e1 : v = (V i).to.toNat
    · rw [e1, upd_same, a1.2.2, if_neg (by omega), if_neg (by omega)]
      simp [upd_same]
    · rw [upd_ne _ _ e1]
      by_cases e2 : v = (V p).to.toNat
      · rw [e2, upd_same, a2.2.2, if_neg (by omega), if_neg (by omega)]
        simp [upd, Ne.symm hne]
      · rw [upd_ne _ _ e2]
        rcases h.at2 v hv with h1 | ⟨j, hj, h1, h2⟩
        · simp [h1]
        · have d1 : j ≠ p := by rintro rfl; omega
          have d2 : j ≠ i := by rintro rfl; omega
          simp [h1, upd, d1, d2]

def par (j : Nat) : Nat := (j - 1) / 2
def Heap (m : Nat) (V : Nat → Ev) : Prop := ∀ j, 0 < j → j < m → ¬ (V j).lt (V (par j))

structure UpInv (m i : Nat) (V : Nat → Ev) : Prop where
  o1 : ∀ j, 0 < j → j < m → j ≠ i → ¬ (V j).lt (V (par j))
  o2 : ∀ j, 0 < j → j < m → par j = i → 0 < i → ¬ (V j).lt (V (par i))

theorem UpInv.done {m i : Nat} {V : Nat → Ev} (h : UpInv m i V) (hi : 0 < i → ¬ (V i).lt (V (par i))) : Heap m V := by
  intro j h0 hj
  by_cases e : j = i
  · subst e; exact hi h0
  · exact h.o1 j h0 hj e

theorem UpInv.step {m i : Nat} {V : Nat → Ev} (h : UpInv m i V) (h0 : 0 < i) (hi : i < m) (hl : (V i).lt (V (par i))) : UpInv m (par i) (upd (upd V i (V (par i))) (par i) (V i)) := by
  have hp : par i < i := by unfold par; omega
  constructor
  · intro j j0 jm jp
    rw [upd_ne _ _ jp]
    by_cases e : j = i
    · subst e
      rw [upd_same, upd_same]
      exact Ev.asym hl
    · rw [upd_ne _ _ e]
      have hj := h.o1 j j0 jm e
      by_cases e1 : par j = par i
      · rw [e1, upd_same]
        rw [e1] at hj
        exact Ev.ltn hj hl
      · rw [upd_ne _ _ e1]
        by_cases e2 : par j = i
        · rw [e2, upd_same]
          exact h.o2 j j0 jm e2 h0
        · rw [upd_ne _ _ e2]; exact hj
  · intro j j0 jm jp p0
    have hpp : par (par i) < par i := by unfold par at *; omega
    have jne : j ≠ par i := by unfold par at *; omega
    have hpar := h.o1 (par i) p0 (by omega) (by omega)
    rw [upd_ne _ _ jne, upd_ne _ _ (by omega : par (par i) ≠ par i), upd_ne _ _ (by omega : par (par i) ≠ i)]
    by_cases e : j = i
    · subst e; rw [upd_same]; exact hpar
    · rw [upd_ne _ _ e]
      have hj := h.o1 j j0 jm e
      rw [jp] at hj
      exact Ev.ntrans hj hpar

structure DownInv (m i : Nat) (V : Nat → Ev) : Prop where
  o1 : ∀ j, 0 < j → j < m → par j ≠ i → ¬ (V j).lt (V (par j))
  o2 : ∀ j, 0 < j → j < m → par j = i → 0 < i → ¬ (V j).lt (V (par i))

theorem DownInv.done {m i : Nat} {V : Nat → Ev} (h : DownInv m i V) (hi : ∀ j, 0 < j → j < m → par j = i → ¬ (V j).lt (V i)) : Heap m V := by
  intro j h0 hj
  by_cases e : par j = i
  · rw [e]; exact hi j h0 hj e
  · exact h.o1 j h0 hj e

theorem DownInv.step {m i ch : Nat} {V : Nat → Ev} (h : DownInv m i V) (hch : par ch = i) (c0 : 0 < ch) (hl : (V ch).lt (V i)) (hmin : ∀ j, 0 < j → j < m → par j = i → ¬ (V j).lt (V ch)) (hc : ch < m) : DownInv m ch (upd (upd V i (V ch)) ch (V i)) := by
  have hic : i < ch := by unfold par at *; omega
  constructor
  · intro j j0 jm jp
    by_cases e : j = ch
    · subst e
      rw [upd_same, hch, upd_ne _ _ (by omega : i ≠ j), upd_same]
      exact Ev.asym hl
    · rw [upd_ne _ _ e, upd_ne _ _ jp]
      by_cases e1 : j = i
      · subst e1
        have hpj : par j ≠ j := by unfold par; omega
        rw [upd_same, upd_ne _ _ hpj]
        exact h.o2 ch c0 hc hch j0
      · rw [upd_ne _ _ e1]
        by_cases e2 : par j = i
        · rw [e2, upd_same]; exact hmin j j0 jm e2
        · rw [upd_ne _ _ e2]; exact h.o1 j j0 jm e2
  · intro j j0 jm jp _
    have hjc : ch < j := by unfold par at *; omega
    rw [upd_ne _ _ (by omega : j ≠ ch), upd_ne _ _ (by omega : j ≠ i), hch, upd_ne _ _ (by omega : i ≠ ch), upd_same]
    have := h.o1 j j0 jm (by omega)
    rw [jp] at this
    exact this

/-- The root comes before none. -/
theorem Heap.root {m : Nat} {V : Nat → Ev} (h : Heap m V) : ∀ j, j < m → ¬ (V j).lt (V 0) := by
  intro j
  induction j using Nat.strongRecOn with
  | ind j ih =>
    intro hj
    by_cases e : j = 0
    · subst e; exact Ev.irrefl _
    · have hp : par j < j := by unfold par; omega
      exact Ev.ntrans (h j (by omega) hj) (ih (par j) hp (by omega))

end Go.Proofs.Ybulkcwas
