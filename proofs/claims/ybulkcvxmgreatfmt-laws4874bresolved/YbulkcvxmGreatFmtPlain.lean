/-
  THE PLAIN LAW: a search of three colours over a graph; ranks; what is reached. No Go in sight.
-/
namespace Go.Proofs.YbulkcvxmGreatFmt

def upd {α : Type} (f : Nat → α) (i : Nat) (x : α) : Nat → α := fun j => if j = i then x else f j
theorem upd_same {α : Type} (f : Nat → α) (i : Nat) (x : α) : upd f i x i = x := by simp [upd]
theorem upd_ne {α : Type} (f : Nat → α) {i j : Nat} (x : α) (h : j ≠ i) : upd f i x j = f j := by simp [upd, h]

/-- One node after the other, till one fails. -/
def allOf {σ : Type} (g : σ → Nat → Option σ) : σ → List Nat → Option σ
  | c, [] => some c
  | c, v :: l => match g c v with
    | none => none
    | some c' => allOf g c' l
/-- The search: 0 fresh, 1 open, 2 done; 'none': it has come round. -/
def vis (E : Nat → List Nat) : Nat → (Nat → Nat) → Nat → Option (Nat → Nat)
  | 0, _, _ => none
  | f + 1, c, i => if c i = 2 then some c else if c i = 1 then none else
    (allOf (vis E f) (upd c i 1) (E i)).map fun c' => upd c' i 2
/-- From all nodes below n, in order. -/
def top (E : Nat → List Nat) (n : Nat) : Option (Nat → Nat) := allOf (vis E (n + 1)) (fun _ => 0) (List.range n)

/-- How many of the nodes below n are fresh. -/
def fresh (c : Nat → Nat) : Nat → Nat
  | 0 => 0
  | n + 1 => fresh c n + if c n = 0 then 1 else 0
theorem fresh_le (c : Nat → Nat) : ∀ n, fresh c n ≤ n
  | 0 => Nat.le_refl _
  | n + 1 => by have := fresh_le c n; unfold fresh; split <;> omega
theorem fresh_congr {a b : Nat → Nat} : ∀ {n}, (∀ v, v < n → (a v = 0 ↔ b v = 0)) → fresh a n = fresh b n
  | 0, _ => rfl
  | n + 1, h => by
    unfold fresh
    rw [fresh_congr (n := n) (fun v hv => h v (by omega))]
    have := h n (by omega)
    by_cases e : a n = 0
    · rw [if_pos e, if_pos (this.1 e)]
    · rw [if_neg e, if_neg (fun e' => e (this.2 e'))]
theorem fresh_mono {a b : Nat → Nat} : ∀ {n}, (∀ v, v < n → b v = 0 → a v = 0) → fresh b n ≤ fresh a n
  | 0, _ => Nat.le_refl _
  | n + 1, h => by
    unfold fresh
    have h1 := fresh_mono (n := n) (a := a) (b := b) (fun v hv => h v (by omega))
    have := h n (by omega)
    by_cases e : b n = 0
    · rw [if_pos e, if_pos (this e)]; omega
    · rw [if_neg e]; split <;> omega
theorem fresh_open {c : Nat → Nat} {i x : Nat} (hx : x ≠ 0) : ∀ {n}, i < n → c i = 0 → fresh (upd c i x) n + 1 = fresh c n
  | 0, h, _ => absurd h (Nat.not_lt_zero _)
  | n + 1, h, hc => by
    unfold fresh
    by_cases e : i = n
    · subst e
      rw [upd_same, hc, fresh_congr (a := upd c i x) (b := c) (fun u hu => by rw [upd_ne _ _ (by omega)]), if_neg hx, if_pos rfl]
    · have := fresh_open (c := c) (i := i) hx (n := n) (by omega) hc
      rw [upd_ne _ _ (fun e' => e e'.symm)]
      omega

/-- Behind a search: what was open or done is so still; nothing new is open. -/
structure Kept (a b : Nat → Nat) : Prop where
  one : ∀ v, a v = 1 ↔ b v = 1
  two : ∀ v, a v = 2 → b v = 2
  le : ∀ v, a v ≤ 2 → b v ≤ 2
theorem Kept.refl (a : Nat → Nat) : Kept a a := ⟨fun _ => Iff.rfl, fun _ h => h, fun _ h => h⟩
theorem Kept.trans {a b c : Nat → Nat} (h : Kept a b) (h' : Kept b c) : Kept a c := ⟨fun v => (h.one v).trans (h'.one v), fun v e => h'.two v (h.two v e), fun v e => h'.le v (h.le v e)⟩

theorem allOf_kept {g : (Nat → Nat) → Nat → Option (Nat → Nat)} (hg : ∀ c v c', g c v = some c' → Kept c c') : ∀ {l c c'}, allOf g c l = some c' → Kept c c'
  | [], c, c', h => by simp [allOf] at h; subst h; exact Kept.refl _
  | v :: l, c, c', h => by
    unfold allOf at h
    split at h
    · cases h
    · rename_i c1 h1
      exact (hg _ _ _ h1).trans (allOf_kept hg h)
theorem vis_kept (E : Nat → List Nat) : ∀ (f : Nat) (c : Nat → Nat) (i : Nat) (c' : Nat → Nat), vis E f c i = some c' → Kept c c' ∧ c' i = 2
  | 0, c, i, c', h => by simp [vis] at h
  | f + 1, c, i, c', h => by
    unfold vis at h
    split at h
    · rename_i e
      cases h
      exact ⟨Kept.refl _, e⟩
    · split at h
      · cases h
      · rename_i e2 e1
        simp only [Option.map_eq_some_iff] at h
        obtain ⟨c1, h1, rfl⟩ := h
        have k := allOf_kept (fun c v c' h => (vis_kept E f c v c' h).1) h1
        refine ⟨⟨fun v => ?_, fun v hv => ?_, fun v hv => ?_⟩, upd_same _ _ _⟩
        · by_cases e : v = i
          · subst e; rw [upd_same]; omega
          · have := k.one v; rw [upd_ne _ _ e] at this; rw [upd_ne _ _ e]; exact this
        · by_cases e : v = i
          · subst e; rw [upd_same]
          · have := k.two v; rw [upd_ne _ _ e] at this; rw [upd_ne _ _ e]; exact this hv
        · by_cases e : v = i
          · subst e; rw [upd_same]; omega
          · have := k.le v; rw [upd_ne _ _ e] at this; rw [upd_ne _ _ e]; exact this hv

/-- What is reached from i. -/
inductive Reach (E : Nat → List Nat) (i : Nat) : Nat → Prop
  | self : Reach E i i
  | step {j v : Nat} : Reach E i j → v ∈ E j → Reach E i v
theorem Reach.trans {E : Nat → List Nat} {i j v : Nat} (h : Reach E i j) (h' : Reach E j v) : Reach E i v := by
  induction h' with
  | self => exact h
  | step _ hv ih => exact .step ih hv

/-- m is the greatest of own and of the ranks of l. -/
structure Great (m o : Int) (R : Nat → Int) (l : List Nat) : Prop where
  own : o ≤ m
  all : ∀ v ∈ l, R v ≤ m
  one : m = o ∨ ∃ v ∈ l, m = R v
/-- The done nodes' ranks. -/
structure Rk (E : Nat → List Nat) (own : Nat → Int) (c : Nat → Nat) (R : Nat → Int) : Prop where
  ex : ∃ t : Nat → Nat, ∀ i, c i = 2 → (∀ v ∈ E i, c v = 2 ∧ t v < t i) ∧ Great (R i) (own i) R (E i)
theorem rank_reach {E : Nat → List Nat} {own : Nat → Int} {c : Nat → Nat} {R : Nat → Int} (h : Rk E own c R) {i : Nat} (hi : c i = 2) :
    (∀ j, Reach E i j → c j = 2 ∧ own j ≤ R i) ∧ ∃ j, Reach E i j ∧ R i = own j := by
  obtain ⟨t, ht⟩ := h.ex
  constructor
  · intro j hj
    have : c j = 2 ∧ R j ≤ R i := by
      induction hj with
      | self => exact ⟨hi, Int.le_refl _⟩
      | step _ hv ih =>
        obtain ⟨h1, h2⟩ := ht _ ih.1
        exact ⟨(h1 _ hv).1, Int.le_trans (h2.all _ hv) ih.2⟩
    exact ⟨this.1, Int.le_trans (ht j this.1).2.own this.2⟩
  · have key : ∀ m i, t i < m → c i = 2 → ∃ j, Reach E i j ∧ R i = own j := by
      intro m
      induction m with
      | zero => intro i h; omega
      | succ m ih =>
        intro i him hi
        obtain ⟨h1, h2⟩ := ht i hi
        rcases h2.one with e | ⟨v, hv, e⟩
        · exact ⟨i, .self, e⟩
        · obtain ⟨h3, h4⟩ := h1 v hv
          obtain ⟨j, hj, ej⟩ := ih v (by omega) h3
          exact ⟨j, Reach.trans (.step .self hv) hj, by rw [e, ej]⟩
    exact key (t i + 1) i (Nat.lt_succ_self _) hi

/-- The greatest rank of those that are seen. -/
def greatest (own : Nat → Int) (seen : Nat → Bool) (a : Int) : Nat → Int
  | 0 => a
  | n + 1 => if seen n then max (greatest own seen a n) (own n) else greatest own seen a n
theorem greatest_le {own : Nat → Int} {seen : Nat → Bool} {a m : Int} (ha : a ≤ m) : ∀ {n}, (∀ j, j < n → seen j = true → own j ≤ m) → greatest own seen a n ≤ m
  | 0, _ => ha
  | n + 1, h => by
    unfold greatest
    have h1 := greatest_le ha (n := n) (fun j hj => h j (by omega))
    split
    · rename_i e
      have := h n (by omega) e
      omega
    · exact h1
theorem le_greatest {own : Nat → Int} {seen : Nat → Bool} {a : Int} : ∀ {n}, a ≤ greatest own seen a n ∧ ∀ j, j < n → seen j = true → own j ≤ greatest own seen a n
  | 0 => ⟨Int.le_refl _, fun j h => absurd h (Nat.not_lt_zero _)⟩
  | n + 1 => by
    obtain ⟨h1, h2⟩ := le_greatest (own := own) (seen := seen) (a := a) (n := n)
    unfold greatest
    refine ⟨?_, fun j hj hs => ?_⟩
    · split <;> omega
    · by_cases e : j = n
      · subst e
        rw [if_pos hs]; omega
      · have := h2 j (by omega) hs
        split <;> omega
/-- THE RANK's LAW. -/
theorem rank_law {E : Nat → List Nat} {own : Nat → Int} {c : Nat → Nat} {R : Nat → Int} {n i : Nat} {seen : Nat → Bool} (h : Rk E own c R) (hi : c i = 2) (hs : ∀ j, j < n → (seen j = true ↔ Reach E i j)) (hn : ∀ j, Reach E i j → j < n) :
    greatest own seen (own i) n = R i := by
  obtain ⟨h1, j, hj, e⟩ := rank_reach h hi
  refine Int.le_antisymm (greatest_le (h1 i .self).2 (fun j hj hsj => (h1 j ((hs j hj).1 hsj)).2)) ?_
  rw [e]
  exact le_greatest.2 j (hn j hj) ((hs j (hn j hj)).2 hj)

/-! ### a node is closed -/
theorem Great.snoc {m o : Int} {R : Nat → Int} {l : List Nat} (h : Great m o R l) (v : Nat) : Great (max m (R v)) o R (l ++ [v]) := by
  refine ⟨by have := h.own; omega, fun u hu => ?_, ?_⟩
  · rcases List.mem_append.1 hu with h1 | h1
    · have := h.all u h1; omega
    · simp at h1; subst h1; omega
  · by_cases e : R v ≤ m
    · rw [Int.max_eq_left e]
      rcases h.one with h1 | ⟨u, hu, h1⟩
      · exact .inl h1
      · exact .inr ⟨u, by simp [hu], h1⟩
    · rw [Int.max_eq_right (by omega)]
      exact .inr ⟨v, by simp, rfl⟩
theorem Great.nil (o : Int) (R : Nat → Int) : Great o o R [] := ⟨Int.le_refl _, by simp, .inl rfl⟩
theorem Great.congr {m o : Int} {R R' : Nat → Int} {l : List Nat} (h : Great m o R l) (he : ∀ v ∈ l, R' v = R v) : Great m o R' l :=
  ⟨h.own, fun v hv => by rw [he v hv]; exact h.all v hv, by
    rcases h.one with h1 | ⟨u, hu, h1⟩
    · exact .inl h1
    · exact .inr ⟨u, hu, by rw [he u hu]; exact h1⟩⟩
theorem Rk.congr {E : Nat → List Nat} {own : Nat → Int} {c c' : Nat → Nat} {R R' : Nat → Int} (h : Rk E own c R) (hc : ∀ v, c' v = 2 ↔ c v = 2) (hR : ∀ v, c v = 2 → R' v = R v) : Rk E own c' R' := by
  obtain ⟨t, ht⟩ := h.ex
  refine ⟨t, fun i hi => ?_⟩
  have hi' := (hc i).1 hi
  obtain ⟨h1, h2⟩ := ht i hi'
  refine ⟨fun v hv => ⟨(hc v).2 (h1 v hv).1, (h1 v hv).2⟩, ?_⟩
  rw [hR i hi']
  exact h2.congr (fun v hv => hR v (h1 v hv).1)
theorem Rk.close {E : Nat → List Nat} {own : Nat → Int} {c : Nat → Nat} {R : Nat → Int} {i : Nat} {m : Int} (h : Rk E own c R) (hi : c i ≠ 2) (hv : ∀ v ∈ E i, c v = 2) (hm : Great m (own i) R (E i)) : Rk E own (upd c i 2) (upd R i m) := by
  obtain ⟨t, ht⟩ := h.ex
  obtain ⟨b, hb⟩ : ∃ b, ∀ v ∈ E i, t v < b := by
    generalize E i = l
    induction l with
    | nil => exact ⟨0, by simp⟩
    | cons a l ih =>
      obtain ⟨b, hb⟩ := ih
      refine ⟨max b (t a + 1), fun v hv => ?_⟩
      rcases List.mem_cons.1 hv with h1 | h1
      · subst h1; omega
      · have := hb v h1; omega
  refine ⟨upd t i b, fun u hu => ?_⟩
  by_cases e : u = i
  · subst e
    rw [upd_same, upd_same]
    refine ⟨fun v hv' => ?_, ?_⟩
    · have hne : v ≠ u := fun e => hi (by rw [← e]; exact hv v hv')
      rw [upd_ne _ _ hne, upd_ne _ _ hne]
      exact ⟨hv v hv', hb v hv'⟩
    · exact hm.congr (fun v hv' => upd_ne _ _ (fun e => hi (by rw [← e]; exact hv v hv')))
  · rw [upd_ne _ _ e] at hu
    obtain ⟨h1, h2⟩ := ht u hu
    rw [upd_ne _ _ e, upd_ne _ _ e]
    have hne : ∀ v ∈ E u, v ≠ i := fun v hv' e' => hi (by rw [← e']; exact (h1 v hv').1)
    refine ⟨fun v hv' => ?_, h2.congr (fun v hv' => upd_ne _ _ (hne v hv'))⟩
    rw [upd_ne _ _ (hne v hv'), upd_ne _ _ (hne v hv')]
    exact h1 v hv'
theorem Rk.none (E : Nat → List Nat) (own : Nat → Int) (R : Nat → Int) : Rk E own (fun _ => 0) R := ⟨fun _ => 0, fun i hi => by cases hi⟩

/-! ### the whole search -/
theorem allOf_snoc {σ : Type} (g : σ → Nat → Option σ) : ∀ (l : List Nat) (c : σ) (v : Nat), allOf g c (l ++ [v]) = (allOf g c l).bind (fun c' => g c' v)
  | [], c, v => by
    simp only [List.nil_append, allOf, Option.bind_some]
    cases g c v <;> rfl
  | u :: l, c, v => by
    simp only [List.cons_append, allOf]
    cases g c u with
    | none => rfl
    | some c1 => exact allOf_snoc g l c1 v
theorem allOf_none {σ : Type} {g : σ → Nat → Option σ} : ∀ {l : List Nat} {c : σ} {j : Nat}, allOf g c (l.take j) = none → allOf g c l = none
  | [], c, j, h => by simpa using h
  | u :: l, c, 0, h => by simp [allOf] at h
  | u :: l, c, j + 1, h => by
    simp only [List.take_succ_cons, allOf] at h ⊢
    cases hg : g c u with
    | none => rfl
    | some c1 =>
      rw [hg] at h
      exact allOf_none h
/-- At the end every node is done, none open. -/
theorem top_done {E : Nat → List Nat} {n : Nat} : ∀ {j : Nat} {c : Nat → Nat}, j ≤ n → allOf (vis E (n + 1)) (fun _ => 0) (List.range j) = some c → (∀ v, c v ≠ 1) ∧ ∀ v, v < j → c v = 2
  | 0, c, _, h => by simp [allOf] at h; subst h; exact ⟨fun v => by simp, fun v hv => absurd hv (Nat.not_lt_zero _)⟩
  | j + 1, c, hj, h => by
    rw [List.range_succ, allOf_snoc] at h
    cases h1 : allOf (vis E (n + 1)) (fun _ => 0) (List.range j) with
    | none => rw [h1] at h; cases h
    | some c1 =>
      rw [h1] at h
      simp only [Option.bind_some] at h
      obtain ⟨a, b⟩ := top_done (by omega) h1
      obtain ⟨k, e⟩ := vis_kept E _ _ _ _ h
      refine ⟨fun v hv => a v ((k.one v).2 hv), fun v hv => ?_⟩
      by_cases e' : v = j
      · subst e'; exact e
      · exact k.two v (b v (by omega))
end Go.Proofs.YbulkcvxmGreatFmt
