/-
  THE PLAIN LAW OF 'Compact' BEHIND A SORT: no element twice. No Go in sight.
-/
namespace Go.Proofs.YbulkcvxmGreatFmt

/-- Of each run of equal elements the first. -/
def uniq {α : Type} [DecidableEq α] : List α → List α
  | [] => []
  | [a] => [a]
  | a :: b :: l => if a = b then uniq (b :: l) else a :: uniq (b :: l)
theorem mem_uniq {α : Type} [DecidableEq α] {x : α} : ∀ {l : List α}, x ∈ uniq l ↔ x ∈ l
  | [] => Iff.rfl
  | [a] => Iff.rfl
  | a :: b :: l => by
    unfold uniq
    split
    · rename_i e
      subst e
      rw [mem_uniq (l := a :: l)]
      simp
    · rw [List.mem_cons, mem_uniq (l := b :: l), List.mem_cons (b := a)]
/-- In a list that rises, no element comes back. -/
theorem uniq_nodup {α : Type} [DecidableEq α] {le : α → α → Bool} (anti : ∀ x y, le x y = true → le y x = true → x = y) : ∀ {l : List α}, l.Pairwise (fun x y => le x y = true) → (uniq l).Nodup
  | [], _ => List.nodup_nil
  | [a], _ => by simp [uniq]
  | a :: b :: l, h => by
    obtain ⟨h1, h2⟩ := List.pairwise_cons.1 h
    unfold uniq
    split
    · exact uniq_nodup anti h2
    · rename_i hne
      refine List.nodup_cons.2 ⟨fun hm => ?_, uniq_nodup anti h2⟩
      rw [mem_uniq] at hm
      rcases List.mem_cons.1 hm with e | hm'
      · exact hne e
      · have g1 := h1 b (by simp)
        have g2 := (List.pairwise_cons.1 h2).1 a hm'
        exact hne (anti a b g1 g2)
theorem nodup_length_le {α : Type} [DecidableEq α] : ∀ {l m : List α}, l.Nodup → (∀ x ∈ l, x ∈ m) → l.length ≤ m.length
  | [], _, _, _ => Nat.zero_le _
  | a :: l, m, hn, hs => by
    obtain ⟨h1, h2⟩ := List.nodup_cons.1 hn
    have ha := hs a (by simp)
    have := nodup_length_le (l := l) (m := m.erase a) h2 (fun x hx => by
      have hne : x ≠ a := fun e => by subst e; exact h1 hx
      exact (List.mem_erase_of_ne hne).2 (hs x (by simp [hx])))
    rw [List.length_erase_of_mem ha] at this
    have hpos : 0 < m.length := List.length_pos_of_mem ha
    simp
    omega
theorem uniq_ne_nil {α : Type} [DecidableEq α] : ∀ {l : List α}, l ≠ [] → uniq l ≠ []
  | [], h => absurd rfl h
  | [a], _ => by simp [uniq]
  | a :: b :: l, _ => by
    unfold uniq
    split
    · exact uniq_ne_nil (by simp)
    · simp
theorem uniq_snoc {α : Type} [DecidableEq α] : ∀ (l : List α) (x y : α), uniq (l ++ [x] ++ [y]) = if x = y then uniq (l ++ [x]) else uniq (l ++ [x]) ++ [y]
  | [], x, y => by simp [uniq]; split <;> simp_all
  | [a], x, y => by
    simp only [List.cons_append, List.nil_append, uniq]
    split <;> split <;> simp_all
  | a :: b :: l, x, y => by
    have ih := uniq_snoc (b :: l) x y
    simp only [List.cons_append, List.append_assoc] at ih ⊢
    simp only [uniq]
    rw [ih]
    split <;> split <;> simp_all
end Go.Proofs.YbulkcvxmGreatFmt
