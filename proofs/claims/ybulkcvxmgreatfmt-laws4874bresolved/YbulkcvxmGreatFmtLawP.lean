/- The plain law of the last checks: codes, ranks, rules. -/
import Derived.Test.YbulkcvxmGreatFmtBld0
import Derived.Test.YbulkcvxmGreatFmtRes
import Derived.Test.YbulkcvxmGreatFmtSortP
set_option linter.unusedSimpArgs false
set_option linter.unusedVariables false
namespace Go.Proofs.YbulkcvxmGreatFmt
open Go.RowKit

/-! ### greatest, from any start that is not above -/
theorem rank_law0 {E : Nat → List Nat} {own : Nat → Int} {c : Nat → Nat} {R : Nat → Int} {n i : Nat} {seen : Nat → Bool} {a : Int} (h : Rk E own c R) (hi : c i = 2) (hs : ∀ j, j < n → (seen j = true ↔ Reach E i j)) (hn : ∀ j, Reach E i j → j < n) (ha : a ≤ R i) :
    greatest own seen a n = R i := by
  obtain ⟨h1, j, hj, e⟩ := rank_reach h hi
  refine Int.le_antisymm (greatest_le ha (fun j hj hsj => (h1 j ((hs j hj).1 hsj)).2)) ?_
  rw [e]
  exact le_greatest.2 j (hn j hj) ((hs j (hn j hj)).2 hj)
theorem reach_lt {E : Nat → List Nat} {n i j : Nat} (h : ∀ i, i < n → ∀ v ∈ E i, v < n) (hi : i < n) (hr : Reach E i j) : j < n := by
  induction hr with
  | self => exact hi
  | step _ hv ih => exact h _ ih _ hv
theorem reach_head {E : Nat → List Nat} {i j : Nat} : Reach E i j ↔ j = i ∨ ∃ v ∈ E i, Reach E v j := by
  constructor
  · intro h
    induction h with
    | self => exact .inl rfl
    | step _ hv ih =>
      rename_i a b
      rcases ih with rfl | ⟨u, hu, hr⟩
      · exact .inr ⟨_, hv, .self⟩
      · exact .inr ⟨u, hu, .step hr hv⟩
  · rintro (rfl | ⟨v, hv, hr⟩)
    · exact .self
    · exact Reach.trans (.step .self hv) hr

/-! ### what is always, what is on the guard -/
def comb (A B : Nat → Bool) (k : Nat) : Nat := if A k then 2 else if B k then 1 else 0
/-- One grant: k8 below 4 marks 'always', else 'guarded'. -/
theorem comb_alw (A B : Nat → Bool) {k8 : Nat} (h : k8 < 4) (k : Nat) : comb (upd A k8 true) B k = if k8 % 4 = k then max (comb A B k) (gt k8) else comb A B k := by
  have e : k8 % 4 = k8 := by omega
  rw [e]
  unfold comb gt
  by_cases hk : k8 = k
  · subst hk
    rw [upd_same, if_pos rfl, if_pos rfl, if_pos h]
    split
    · rfl
    · split <;> rfl
  · rw [upd_ne _ _ (Ne.symm hk), if_neg hk]
theorem comb_grd (A B : Nat → Bool) {k8 : Nat} (h : ¬ k8 < 4) (k : Nat) : comb A (upd B (k8 % 4) true) k = if k8 % 4 = k then max (comb A B k) (gt k8) else comb A B k := by
  unfold comb gt
  by_cases hk : k8 % 4 = k
  · subst hk
    rw [upd_same, if_pos rfl, if_neg h]
    simp only [if_true]
    split
    · rfl
    · split <;> rfl
  · rw [upd_ne _ _ (Ne.symm hk), if_neg hk]
theorem gz_snoc' (gs : List Nat) (s k : Nat) : gz (gs ++ [s]) k = if s % 4 = k then max (gz gs k) (gt s) else gz gs k := by
  rw [gz_snoc]
  by_cases e : k = s % 4
  · subst e; rw [upd_same, if_pos rfl]
  · rw [upd_ne _ _ e, if_neg (Ne.symm e)]

/-! ### lists that are sorted -/
theorem sorted_ext {α : Type} {lt : α → α → Prop} (hi : ∀ x, ¬ lt x x) (ha : ∀ x y, lt x y → ¬ lt y x) : ∀ {l1 l2 : List α}, l1.Pairwise lt → l2.Pairwise lt → (∀ x, x ∈ l1 ↔ x ∈ l2) → l1 = l2
  | [], [], _, _, _ => rfl
  | [], y :: l2, _, _, h => by have := (h y).2 (by simp); simp at this
  | x :: l1, [], _, _, h => by have := (h x).1 (by simp); simp at this
  | x :: l1, y :: l2, h1, h2, h => by
    rw [List.pairwise_cons] at h1 h2
    have exy : x = y := by
      rcases List.mem_cons.1 ((h x).1 (by simp)) with e | e
      · exact e
      · rcases List.mem_cons.1 ((h y).2 (by simp)) with e' | e'
        · exact e'.symm
        · exact absurd (h1.1 y e') (ha _ _ (h2.1 x e))
    subst exy
    have hx1 : x ∉ l1 := fun e => hi x (h1.1 x e)
    have hx2 : x ∉ l2 := fun e => hi x (h2.1 x e)
    rw [sorted_ext hi ha h1.2 h2.2 (fun z => ?_)]
    constructor
    · intro hz
      rcases List.mem_cons.1 ((h z).1 (List.mem_cons_of_mem _ hz)) with e | e
      · subst e; exact absurd hz hx1
      · exact e
    · intro hz
      rcases List.mem_cons.1 ((h z).2 (List.mem_cons_of_mem _ hz)) with e | e
      · subst e; exact absurd hz hx2
      · exact e
theorem ltL_lt : ∀ a b : List UInt8, ltL a b = true ↔ a < b
  | [], [] => by simp [ltL]
  | [], b :: bs => by simp [ltL]
  | a :: az, [] => by simp [ltL]
  | a :: az, b :: bs => by
    rw [List.cons_lt_cons_iff]
    unfold ltL
    have ih := ltL_lt az bs
    split
    · rename_i h
      simp [h]
    · rename_i h
      split
      · rename_i h'
        simp only [Bool.false_eq_true, false_iff, not_or, not_and]
        exact ⟨h, fun e => by subst e; exact absurd h' h⟩
      · rename_i h'
        have e := u8_tri h h'
        subst e
        rw [ih]
        simp [h]
theorem uniq_sub {α : Type} [DecidableEq α] : ∀ l : List α, (uniq l).Sublist l
  | [] => List.Sublist.refl _
  | [x] => List.Sublist.refl _
  | x :: y :: l => by
    unfold uniq
    split
    · exact (uniq_sub (y :: l)).cons _
    · exact (uniq_sub (y :: l)).cons_cons _
theorem codesOf_sorted (l : List ByteArray) : (codesOf l).Pairwise (fun x y => leS x y = true) := (sortS_sorted l).sublist (uniq_sub _)
/-- Sorted by the library, and as the program leaves it: one list. -/
theorem sorted_eq {ss : List (List UInt8)} {l0 : List ByteArray} (hnd : ss.Nodup) (hm : ∀ s : ByteArray, s.data.toList ∈ ss ↔ s ∈ codesOf l0) : ss.mergeSort (fun x y => decide (x ≤ y)) = (codesOf l0).map (·.data.toList) := by
  have hle : ∀ x y : List UInt8, x ≤ y ↔ ltL y x = false := fun x y => by
    rw [← Bool.not_eq_true, ltL_lt]
    exact ⟨fun h h' => h h', fun h h' => h h'⟩
  have hinj : ∀ a b : ByteArray, a.data.toList = b.data.toList → a = b := fun a b h => by
    have h3 : a.data = b.data := Array.toList_inj.1 h
    cases a; cases b
    simp only at h3
    rw [h3]
  refine sorted_ext (lt := fun x y => ltL x y = true) (fun x => by rw [ltL_irrefl]; simp) (fun x y h h' => by have := ltL_trans _ _ _ h h'; rw [ltL_irrefl] at this; cases this) ?_ ?_ (fun x => ?_)
  · have h1 : (ss.mergeSort (fun x y => decide (x ≤ y))).Pairwise (fun x y => decide (x ≤ y) = true) := List.pairwise_mergeSort (fun a b c h1 h2 => by
      simp only [decide_eq_true_eq] at *
      exact Std.le_trans h1 h2) (fun a b => by simp only [Bool.or_eq_true, decide_eq_true_eq]; exact Std.le_total) ss
    have h2 : (ss.mergeSort (fun x y => decide (x ≤ y))).Nodup := (List.mergeSort_perm ss _).nodup_iff.2 hnd
    refine (h1.and h2).imp ?_
    rintro x y ⟨h, hne⟩
    simp only [decide_eq_true_eq] at h
    rw [hle] at h
    cases hxy : ltL x y with
    | true => rfl
    | false => exact absurd (ltL_tot x y hxy h) hne
  · rw [List.pairwise_map]
    have h1 := codesOf_sorted l0
    have h2 := codesOf_nodup l0
    refine (h1.and h2).imp ?_
    rintro x y ⟨h, hne⟩
    unfold leS at h
    simp only [Bool.not_eq_true', ltS] at h
    cases hxy : ltL x.data.toList y.data.toList with
    | true => rfl
    | false => exact absurd (hinj x y (ltL_tot _ _ hxy h)) hne
  · rw [List.mem_mergeSort, List.mem_map]
    constructor
    · intro hx
      have := (hm ⟨x.toArray⟩).1 (by simpa using hx)
      exact ⟨_, this, by simp⟩
    · rintro ⟨s, hs, rfl⟩
      exact (hm s).2 hs
end Go.Proofs.YbulkcvxmGreatFmt
