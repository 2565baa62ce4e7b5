/- Permission maps: keyed by strings, every rule 'always'. -/
import Derived.Test.YbulkcvxmFmtMem
set_option linter.unusedSimpArgs false
set_option linter.unusedVariables false
namespace Go.Proofs.YbulkcvxmFmt
open Go.RowKit Go.Maps Go.WideMaps

def heldE (v : Value) : Option (DataW Value × List MemPlace) := some (.held v, [])
/-- The rule that holds always; the rule that never does. -/
def rT : Value := .agg #[.bool true, .slice none 0 0]
def rZ : Value := .agg #[.bool false, .slice none 0 0]
def KS : List Lit := [.string [97], .string [98, 58, 99], .string [100, 58], .string []]
/-- A key of a permission map. -/
structure IsK (s : ByteArray) : Prop where
  mem : Lit.string s.data.toList ∈ KS
/-- How many keys a map has. -/
def has4 (D : DataW Value) : Nat := (KS.filter (fun k => has D k)).length
/-- Block b is a permission map. -/
structure PM (w : World) (b : Nat) : Prop where
  ex : ∃ D, w.ownsMap Ybaf.prog 9 heldE b 4 D ∧ (∀ k, has D k = true → k ∈ KS) ∧ Maps.size D = has4 D ∧ ∀ k, has D k = true → ∀ z, D.atKey k z = .held rT
theorem has4_le (D : DataW Value) : has4 D ≤ 4 := by
  unfold has4
  have := List.length_filter_le (fun k => has D k) KS
  simpa [KS] using this
theorem KS_key {k : Lit} (hk : k ∈ KS) : WideAt.IsKeyLit k := by simp [KS] at hk; rcases hk with rfl | rfl | rfl | rfl <;> trivial
theorem has_put (D : DataW Value) (hD : IsMap D) {k : Lit} (hk : k ∈ KS) (d : DataW Value) (k' : Lit) : has (D.put k d) k' = true ↔ k' = k ∨ has D k' = true := by
  by_cases e : k' = k
  · subst e
    rw [has_put_same hD (KS_key hk)]; simp
  · rw [has_put_other e]; simp [e]
theorem has4_put (D : DataW Value) (hD : IsMap D) {k : Lit} (hk : k ∈ KS) (d : DataW Value) : has4 (D.put k d) = if has D k then has4 D else has4 D + 1 := by
  have hs := has_put_same hD (KS_key hk) d
  have ho : ∀ k', k' ≠ k → has (D.put k d) k' = has D k' := fun k' h => has_put_other h d
  unfold has4
  simp [KS] at hk
  rcases hk with rfl | rfl | rfl | rfl
  · simp only [KS, List.filter_cons, List.filter_nil, hs, ho (.string [98, 58, 99]) (by simp), ho (.string [100, 58]) (by simp), ho (.string []) (by simp)]
    cases has D (.string [97]) <;> cases has D (.string [98, 58, 99]) <;> cases has D (.string [100, 58]) <;> cases has D (.string []) <;> rfl
  · simp only [KS, List.filter_cons, List.filter_nil, hs, ho (.string [97]) (by simp), ho (.string [100, 58]) (by simp), ho (.string []) (by simp)]
    cases has D (.string [97]) <;> cases has D (.string [98, 58, 99]) <;> cases has D (.string [100, 58]) <;> cases has D (.string []) <;> rfl
  · simp only [KS, List.filter_cons, List.filter_nil, hs, ho (.string [97]) (by simp), ho (.string [98, 58, 99]) (by simp), ho (.string []) (by simp)]
    cases has D (.string [97]) <;> cases has D (.string [98, 58, 99]) <;> cases has D (.string [100, 58]) <;> cases has D (.string []) <;> rfl
  · simp only [KS, List.filter_cons, List.filter_nil, hs, ho (.string [97]) (by simp), ho (.string [98, 58, 99]) (by simp), ho (.string [100, 58]) (by simp)]
    cases has D (.string [97]) <;> cases has D (.string [98, 58, 99]) <;> cases has D (.string [100, 58]) <;> cases has D (.string []) <;> rfl
section
variable {w w' : World} {b : Nat}
theorem PM.made (w : World) : PM (w.alloc (.map #[] 0)) w.heap.size :=
  ⟨.map [], (World.ownsMap_made w _ _ _).mono (by omega), (fun k h => by cases h), rfl, (fun k h => by cases h)⟩
theorem PM.lt (h : PM w b) : b < w.heap.size := by obtain ⟨D, h1, _⟩ := h.ex; exact h1.lt
theorem PM.isMap (h : PM w b) : ∃ es cl, w.heap[b]? = some (.map es cl) := by
  obtain ⟨D, ⟨es, cl, h1, _⟩, _⟩ := h.ex
  exact ⟨es, cl, h1⟩
theorem PM.keep (h : PM w b) (he : w'.heap[b]? = w.heap[b]?) : PM w' b := by
  obtain ⟨D, ⟨es, cl, h1, h2⟩, h3⟩ := h.ex
  exact ⟨D, ⟨es, cl, he.trans h1, h2⟩, h3⟩
theorem PM.since (h : PM w b) (hs : Since w w') : PM w' b := h.keep (hs.out.block b h.lt)
theorem und9 : Ybaf.prog.underlying 9 = some .string := by kernel_rfl
theorem zero84 (w : World) : (zeroValue 84).run Ybaf.prog w = .ok (.agg #[.bool false, .slice none 0 0]) w := by kernel_rfl
theorem IsK.key {s : ByteArray} (h : IsK s) : keyOf Ybaf.prog 9 (.string s) = some (.string s.data.toList) := by
  refine keyOf_string_mk und9 ?_
  have := h.mem
  simp [KS] at this
  have e : s.size = s.data.toList.length := (Array.length_toList).symm
  unfold maxLen
  rcases this with h | h | h | h <;> (rw [e, h]; simp only [List.length_cons, List.length_nil]; omega)
theorem PM.look (h : PM w b) {s : ByteArray} (hs : IsK s) : ∃ x, (Instr.lookup 44 (.map (some b)) (.string s) false).run Ybaf.prog w = .ok (.agg #[.bool x, .slice none 0 0]) w := by
  obtain ⟨D, h1, h2, h3, h4⟩ := h.ex
  obtain ⟨v, ps, hr, hv⟩ := h1.lookup (string_keyed und9) Ybaf.underlying44 (zero84 w) (zd := .held rZ) (zp := []) rfl hs.key
  rw [hr]
  cases hk : has D (.string s.data.toList) with
  | true =>
    rw [h4 _ hk] at hv
    simp [heldE] at hv
    exact ⟨true, by rw [hv.1]; rfl⟩
  | false =>
    rw [atKey_of_not_has hk] at hv
    simp [heldE] at hv
    exact ⟨false, by rw [hv.1]; rfl⟩
theorem PM.store (h : PM w b) {s : ByteArray} (hs : IsK s) : ∃ w', (Instr.mapUpdate 44 (.map (some b)) (.string s) (.agg #[.bool true, .slice none 0 0])).run Ybaf.prog w = .ok () w' ∧ PM w' b ∧ w.mapTurned w' b := by
  obtain ⟨D, h1, h2, h3, h4⟩ := h.ex
  obtain ⟨w', hr, r1, r2⟩ := h1.store (string_keyed und9) Ybaf.underlying44 (by unfold maxLen; omega) hs.key (val := rT) (d := .held rT) (ps := []) rfl
  have hmap := h1.isMap
  have hp := has_put D hmap hs.mem (.held rT)
  have hp4 := has4_put D hmap hs.mem (.held rT)
  have hsz : Maps.size (D.put (.string s.data.toList) (.held rT)) = has4 (D.put (.string s.data.toList) (.held rT)) := by
    rw [size_put (h1.tidy (string_keyed und9)), hp4, h3]
  refine ⟨w', hr, ⟨D.put (.string s.data.toList) (.held rT), ?_, fun k hk => ?_, hsz, fun k hk z => ?_⟩, r2⟩
  · obtain ⟨es, cl, g1, g2, g3, g4⟩ := r1
    refine ⟨es, cl, g1, g2, ?_, g4⟩
    have := has4_le (D.put (.string s.data.toList) (.held rT))
    rw [← hsz, g4] at this
    simpa [Maps.size, length_sorted] using this
  · rcases (hp k).1 hk with h | h
    · rw [h]; exact hs.mem
    · exact h2 k h
  · by_cases e : k = .string s.data.toList
    · subst e
      exact atKey_put_same hmap (show WideAt.IsKeyLit (.string s.data.toList) from trivial) _ _
    · rw [atKey_put_other e]
      rcases (hp k).1 hk with h | h
      · exact absurd h e
      · exact h4 k h z
end
end Go.Proofs.YbulkcvxmFmt
