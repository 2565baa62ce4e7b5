/- Rules and permission maps: what they hold. 0: no rule; 1: the one guard; 2: always. -/
import Derived.Test.YbulkcvxmGreatFmtMem
set_option linter.unusedSimpArgs false
set_option linter.unusedVariables false
namespace Go.Proofs.YbulkcvxmGreatFmt
open Go.RowKit Go.Maps Go.WideMaps

def heldE (v : Value) : Option (DataW Value × List MemPlace) := some (.held v, [])
/-- The four keys. -/
def keyB : Nat → ByteArray
  | 0 => ⟨#[97]⟩
  | 1 => ⟨#[98, 58, 99]⟩
  | 2 => ⟨#[100, 58]⟩
  | _ => ⟨#[]⟩
def kL (i : Nat) : Lit := .string (keyB i).data.toList
def KS : List Lit := [kL 0, kL 1, kL 2, kL 3]
theorem kL_inj {i j : Nat} (hi : i < 4) (hj : j < 4) (h : kL i = kL j) : i = j := by
  rcases (by omega : i = 0 ∨ i = 1 ∨ i = 2 ∨ i = 3) with rfl | rfl | rfl | rfl <;> rcases (by omega : j = 0 ∨ j = 1 ∨ j = 2 ∨ j = 3) with rfl | rfl | rfl | rfl <;> simp [kL, keyB] at h ⊢
theorem mem_KS {k : Lit} : k ∈ KS ↔ ∃ i, i < 4 ∧ k = kL i := by
  constructor
  · intro h
    simp only [KS, List.mem_cons, List.not_mem_nil, or_false] at h
    rcases h with h | h | h | h
    · exact ⟨0, by omega, h⟩
    · exact ⟨1, by omega, h⟩
    · exact ⟨2, by omega, h⟩
    · exact ⟨3, by omega, h⟩
  · rintro ⟨i, hi, rfl⟩
    rcases (by omega : i = 0 ∨ i = 1 ∨ i = 2 ∨ i = 3) with rfl | rfl | rfl | rfl <;> simp [KS]
/-- How many of the four keys a map has. -/
def has4 (D : DataW Value) : Nat := (KS.filter (fun k => has D k)).length
def one (b : Bool) : Nat := if b then 1 else 0
theorem has4_eq (D : DataW Value) : has4 D = one (has D (kL 0)) + one (has D (kL 1)) + one (has D (kL 2)) + one (has D (kL 3)) := by
  unfold has4
  simp only [KS, List.filter_cons, List.filter_nil]
  cases has D (kL 0) <;> cases has D (kL 1) <;> cases has D (kL 2) <;> cases has D (kL 3) <;> rfl
theorem has4_le (D : DataW Value) : has4 D ≤ 4 := by
  have := List.length_filter_le (fun k => has D k) KS
  simpa [has4, KS] using this
theorem kL_key (i : Nat) : WideAt.IsKeyLit (kL i) := trivial

/-- A rule as it lies. -/
structure RuleV (w : World) (gb : Nat) (s : Nat) (v : Value) : Prop where
  ex : (s = 2 ∧ v = .agg #[.bool true, .slice none 0 0]) ∨ (s = 0 ∧ v = .agg #[.bool false, .slice none 0 0]) ∨ (s = 1 ∧ ∃ q cap cs, v = .agg #[.bool false, .slice (some ⟨q, 0, none⟩) 1 cap] ∧ 1 ≤ cap ∧ cap ≤ maxLen ∧ w.heap[q]? = some (.cells cs 27) ∧ cs[0]? = some (.pointer (some ⟨gb, 0, none⟩)))
section
variable {w w' : World} {gb b s : Nat} {v : Value} {S : Nat → Nat}
theorem RuleV.kx {Ts Ms : List Nat} (h : RuleV w gb s v) (hk : Kx Ts Ms w w') (hT : 27 ∉ Ts) : RuleV w' gb s v := by
  rcases h.ex with h | h | ⟨h, q, cap, cs, h1, h2, h3, h4, h5⟩
  · exact ⟨.inl h⟩
  · exact ⟨.inr (.inl h)⟩
  · exact ⟨.inr (.inr ⟨h, q, cap, cs, h1, h2, h3, hk.cell q _ _ _ h4 hT, h5⟩)⟩
theorem RuleV.since (h : RuleV w gb s v) (hs : Since w w') : RuleV w' gb s v := h.kx (Kx.since (Ts := []) (Ms := []) hs) (by simp)
theorem RuleV.le (h : RuleV w gb s v) : s ≤ 2 := by
  rcases h.ex with h | h | ⟨h, _⟩ <;> omega
theorem RuleV.zero (w : World) (gb : Nat) : RuleV w gb 0 (.agg #[.bool false, .slice none 0 0]) := ⟨.inr (.inl ⟨rfl, rfl⟩)⟩

/-- Block b is a permission map. -/
structure PM (w : World) (b gb : Nat) (S : Nat → Nat) : Prop where
  ex : ∃ D, w.ownsMap Ybaz.prog 9 heldE b 4 D ∧ (∀ k, has D k = true → k ∈ KS) ∧ Maps.size D = has4 D ∧ ∀ i, i < 4 → (has D (kL i) = true ↔ S i ≠ 0) ∧ (S i ≠ 0 → ∃ v, RuleV w gb (S i) v ∧ ∀ z, D.atKey (kL i) z = .held v)
theorem PM.made (w : World) (gb : Nat) : PM (w.alloc (.map #[] 0)) w.heap.size gb (fun _ => 0) :=
  ⟨.map [], (World.ownsMap_made w _ _ _).mono (by omega), (fun k h => by cases h), rfl, fun i hi => ⟨by constructor <;> intro h <;> first | cases h | exact absurd rfl h, fun h => absurd rfl h⟩⟩
theorem PM.lt (h : PM w b gb S) : b < w.heap.size := by obtain ⟨D, h1, _⟩ := h.ex; exact h1.lt
theorem PM.isMap (h : PM w b gb S) : ∃ es cl, w.heap[b]? = some (.map es cl) := by
  obtain ⟨D, ⟨es, cl, h1, _⟩, _⟩ := h.ex
  exact ⟨es, cl, h1⟩
theorem PM.keep {Ts Ms : List Nat} (h : PM w b gb S) (he : w'.heap[b]? = w.heap[b]?) (hk : Kx Ts Ms w w') (hT : 27 ∉ Ts) : PM w' b gb S := by
  obtain ⟨D, ⟨es, cl, h1, h2⟩, h3, h4, h5⟩ := h.ex
  exact ⟨D, ⟨es, cl, he.trans h1, h2⟩, h3, h4, fun i hi => ⟨(h5 i hi).1, fun hs => by
    obtain ⟨v, g1, g2⟩ := (h5 i hi).2 hs
    exact ⟨v, g1.kx hk hT, g2⟩⟩⟩
theorem PM.kx {Ts Ms : List Nat} (h : PM w b gb S) (hk : Kx Ts Ms w w') (hT : 27 ∉ Ts) (hM : b ∉ Ms) : PM w' b gb S := by
  obtain ⟨es, cl, h1⟩ := h.isMap
  exact h.keep (by rw [h1]; exact hk.map b es cl h1 hM) hk hT
theorem PM.since (h : PM w b gb S) (hs : Since w w') : PM w' b gb S := h.kx (Kx.since (Ts := []) (Ms := []) hs) (by simp) (by simp)
theorem PM.congr {S' : Nat → Nat} (h : PM w b gb S) (he : ∀ i, i < 4 → S' i = S i) : PM w b gb S' := by
  obtain ⟨D, h1, h3, h4, h5⟩ := h.ex
  exact ⟨D, h1, h3, h4, fun i hi => by rw [he i hi]; exact h5 i hi⟩
theorem und9 : Ybaz.prog.underlying 9 = some .string := by kernel_rfl
theorem zero65 (w : World) : (zeroValue 65).run Ybaz.prog w = .ok (.agg #[.bool false, .slice none 0 0]) w := by kernel_rfl
theorem keyB_key (i : Nat) : keyOf Ybaz.prog 9 (.string (keyB i)) = some (kL i) := by
  refine keyOf_string_mk und9 ?_
  unfold maxLen
  rcases i with _ | _ | _ | i <;> simp only [keyB] <;> decide
theorem PM.look (h : PM w b gb S) {i : Nat} (hi : i < 4) : ∃ v, RuleV w gb (S i) v ∧ (Instr.lookup 50 (.map (some b)) (.string (keyB i)) false).run Ybaz.prog w = .ok v w ∧ (Instr.lookup 50 (.map (some b)) (.string (keyB i)) true).run Ybaz.prog w = .ok (.tuple #[v, .bool (decide (S i ≠ 0))]) w := by
  obtain ⟨D, h1, h2, h3, h4⟩ := h.ex
  obtain ⟨v, ps, hr, hv⟩ := h1.lookup (string_keyed und9) Ybaz.underlying50 (zero65 w) (zd := .held (.agg #[.bool false, .slice none 0 0])) (zp := []) rfl (keyB_key i)
  obtain ⟨v2, ps2, hr2, hv2⟩ := h1.look_ok (string_keyed und9) Ybaz.underlying50 (zero65 w) (zd := .held (.agg #[.bool false, .slice none 0 0])) (zp := []) rfl (keyB_key i)
  obtain ⟨g1, g2⟩ := h4 i hi
  by_cases hs : S i = 0
  · have hh : has D (kL i) = false := by
      cases hq : has D (kL i) with
      | false => rfl
      | true => exact absurd hs (g1.1 hq)
    rw [atKey_of_not_has hh] at hv hv2
    simp [heldE] at hv hv2
    refine ⟨.agg #[.bool false, .slice none 0 0], by rw [hs]; exact RuleV.zero w gb, by rw [hr, hv.1], by rw [hr2, hv2.1, hh]; simp [hs]⟩
  · obtain ⟨x, hx, hat⟩ := g2 hs
    have hh := g1.2 hs
    rw [hat] at hv hv2
    simp [heldE] at hv hv2
    exact ⟨x, hx, by rw [hr, hv.1], by rw [hr2, hv2.1, hh]; simp [hs]⟩
theorem has_put (D : DataW Value) (hD : IsMap D) (i : Nat) (d : DataW Value) (k' : Lit) : has (D.put (kL i) d) k' = true ↔ k' = kL i ∨ has D k' = true := by
  by_cases e : k' = kL i
  · subst e
    rw [has_put_same hD (kL_key i)]; simp
  · rw [has_put_other e]; simp [e]
theorem has4_put (D : DataW Value) (hD : IsMap D) {i : Nat} (hi : i < 4) (d : DataW Value) : has4 (D.put (kL i) d) = if has D (kL i) then has4 D else has4 D + 1 := by
  have hs := has_put_same hD (kL_key i) d
  have ho : ∀ j, j < 4 → j ≠ i → has (D.put (kL i) d) (kL j) = has D (kL j) := fun j hj h => has_put_other (fun e => h (kL_inj hj hi e)) d
  rw [has4_eq, has4_eq]
  rcases (by omega : i = 0 ∨ i = 1 ∨ i = 2 ∨ i = 3) with rfl | rfl | rfl | rfl
  · rw [hs, ho 1 (by omega) (by omega), ho 2 (by omega) (by omega), ho 3 (by omega) (by omega)]
    cases has D (kL 0) <;> simp [one] <;> omega
  · rw [hs, ho 0 (by omega) (by omega), ho 2 (by omega) (by omega), ho 3 (by omega) (by omega)]
    cases has D (kL 1) <;> simp [one] <;> omega
  · rw [hs, ho 0 (by omega) (by omega), ho 1 (by omega) (by omega), ho 3 (by omega) (by omega)]
    cases has D (kL 2) <;> simp [one] <;> omega
  · rw [hs, ho 0 (by omega) (by omega), ho 1 (by omega) (by omega), ho 2 (by omega) (by omega)]
    cases has D (kL 3) <;> simp [one] <;> omega
theorem turned_kx {Ms : List Nat} (h : w.mapTurned w' b) (hb : b ∈ Ms) : Kx [] Ms w w' := Kx.turned h hb
theorem PM.store (h : PM w b gb S) {i : Nat} (hi : i < 4) (hv : RuleV w gb s v) (hs : s ≠ 0) : ∃ w', (Instr.mapUpdate 50 (.map (some b)) (.string (keyB i)) v).run Ybaz.prog w = .ok () w' ∧ PM w' b gb (upd S i s) ∧ w.mapTurned w' b := by
  obtain ⟨D, h1, h2, h3, h4⟩ := h.ex
  obtain ⟨w', hr, r1, r2⟩ := h1.store (string_keyed und9) Ybaz.underlying50 (by unfold maxLen; omega) (keyB_key i) (val := v) (d := .held v) (ps := []) rfl
  have hmap := h1.isMap
  have hp := has_put D hmap i (.held v)
  have hp4 := has4_put D hmap hi (.held v)
  have hsz : Maps.size (D.put (kL i) (.held v)) = has4 (D.put (kL i) (.held v)) := by
    rw [size_put (h1.tidy (string_keyed und9)), hp4, h3]
  have hk : Kx [] [b] w w' := Kx.turned r2 (by simp)
  refine ⟨w', hr, ⟨D.put (kL i) (.held v), ?_, fun k hk => ?_, hsz, fun j hj => ⟨?_, fun hne => ?_⟩⟩, r2⟩
  · obtain ⟨es, cl, g1, g2, g3, g4⟩ := r1
    refine ⟨es, cl, g1, g2, ?_, g4⟩
    have := has4_le (D.put (kL i) (.held v))
    rw [← hsz, g4] at this
    simpa [Maps.size, length_sorted] using this
  · rcases (hp k).1 hk with h | h
    · rw [h]; exact mem_KS.2 ⟨i, hi, rfl⟩
    · exact h2 k h
  · rw [hp (kL j)]
    by_cases e : j = i
    · subst e; rw [upd_same]; simp [hs]
    · rw [upd_ne _ _ e, ← (h4 j hj).1]
      constructor
      · rintro (e' | e')
        · exact absurd (kL_inj hj hi e') e
        · exact e'
      · exact fun e' => .inr e'
  · by_cases e : j = i
    · subst e
      rw [upd_same] at hne ⊢
      exact ⟨v, hv.kx hk (by simp), fun z => atKey_put_same hmap (kL_key j) _ _⟩
    · rw [upd_ne _ _ e] at hne ⊢
      obtain ⟨x, g1, g2⟩ := (h4 j hj).2 hne
      exact ⟨x, g1.kx hk (by simp), fun z => by rw [atKey_put_other (fun e' => e (kL_inj hj hi e'))]; exact g2 z⟩
/-- How many rules a set holds. -/
def cnt (S : Nat → Nat) : Nat := one (decide (S 0 ≠ 0)) + one (decide (S 1 ≠ 0)) + one (decide (S 2 ≠ 0)) + one (decide (S 3 ≠ 0))
theorem PM.len (h : PM w b gb S) (ty : TypeId) : (Builtin.len_ #[50] ty #[.map (some b)]).run Ybaz.prog w = .ok (.int .i64 (cnt S)) w := by
  obtain ⟨D, h1, h2, h3, h4⟩ := h.ex
  have e : ∀ i, i < 4 → has D (kL i) = decide (S i ≠ 0) := fun i hi => by
    have := (h4 i hi).1
    cases hq : has D (kL i) with
    | true => simp [this.1 hq]
    | false => simp; exact Classical.byContradiction fun hn => by rw [this.2 hn] at hq; cases hq
  rw [h1.len Ybaz.underlying50, h3, has4_eq, e 0 (by omega), e 1 (by omega), e 2 (by omega), e 3 (by omega)]
  rfl
end
end Go.Proofs.YbulkcvxmGreatFmt
