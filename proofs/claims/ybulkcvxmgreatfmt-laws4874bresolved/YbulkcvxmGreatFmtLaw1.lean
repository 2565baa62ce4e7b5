/- The law (3): j roles are done. -/
import Derived.Test.YbulkcvxmGreatFmtLaw0
set_option linter.unusedSimpArgs false
set_option linter.unusedVariables false
namespace Go.Proofs.YbulkcvxmGreatFmt
open Go.RowKit

def cj (j k : Nat) : Nat := if k < j then 2 else 0
theorem cj_next (j : Nat) : upd (cj j) j 2 = cj (j + 1) := by
  funext k
  unfold cj
  by_cases e : k = j
  · subst e; rw [upd_same, if_pos (by omega)]
  · rw [upd_ne _ _ e]
    by_cases e2 : k < j
    · rw [if_pos e2, if_pos (by omega)]
    · rw [if_neg e2, if_neg (by omega)]
structure Dn (g : Gph) (w2 : World) (j : Nat) (R : Nat → Int) (Z : Nat → Nat → Nat) (K : Nat → List ByteArray) (F : Nat → Nat → Value) (w : World) : Prop where
  rf : Rf g w2 w
  net : Net w g (cj j) R Z K F
  rk : Rk g.E g.own (cj j) R
  rz : ∀ k, k < 4 → Rk g.E (fun i => (gz (g.G i) k : Int)) (cj j) (fun i => (Z i k : Int))
  cd : ∀ i, i < j → (∃ l0, K i = codesOf l0) ∧ ∀ s, s ∈ K i ↔ ∃ v, Reach g.E i v ∧ s = codeS v
theorem Dn.start {g : Gph} {w2 : World} {F : Nat → Nat → Value} (h : Net w2 g (fun _ => 0) (fun _ => 0) (fun _ _ => 0) (fun _ => []) F) : Dn g w2 0 (fun _ => 0) (fun _ _ => 0) (fun _ => []) F w2 := by
  have e : cj 0 = fun _ => 0 := by funext k; unfold cj; rw [if_neg (Nat.not_lt_zero _)]
  exact ⟨Rf.refl _ _, by rw [e]; exact h, by rw [e]; exact Rk.none _ _ _, fun k _ => by rw [e]; exact Rk.none _ _ _, fun i hi => absurd hi (Nat.not_lt_zero _)⟩
theorem Dn.next {g : Gph} (ok : Gok g) {w2 w w' : World} {j : Nat} {R : Nat → Int} {Z : Nat → Nat → Nat} {K : Nat → List ByteArray} {F : Nat → Nat → Value} (h : Dn g w2 j R Z K F w) (hj : j < g.n) (hb : But (g.rb j) w w') {m : Int} {T : Nat → Nat} {l : List ByteArray} {f : Nat → Value}
    (hN : Net w' g (upd (cj j) j 2) (upd R j m) (upd Z j T) (upd K j l) (upd F j f)) (hg : Great m (g.own j) R (g.E j)) (hz : ∀ k, k < 4 → Great (T k : Int) (gz (g.G j) k : Int) (fun v => (Z v k : Int)) (g.E j)) (hl : ∃ l0, l = codesOf l0) (hm : ∀ s, s ∈ l ↔ s = codeS j ∨ ∃ v ∈ g.E j, s ∈ K v) :
    Dn g w2 (j + 1) (upd R j m) (upd Z j T) (upd K j l) (upd F j f) w' := by
  have hc : cj j j ≠ 2 := by unfold cj; rw [if_neg (Nat.lt_irrefl _)]; omega
  have hv : ∀ v ∈ g.E j, cj j v = 2 := fun v hv => by unfold cj; rw [if_pos (ok.elt j hj v hv)]
  refine ⟨h.rf.but hj hb, by rw [← cj_next]; exact hN, by rw [← cj_next]; exact h.rk.close hc hv hg, fun k hk => ?_, fun i hi => ?_⟩
  · rw [← cj_next]
    refine ((h.rz k hk).close hc hv (hz k hk)).congr (fun v => Iff.rfl) (fun v hv => ?_)
    by_cases e : v = j
    · subst e; rw [upd_same, upd_same]
    · rw [upd_ne _ _ e, upd_ne _ _ e]
  · by_cases e : i = j
    · subst e
      rw [upd_same]
      refine ⟨hl, fun s => ?_⟩
      rw [hm]
      constructor
      · rintro (rfl | ⟨v, hv', hs⟩)
        · exact ⟨_, .self, rfl⟩
        · obtain ⟨u, hu, rfl⟩ := ((h.cd v (ok.elt i hj v hv')).2 s).1 hs
          exact ⟨u, reach_head.2 (.inr ⟨v, hv', hu⟩), rfl⟩
      · rintro ⟨v, hv', rfl⟩
        rcases reach_head.1 hv' with rfl | ⟨u, hu, hr⟩
        · exact .inl rfl
        · exact .inr ⟨u, hu, ((h.cd u (ok.elt i hj u hu)).2 _).2 ⟨v, hr, rfl⟩⟩
    · rw [upd_ne _ _ e]
      exact h.cd i (by omega)
end Go.Proofs.YbulkcvxmGreatFmt
