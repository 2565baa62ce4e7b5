/- resolve (6): what holds between its steps. -/
import Derived.Test.YbulkcvxmGreatFmtRoles
set_option linter.unusedSimpArgs false
set_option linter.unusedVariables false
namespace Go.Proofs.YbulkcvxmGreatFmt
open Go.RowKit

/-- Lists of codes, in a row of our own. -/
structure LS (w : World) (base : Nat) (cv : Value) (LL : List (List ByteArray)) : Prop where
  ex : ∃ VS : List Value, RowL w base 53 1 vC cv VS ∧ VS.length = LL.length ∧ ∀ (j : Nat) v L, VS[j]? = some v → LL[j]? = some L → CodesL w v L ∧ L ≠ [] ∧ L.length ≤ 300
theorem LS.lists {w : World} {base : Nat} {cv : Value} {LL : List (List ByteArray)} (h : LS w base cv LL) : Lists w cv LL := by
  obtain ⟨VS, h1, h2, h3⟩ := h.ex
  exact ⟨VS, h1.lower (Nat.zero_le _), h2, h3⟩
theorem LS.kx {Ts Ms : List Nat} {w w' : World} {base : Nat} {cv : Value} {LL : List (List ByteArray)} (h : LS w base cv LL) (hk : Kx Ts Ms w w') (h1 : 53 ∉ Ts) (h2 : 20 ∉ Ts) : LS w' base cv LL := by
  obtain ⟨VS, g1, g2, g3⟩ := h.ex
  exact ⟨VS, hk.row g1 h1, g2, fun j v L hv hL => ⟨(g3 j v L hv hL).1.kx hk h2, (g3 j v L hv hL).2⟩⟩
theorem LS.row {w : World} {base : Nat} {cv : Value} {LL : List (List ByteArray)} (h : LS w base cv LL) : ∃ VS a cap, VS.length = LL.length ∧ cv = .slice a VS.length cap ∧ RowL w base 53 1 vC (.slice a VS.length cap) VS := by
  obtain ⟨VS, g1, g2, g3⟩ := h.ex
  obtain ⟨a, cap, rfl, -⟩ := g1.form
  exact ⟨VS, a, cap, g2, rfl, g1⟩

theorem ls_start (w : World) (base : Nat) (s : ByteArray) (hb : base ≤ w.heap.size) : LS ((w.alloc (.cells #[.iface 9 (.string s)] 20)).alloc (.cells #[.slice (some ⟨w.heap.size, 0, none⟩) 1 1] 53)) base (.slice (some ⟨w.heap.size + 1, 0, none⟩) 1 1) [[s]] := by
  have z1 : (w.alloc (.cells #[.iface 9 (.string s)] 20)).heap.size = w.heap.size + 1 := by simp
  have h1 := newBlock (w.alloc (.cells #[.iface 9 (.string s)] 20)) (.cells #[.slice (some ⟨w.heap.size, 0, none⟩) 1 1] 53)
  rw [z1] at h1
  have h2 := (Since.new (w.alloc (.cells #[.iface 9 (.string s)] 20)) (.cells #[.slice (some ⟨w.heap.size, 0, none⟩) 1 1] 53)).keep (newBlock w (.cells #[.iface 9 (.string s)] 20))
  refine ⟨[.slice (some ⟨w.heap.size, 0, none⟩) 1 1], ⟨⟨rfl, .inr ⟨w.heap.size + 1, 1, _, rfl, by omega, h1, by simp, by unfold maxLen; omega, rfl, rfl⟩⟩⟩, rfl, fun j v L hv hL => ?_⟩
  cases j with
  | succ j => simp at hv
  | zero =>
    simp at hv hL
    subst hv hL
    refine ⟨⟨w.heap.size, 1, _, rfl, by simp, by unfold maxLen; omega, h2, fun k s' hk => ?_⟩, by simp, by simp⟩
    cases k with
    | succ k => simp at hk
    | zero => simp at hk; subst hk; rfl
theorem LS.snoc {w w' : World} {base b cap m : Nat} {cv x : Value} {LL : List (List ByteArray)} {L : List ByteArray} {VS : List Value} (h : LS w base cv LL) (hk : Kx [53] [] w w') (hv : RowL w base 53 1 vC cv VS) (hr : RowL w' base 53 1 vC (.slice (some ⟨b, 0, none⟩) m cap) (VS ++ [x])) (hx : CodesL w' x L) (h0 : L ≠ []) (h3 : L.length ≤ 300) : LS w' base (.slice (some ⟨b, 0, none⟩) m cap) (LL ++ [L]) := by
  obtain ⟨US, g1, g2, g3⟩ := h.ex
  have e : VS = US := by
    have h1 := hv.own
    have h2 := g1.own
    have f : ∀ l : List Value, l.flatMap vC = l := fun l => by induction l with
      | nil => rfl
      | cons a l ih => simp [vC] at ih ⊢; exact ih
    rw [f] at h1 h2
    rcases h1.2 with ⟨e1, z1⟩ | ⟨b1, c1, cs1, e1, _, q1, _, _, _, t1⟩
    · rcases h2.2 with ⟨e2, z2⟩ | ⟨b2, c2, cs2, e2, _, q2, _, _, _, t2⟩
      · rw [List.eq_nil_of_length_eq_zero z1, List.eq_nil_of_length_eq_zero z2]
      · rw [e1] at e2; cases e2
    · rcases h2.2 with ⟨e2, z2⟩ | ⟨b2, c2, cs2, e2, _, q2, _, _, _, t2⟩
      · rw [e1] at e2; cases e2
      · rw [e1] at e2
        simp at e2
        obtain ⟨rfl, e3, rfl⟩ := e2
        rw [q1] at q2
        cases q2
        rw [← t1, ← t2, e3]
  subst e
  refine ⟨VS ++ [x], hr, by simp [g2], fun j v L' hv' hL' => ?_⟩
  by_cases hj : j < VS.length
  · rw [List.getElem?_append_left hj] at hv'
    rw [List.getElem?_append_left (by omega)] at hL'
    exact ⟨(g3 j v L' hv' hL').1.kx hk (by simp), (g3 j v L' hv' hL').2⟩
  · have hj' : j = VS.length := by
      have := (List.getElem?_eq_some_iff.1 hv').1
      simp at this
      omega
    subst hj'
    rw [List.getElem?_append_right (Nat.le_refl _)] at hv'
    rw [g2, List.getElem?_append_right (Nat.le_refl _)] at hL'
    simp at hv' hL'
    subst hv' hL'
    exact ⟨hx, h0, h3⟩
/-- Between the steps of resolve at role i, since w. -/
structure Mid (w : World) (ri gb e p : Nat) (f : Nat → Value) (T : Nat → Nat) (wr : World) : Prop where
  but : But ri w wr
  cells : Cells wr ri 56 12 f
  ps : PS wr e p gb T
  le : w.heap.size ≤ e
  lp : w.heap.size ≤ p
  f6 : f 6 = .map (some e)
  f7 : f 7 = .map (some p)
section
variable {w wr w' : World} {ri gb e p : Nat} {f : Nat → Value} {T : Nat → Nat}
theorem Mid.since (h : Mid w ri gb e p f T wr) (hs : Since wr w') : Mid w ri gb e p f T w' := ⟨h.but.since hs, h.cells.since hs, h.ps.since hs, h.le, h.lp, h.f6, h.f7⟩
theorem Mid.ne (h : Mid w ri gb e p f T wr) : ri ≠ e ∧ ri ≠ p := by
  obtain ⟨cs, h1, _⟩ := h.cells.ex
  obtain ⟨es, cl, h2⟩ := h.ps.pe.isMap
  obtain ⟨es', cl', h3⟩ := h.ps.pp.isMap
  exact ⟨(fun q => by rw [q, h2] at h1; cases h1), (fun q => by rw [q, h3] at h1; cases h1)⟩
theorem Mid.bt (h : Mid w ri gb e p f T wr) {T' : Nat → Nat} (hb : Bt e p wr w') (hp : PS w' e p gb T') : Mid w ri gb e p f T' w' := by
  obtain ⟨cs, h1, h2⟩ := h.cells.ex
  exact ⟨h.but.bt hb h.le h.lp, ⟨cs, hb.keep h1 h.ne.1 h.ne.2, h2⟩, hp, h.le, h.lp, h.f6, h.f7⟩
theorem Mid.row (h : Mid w ri gb e p f T wr) (hk : Kx [53] [] wr w') (hb : But ri w w') : Mid w ri gb e p f T w' :=
  ⟨hb, h.cells.kx hk (by simp), h.ps.kx hk (by simp) (by simp) (by simp), h.le, h.lp, h.f6, h.f7⟩
theorem Mid.put (h : Mid w ri gb e p f T wr) {x : Nat} (hx : x < 12) (h6 : x ≠ 6) (h7 : x ≠ 7) (v : Value) : Mid w ri gb e p (upd f x v) T (wr.setCell ⟨ri, x, none⟩ v) := by
  have hk : Kx [56] [] wr (wr.setCell ⟨ri, x, none⟩ v) := h.cells.kxset (by simp)
  exact ⟨h.but.trans (But.set _ _ _ _), h.cells.set hx v, h.ps.kx hk (by simp) (by simp) (by simp), h.le, h.lp, by rw [upd_ne _ _ (Ne.symm h6)]; exact h.f6, by rw [upd_ne _ _ (Ne.symm h7)]; exact h.f7⟩
theorem Mid.cell (h : Mid w ri gb e p f T wr) {x : Nat} (hx : x < 12) : wr.cell? ⟨ri, x, none⟩ = some (f x) := h.cells.cell hx
theorem Mid.congr (h : Mid w ri gb e p f T wr) {T' : Nat → Nat} (he : ∀ i, i < 4 → T' i = T i) : Mid w ri gb e p f T' wr := ⟨h.but, h.cells, h.ps.congr he, h.le, h.lp, h.f6, h.f7⟩
end
/-- The permission set is laid. -/
theorem Mid.start {w w8 w9 : World} {ri gb e p : Nat} {f : Nat → Value} (hb : But ri w w8) (hc : Cells w8 ri 56 12 f) (hs : Since w8 w9) (le : w.heap.size ≤ e) (lp : w.heap.size ≤ p) (ne : e ≠ p) (pe : PM w9 e gb (fun _ => 0)) (pp : PM w9 p gb (fun _ => 0)) :
    Mid w ri gb e p (upd (upd f 6 (.map (some e))) 7 (.map (some p))) (fun _ => 0) ((w9.setCell ⟨ri, 6, none⟩ (.map (some e))).setCell ⟨ri, 7, none⟩ (.map (some p))) := by
  have c9 := hc.since hs
  have c10 := c9.set (x := 6) (by omega) (.map (some e))
  have k1 : Kx [56] [] w9 (w9.setCell ⟨ri, 6, none⟩ (.map (some e))) := c9.kxset (by simp)
  have k2 : Kx [56] [] (w9.setCell ⟨ri, 6, none⟩ (.map (some e))) ((w9.setCell ⟨ri, 6, none⟩ (.map (some e))).setCell ⟨ri, 7, none⟩ (.map (some p))) := c10.kxset (by simp)
  have kk := k1.trans k2
  refine ⟨((hb.since hs).trans (But.set _ _ _ _)).trans (But.set _ _ _ _), c10.set (x := 7) (by omega) _, ⟨(pe.kx kk (by simp) (by simp)).congr (fun i _ => by unfold me; split <;> rfl), (pp.kx kk (by simp) (by simp)).congr (fun i _ => by unfold mp; split <;> rfl), ne⟩, le, lp, ?_, ?_⟩
  · rw [upd_ne _ _ (by omega), upd_same]
  · rw [upd_same]
end Go.Proofs.YbulkcvxmGreatFmt
