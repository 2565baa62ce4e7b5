/- resolve (6): what holds between its steps. -/
import Derived.Test.YbulkcvxmFmtPath
import Derived.Test.YbulkcvxmFmtAddAll
set_option linter.unusedSimpArgs false
set_option linter.unusedVariables false
namespace Go.Proofs.YbulkcvxmFmt
open Go.RowKit

/-- Lists of codes, in a row of our own. -/
structure LS (w : World) (base : Nat) (cv : Value) (LL : List (List ByteArray)) : Prop where
  ex : ∃ VS : List Value, RowL w base 47 1 vC cv VS ∧ VS.length = LL.length ∧ ∀ (j : Nat) v L, VS[j]? = some v → LL[j]? = some L → CodesL w v L ∧ L ≠ [] ∧ L.length ≤ 300
theorem LS.lists {w : World} {base : Nat} {cv : Value} {LL : List (List ByteArray)} (h : LS w base cv LL) : Lists w cv LL := by
  obtain ⟨VS, h1, h2, h3⟩ := h.ex
  exact ⟨VS, h1.lower (Nat.zero_le _), h2, h3⟩
theorem LS.kx {Ts Ms : List Nat} {w w' : World} {base : Nat} {cv : Value} {LL : List (List ByteArray)} (h : LS w base cv LL) (hk : Kx Ts Ms w w') (h1 : 47 ∉ Ts) (h2 : 20 ∉ Ts) : LS w' base cv LL := by
  obtain ⟨VS, g1, g2, g3⟩ := h.ex
  exact ⟨VS, hk.row g1 h1, g2, fun j v L hv hL => ⟨(g3 j v L hv hL).1.kx hk h2, (g3 j v L hv hL).2⟩⟩
theorem LS.row {w : World} {base : Nat} {cv : Value} {LL : List (List ByteArray)} (h : LS w base cv LL) : ∃ VS a cap, VS.length = LL.length ∧ cv = .slice a VS.length cap ∧ RowL w base 47 1 vC (.slice a VS.length cap) VS := by
  obtain ⟨VS, g1, g2, g3⟩ := h.ex
  obtain ⟨a, cap, rfl, -⟩ := g1.form
  exact ⟨VS, a, cap, g2, rfl, g1⟩

/-- Between the steps of resolve, from the grown path on (world w8, the path's block g1). -/
structure Mid (g : Gph) (w8 : World) (X : List Nat) (i e p g1 : Nat) (pv : Value) (bs : List Nat) (c : Nat → Nat) (R : Nat → Int) (F : Nat → Nat → Value) (w : World) : Prop where
  rf : Rf g (some g1) w8 w
  net : Net w g ([e, p] ++ X) c R F
  pe : PM w e
  pp : PM w p
  le : w8.heap.size ≤ e
  lp : w8.heap.size ≤ p
  ne : e ≠ p
  f6 : F i 6 = .map (some e)
  f7 : F i 7 = .map (some p)
  path : RowL w 0 35 1 ptC pv bs
section
variable {g : Gph} {w8 w w' : World} {X : List Nat} {i e p g1 : Nat} {pv : Value} {bs : List Nat} {c : Nat → Nat} {R : Nat → Int} {F : Nat → Nat → Value}
theorem Mid.kx {Ms : List Nat} (h : Mid g w8 X i e p g1 pv bs c R F w) (hk : Kx [] Ms w w') (hM : ∀ m ∈ Ms, m ∈ [e, p] ++ X) (pe : PM w' e) (pp : PM w' p) (rf : Rf g (some g1) w8 w') : Mid g w8 X i e p g1 pv bs c R F w' :=
  ⟨rf, h.net.kx hk (by simp) hM, pe, pp, h.le, h.lp, h.ne, h.f6, h.f7, hk.row h.path (by simp)⟩
theorem Mid.since (h : Mid g w8 X i e p g1 pv bs c R F w) (hs : Since w w') : Mid g w8 X i e p g1 pv bs c R F w' :=
  h.kx (Kx.since (Ts := []) (Ms := []) hs) (by simp) (h.pe.since hs) (h.pp.since hs) (h.rf.since hs)
theorem Mid.bt (h : Mid g w8 X i e p g1 pv bs c R F w) (hb : Bt e p w w') : Mid g w8 X i e p g1 pv bs c R F w' :=
  h.kx (Bt.kx (Ms := [e, p]) hb h.pe h.pp (by simp) (by simp)) (by simp +contextual) hb.pe hb.pp (h.rf.bt hb h.le h.lp)
theorem Mid.keepRow (h : Mid g w8 X i e p g1 pv bs c R F w) (hk : Kx [47] [] w w') (rf : Rf g (some g1) w8 w') : Mid g w8 X i e p g1 pv bs c R F w' := by
  refine ⟨rf, ⟨fun j hj => (h.net.cells j hj).kx hk (by simp), fun j hj => (h.net.role j hj).kx hk (by simp) (by simp) (by simp) (by simp), h.net.map.kx hk (by simp), h.net.mx⟩, h.pe.kx hk (by simp), h.pp.kx hk (by simp), h.le, h.lp, h.ne, h.f6, h.f7, hk.row h.path (by simp)⟩
/-- The rank, or the codes, of the role that is being resolved. -/
theorem Mid.put (h : Mid g w8 X i e p g1 pv bs c R F w) (ok : Gok g) (hi : i < g.n) (hc : c i ≠ 2) {x : Nat} (hx : x = 8 ∨ x = 9) (v : Value) : Mid g w8 X i e p g1 pv bs c R (upd F i (upd (F i) x v)) (w.setCell ⟨g.rb i, x, none⟩ v) := by
  have hk : Kx [51] [] w (w.setCell ⟨g.rb i, x, none⟩ v) := (h.net.cells i hi).kxset (by simp)
  exact ⟨h.rf.set hi v, h.net.set ok hi (by omega) v c R (fun _ _ => ⟨rfl, rfl⟩) ((h.net.role i hi).put hc (by omega) v _), h.pe.kx hk (by simp), h.pp.kx hk (by simp), h.le, h.lp, h.ne, by rw [upd_same, upd_ne _ _ (by omega)]; exact h.f6, by rw [upd_same, upd_ne _ _ (by omega)]; exact h.f7, hk.row h.path (by simp)⟩
theorem Mid.cell (h : Mid g w8 X i e p g1 pv bs c R F w) {j x : Nat} (hj : j < g.n) (hx : x < 12) : w.cell? ⟨g.rb j, x, none⟩ = some (F j x) := (h.net.cells j hj).cell hx
end
theorem Bt.cells {e p : Nat} {w w' : World} {b T n : Nat} {F : Nat → Value} (hb : Bt e p w w') (h : Cells w b T n F) (h1 : b ≠ e) (h2 : b ≠ p) : Cells w' b T n F := by
  obtain ⟨cs, h3, h4⟩ := h.ex
  exact ⟨cs, hb.keep h3 h1 h2, h4⟩
/-- A role's block is no map. -/
theorem Cells.neMap {w : World} {b T n m : Nat} {F : Nat → Value} (h : Cells w b T n F) (hm : PM w m) : b ≠ m := fun e => by
  obtain ⟨cs, h1, _⟩ := h.ex
  obtain ⟨es, cl, h2⟩ := hm.isMap
  rw [e, h2] at h1
  cases h1
/-- The role's permission set is laid. -/
theorem Mid.start {g : Gph} {w8 w9 : World} {X : List Nat} {i e p g1 : Nat} {pv : Value} {bs : List Nat} {c : Nat → Nat} {R : Nat → Int} {F : Nat → Nat → Value} (ok : Gok g) (hi : i < g.n) (hN : Net w8 g X c R F) (hc : c i ≠ 2) (hs : Since w8 w9) (le : w8.heap.size ≤ e) (lp : w8.heap.size ≤ p) (ne : e ≠ p) (pe : PM w9 e) (pp : PM w9 p) (hP : RowL w8 0 35 1 ptC pv bs) :
    ∃ F2, (∀ k, k ≠ i → F2 k = F k) ∧ (∀ x, x ≠ 6 → x ≠ 7 → F2 i x = F i x) ∧ Mid g w8 X i e p g1 pv bs c R F2 ((w9.setCell ⟨g.rb i, 6, none⟩ (.map (some e))).setCell ⟨g.rb i, 7, none⟩ (.map (some p))) := by
  have hN9 : Net w9 g ([e, p] ++ X) c R F := (hN.more (Y := [e, p]) (by simp; exact ⟨le, lp⟩)).since hs
  have k1 : Kx [51] [] w9 (w9.setCell ⟨g.rb i, 6, none⟩ (.map (some e))) := (hN9.cells i hi).kxset (by simp)
  have hN10 := hN9.set ok hi (x := 6) (by omega) (.map (some e)) c R (fun _ _ => ⟨rfl, rfl⟩) ((hN9.role i hi).put hc (by omega) _ _)
  have k2 : Kx [51] [] (w9.setCell ⟨g.rb i, 6, none⟩ (.map (some e))) ((w9.setCell ⟨g.rb i, 6, none⟩ (.map (some e))).setCell ⟨g.rb i, 7, none⟩ (.map (some p))) := (hN10.cells i hi).kxset (by simp)
  have hN11 := hN10.set ok hi (x := 7) (by omega) (.map (some p)) c R (fun _ _ => ⟨rfl, rfl⟩) ((hN10.role i hi).put hc (by omega) _ _)
  have kk := k1.trans k2
  refine ⟨_, fun k hk => ?_, fun x h6 h7 => ?_, ⟨(((Rf.refl g (some g1) w8).since hs).set hi _).set hi _, hN11, pe.kx kk (by simp), pp.kx kk (by simp), le, lp, ne, ?_, ?_, kk.row (hP.since hs) (by simp)⟩⟩
  · rw [upd_ne _ _ hk, upd_ne _ _ hk]
  · rw [upd_same, upd_ne _ _ h7, upd_same, upd_ne _ _ h6]
  · rw [upd_same, upd_ne _ _ (by omega), upd_same, upd_same]
  · rw [upd_same, upd_same]
theorem ls_start (w : World) (base : Nat) (s : ByteArray) (hb : base ≤ w.heap.size) : LS ((w.alloc (.cells #[.iface 9 (.string s)] 20)).alloc (.cells #[.slice (some ⟨w.heap.size, 0, none⟩) 1 1] 47)) base (.slice (some ⟨w.heap.size + 1, 0, none⟩) 1 1) [[s]] := by
  have z1 : (w.alloc (.cells #[.iface 9 (.string s)] 20)).heap.size = w.heap.size + 1 := by simp
  have h1 := newBlock (w.alloc (.cells #[.iface 9 (.string s)] 20)) (.cells #[.slice (some ⟨w.heap.size, 0, none⟩) 1 1] 47)
  rw [z1] at h1
  have h2 := (Since.new (w.alloc (.cells #[.iface 9 (.string s)] 20)) (.cells #[.slice (some ⟨w.heap.size, 0, none⟩) 1 1] 47)).keep (newBlock w (.cells #[.iface 9 (.string s)] 20))
  refine ⟨[.slice (some ⟨w.heap.size, 0, none⟩) 1 1], ⟨⟨rfl, .inr ⟨w.heap.size + 1, 1, _, rfl, by omega, h1, by simp, by unfold maxLen; omega, rfl, rfl⟩⟩⟩, rfl, fun j v L hv hL => ?_⟩
  cases j with
  | succ j => simp at hv
  | zero =>
    simp at hv hL
    subst hv hL
    refine ⟨⟨w.heap.size, 1, _, rfl, by simp, by unfold maxLen; omega, h2, fun k s' hk => ?_⟩, by simp, by simp⟩
    cases k with
    | succ k => simp at hk
    | zero => simp at hk; subst hk; rfl
theorem LS.snoc {w w' : World} {base b cap m : Nat} {cv x : Value} {LL : List (List ByteArray)} {L : List ByteArray} {VS : List Value} (h : LS w base cv LL) (hk : Kx [47] [] w w') (hv : RowL w base 47 1 vC cv VS) (hr : RowL w' base 47 1 vC (.slice (some ⟨b, 0, none⟩) m cap) (VS ++ [x])) (hx : CodesL w' x L) (h0 : L ≠ []) (h3 : L.length ≤ 300) : LS w' base (.slice (some ⟨b, 0, none⟩) m cap) (LL ++ [L]) := by
  obtain ⟨US, g1, g2, g3⟩ := h.ex
  have e : VS = US := by
    have h1 := hv.own
    have h2 := g1.own
    have f : ∀ l : List Value, l.flatMap vC = l := fun l => by induction l with
      | nil => rfl
      | cons a l ih => simp [vC] at ih ⊢; exact ih
    rw [f] at h1 h2
    rcases h1.2 with ⟨e1, z1⟩ | ⟨b1, c1, cs1, e1, _, q1, _, _, _, t1⟩
    · rcases h2.2 with ⟨e2, z2⟩ | ⟨b2, c2, cs2, e2, _, q2, _, _, _, t2⟩
      · rw [List.eq_nil_of_length_eq_zero z1, List.eq_nil_of_length_eq_zero z2]
      · rw [e1] at e2; cases e2
    · rcases h2.2 with ⟨e2, z2⟩ | ⟨b2, c2, cs2, e2, _, q2, _, _, _, t2⟩
      · rw [e1] at e2; cases e2
      · rw [e1] at e2
        simp at e2
        obtain ⟨rfl, e3, rfl⟩ := e2
        rw [q1] at q2
        cases q2
        rw [← t1, ← t2, e3]
  subst e
  refine ⟨VS ++ [x], hr, by simp [g2], fun j v L' hv' hL' => ?_⟩
  by_cases hj : j < VS.length
  · rw [List.getElem?_append_left hj] at hv'
    rw [List.getElem?_append_left (by omega)] at hL'
    exact ⟨(g3 j v L' hv' hL').1.kx hk (by simp), (g3 j v L' hv' hL').2⟩
  · have hj' : j = VS.length := by
      have := (List.getElem?_eq_some_iff.1 hv').1
      simp at this
      omega
    subst hj'
    rw [List.getElem?_append_right (Nat.le_refl _)] at hv'
    rw [g2, List.getElem?_append_right (Nat.le_refl _)] at hL'
    simp at hv' hL'
    subst hv' hL'
    exact ⟨hx, h0, h3⟩
/-- The role is done. -/
theorem Mid.finish {g : Gph} {w8 w : World} {X : List Nat} {i e p g1 : Nat} {pv v6 : Value} {bs : List Nat} {c : Nat → Nat} {R : Nat → Int} {F : Nat → Nat → Value} {m : Int} {L : List ByteArray} (ok : Gok g) (hi : i < g.n) (h : Mid g w8 X i e p g1 pv bs c R F w) (hc : c i ≠ 2) (hX : ∀ x ∈ X, x < w8.heap.size) (h9 : F i 9 = .int .i64 m) (hv : CodesL w v6 L) (h0 : L ≠ []) (h3 : L.length ≤ 300) (ha : ∀ s ∈ L, s ∈ allCodes g.n) :
    ∃ F2, (∀ k, k ≠ i → F2 k = F k) ∧ Rf g (some g1) w8 ((w.setCell ⟨g.rb i, 8, none⟩ v6).setCell ⟨g.rb i, 10, none⟩ (.int .i64 2)) ∧ Net ((w.setCell ⟨g.rb i, 8, none⟩ v6).setCell ⟨g.rb i, 10, none⟩ (.int .i64 2)) g X (upd c i 2) (upd R i m) F2 ∧ RowL ((w.setCell ⟨g.rb i, 8, none⟩ v6).setCell ⟨g.rb i, 10, none⟩ (.int .i64 2)) 0 35 1 ptC pv bs := by
  have h7 := h.put ok hi hc (x := 8) (by omega) v6
  have k1 : Kx [51] [] w (w.setCell ⟨g.rb i, 8, none⟩ v6) := (h.net.cells i hi).kxset (by simp)
  have hv7 := hv.kx k1 (by simp)
  have hN7 : Net (w.setCell ⟨g.rb i, 8, none⟩ v6) g X c R (upd F i (upd (F i) 8 v6)) := h7.net.less (fun x hx => List.mem_append_right _ hx)
  have k2 : Kx [51] [] (w.setCell ⟨g.rb i, 8, none⟩ v6) ((w.setCell ⟨g.rb i, 8, none⟩ v6).setCell ⟨g.rb i, 10, none⟩ (.int .i64 2)) := (h7.net.cells i hi).kxset (by simp)
  have ex : e ∉ X := fun hx => by have := hX e hx; have := h.le; omega
  have px : p ∉ X := fun hx => by have := hX p hx; have := h.lp; omega
  refine ⟨_, fun k hk => ?_, h7.rf.set hi _, hN7.set ok hi (x := 10) (by omega) (.int .i64 2) (upd c i 2) (upd R i m) (fun j hj => ⟨upd_ne _ _ hj, upd_ne _ _ hj⟩) (by
    rw [upd_same, upd_same]
    refine (hN7.role i hi).visit m rfl (fun _ => ⟨e, p, h7.f6, h7.f7, h7.pe, h7.pp, ex, px⟩) (fun _ => ?_) (fun _ => ⟨L, ?_, h0, h3, ha⟩)
    · rw [upd_same, upd_ne _ _ (by omega)]; exact h9
    · rw [upd_same, upd_same]; exact hv7), k2.row h7.path (by simp)⟩
  rw [upd_ne _ _ hk, upd_ne _ _ hk]
end Go.Proofs.YbulkcvxmFmt
