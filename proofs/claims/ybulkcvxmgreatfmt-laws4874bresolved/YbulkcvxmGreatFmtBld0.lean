/- The roles are built (5). -/
import Derived.Test.YbulkcvxmGreatFmtRoles
import Derived.Test.YbulkcvxmGreatFmtEdges
import Derived.Test.YbulkcvxmGreatFmtShelf
import Derived.Lib.SmallJoins
set_option linter.unusedSimpArgs false
set_option linter.unusedVariables false
namespace Go.Proofs.YbulkcvxmGreatFmt
open Go.RowKit Go.Maps Go.WideMaps

/-! ### the numbers' text -/
def Tab (w : World) : Prop := Lib.TabIs Ybaz.prog w "internal/strconv.uint64pow10" .u64 Lib.pow10Tab
theorem pow10_named : ∃ g, Ybaz.prog.globalNamed "internal/strconv.uint64pow10" = some g := ⟨2, by kernel_rfl⟩
theorem Tab.since {w w' : World} (h : Tab w) (hs : Since w w') : Tab w' := by
  obtain ⟨g, hg⟩ := pow10_named
  exact Joins.tab_stays hg h hs.out (Nat.le_refl _)
theorem since_grow (w : World) (k : Nat) (os : Array Obj) : Since w (Sort.grow (w.drewN k) os) :=
  ⟨rfl, rfl, rfl, by simp [Sort.grow, World.drewN], fun i hi => by
    show ((w.drewN k).heap ++ os)[i]? = _
    rw [Array.getElem?_append_left (by simpa using hi)]
    rfl⟩
theorem itoa_any (k : Nat) (hk : k ≤ 1000) (w : World) (ht : Tab w) : Calls Ybaz.prog 8 #[.int .i64 k] w fun r w' => r = .returned (.string ⟨(Lib.itoa (k : Int)).toArray⟩) ∧ Since w w' := by
  refine (Ybaz.strconv_Itoa (k : Int) (by omega) (by omega) w ht).mono ?_
  rintro r w' ⟨rfl, q, os, rfl⟩
  exact ⟨rfl, since_grow w q os⟩

/-! ### what is built -/
def gOf (I : Nat → Rin) (k : Nat) : List Nat := (I k).gr.map fun s => (s % 8).toNat
theorem Role.kx0 {Ts Ms : List Nat} {w w' : World} {n gb : Nat} {code : ByteArray} {es gs : List Nat} {own r : Int} {z : Nat → Nat} {l : List ByteArray} {f : Nat → Value} (h : Role w n gb code es gs own 0 r z l f) (hk : Kx Ts Ms w w') (h9 : 9 ∉ Ts) (h71 : 71 ∉ Ts) : Role w' n gb code es gs own 0 r z l f :=
  ⟨h.f0, hk.row h.inh h9, hk.row h.gr h71, h.f4, h.f10, (fun e => by cases e), (fun e => by cases e), (fun e => by cases e)⟩
structure Bd (w0 : World) (I : Nat → Rin) (n gb i lb mb : Nat) (rb : Nat → Nat) (F : Nat → Nat → Value) (w : World) : Prop where
  since : Since w0 w
  list : Cells w lb 44 n (fun k => if k < i then .pointer (some ⟨rb k, 0, none⟩) else .pointer none)
  map : RM w mb i rb
  cells : ∀ k, k < i → Cells w (rb k) 56 12 (F k)
  role : ∀ k, k < i → Role w n gb (codeS k) (edgesOf I k) (gOf I k) (I k).rank 0 0 (fun _ => 0) [] (F k)
  inj : ∀ a b, a < i → b < i → rb a = rb b → a = b
  ll : w0.heap.size ≤ lb
  lm : w0.heap.size ≤ mb
  lr : ∀ k, k < i → w0.heap.size ≤ rb k
section
variable {w0 w w' : World} {I : Nat → Rin} {n gb i lb mb : Nat} {rb : Nat → Nat} {F : Nat → Nat → Value}
theorem Bd.more (h : Bd w0 I n gb i lb mb rb F w) (hs : Since w w') : Bd w0 I n gb i lb mb rb F w' :=
  ⟨hs.then h.since, h.list.since hs, h.map.kx (Kx.since (Ts := []) (Ms := []) hs) (by simp), fun k hk => (h.cells k hk).since hs, fun k hk => (h.role k hk).kx0 (Kx.since (Ts := []) (Ms := []) hs) (by simp) (by simp), h.inj, h.ll, h.lm, h.lr⟩
end
/-- The role that is being built, in block b, since W1. -/
structure Rb (W1 : World) (gb b : Nat) (code : ByteArray) (rank : Int) (vs : List ByteArray) (gs : List Nat) (f : Nat → Value) (w : World) : Prop where
  since : Since W1 w
  lb : W1.heap.size ≤ b
  cells : Cells w b 56 12 f
  f0 : f 0 = .string code
  inh : RowL w W1.heap.size 9 1 strC (f 2) vs
  gr : RowL w W1.heap.size 71 2 (grC gb) (f 3) gs
  f4 : f 4 = .int .i64 rank
  f10 : f 10 = .int .i64 0
section
variable {W1 w w' : World} {gb b : Nat} {code : ByteArray} {rank : Int} {vs : List ByteArray} {gs : List Nat} {f : Nat → Value}
theorem Rb.more (h : Rb W1 gb b code rank vs gs f w) (hs : Since w w') : Rb W1 gb b code rank vs gs f w' :=
  ⟨hs.then h.since, h.lb, h.cells.since hs, h.f0, h.inh.since hs, h.gr.since hs, h.f4, h.f10⟩
/-- One more is inherited. -/
theorem Rb.inh1 (h : Rb W1 gb b code rank vs gs f w) (hg : w.grownBy w' (f 2).ownBlock) {g1 cap1 : Nat} {s : ByteArray} (hr : RowL w' W1.heap.size 9 1 strC (.slice (some ⟨g1, 0, none⟩) (vs.length + 1) cap1) (vs ++ [s])) :
    Rb W1 gb b code rank (vs ++ [s]) gs (upd f 2 (.slice (some ⟨g1, 0, none⟩) (vs.length + 1) cap1)) (w'.setCell ⟨b, 2, none⟩ (.slice (some ⟨g1, 0, none⟩) (vs.length + 1) cap1)) := by
  have hk : Kx [9] [] w w' := Kx.app hg h.inh (by simp)
  have hc := h.cells.kx hk (by simp)
  have hk2 : Kx [56] [] w' (w'.setCell ⟨b, 2, none⟩ (.slice (some ⟨g1, 0, none⟩) (vs.length + 1) cap1)) := hc.kxset (by simp)
  refine ⟨(h.since.grown hg (fun k hk => (h.inh.base_ge k hk).1)).set h.lb, h.lb, hc.set (by omega) _, by rw [upd_ne _ _ (by omega)]; exact h.f0, by rw [upd_same]; exact hk2.row hr (by simp), by rw [upd_ne _ _ (by omega)]; exact hk2.row (hk.row h.gr (by simp)) (by simp), by rw [upd_ne _ _ (by omega)]; exact h.f4, by rw [upd_ne _ _ (by omega)]; exact h.f10⟩
/-- One more is granted. -/
theorem Rb.gr1 (h : Rb W1 gb b code rank vs gs f w) (hg : w.grownBy w' (f 3).ownBlock) {g1 cap1 : Nat} {k : Nat} (hr : RowL w' W1.heap.size 71 2 (grC gb) (.slice (some ⟨g1, 0, none⟩) (gs.length + 1) cap1) (gs ++ [k])) :
    Rb W1 gb b code rank vs (gs ++ [k]) (upd f 3 (.slice (some ⟨g1, 0, none⟩) (gs.length + 1) cap1)) (w'.setCell ⟨b, 3, none⟩ (.slice (some ⟨g1, 0, none⟩) (gs.length + 1) cap1)) := by
  have hk : Kx [71] [] w w' := Kx.app hg h.gr (by simp)
  have hc := h.cells.kx hk (by simp)
  have hk2 : Kx [56] [] w' (w'.setCell ⟨b, 3, none⟩ (.slice (some ⟨g1, 0, none⟩) (gs.length + 1) cap1)) := hc.kxset (by simp)
  refine ⟨(h.since.grown hg (fun k hk => (h.gr.base_ge k hk).1)).set h.lb, h.lb, hc.set (by omega) _, by rw [upd_ne _ _ (by omega)]; exact h.f0, by rw [upd_ne _ _ (by omega)]; exact hk2.row (hk.row h.inh (by simp)) (by simp), by rw [upd_same]; exact hk2.row hr (by simp), by rw [upd_ne _ _ (by omega)]; exact h.f4, by rw [upd_ne _ _ (by omega)]; exact h.f10⟩
end
/-- The role is entered into the list and into the map. -/
theorem Bd.next {w0 W1 w2 w4 : World} {I : Nat → Rin} {n gb i lb mb b : Nat} {rb : Nat → Nat} {F : Nat → Nat → Value} {f : Nat → Value} (h : Bd w0 I n gb i lb mb rb F W1) (hi : i < n) (hr : Rb W1 gb b (codeS i) (I i).rank ((edgesOf I i).map codeS) (gOf I i) f w2)
    (hm : RM w4 mb (i + 1) (upd rb i b)) (ht : (w2.setCell ⟨lb, i, none⟩ (.pointer (some ⟨b, 0, none⟩))).mapTurned w4 mb) : Bd w0 I n gb (i + 1) lb mb (upd rb i b) (upd F i f) w4 := by
  have h2 := h.more hr.since
  have k1 : Kx [44] [] w2 (w2.setCell ⟨lb, i, none⟩ (.pointer (some ⟨b, 0, none⟩))) := h2.list.kxset (by simp)
  have k2 : Kx [] [mb] (w2.setCell ⟨lb, i, none⟩ (.pointer (some ⟨b, 0, none⟩))) w4 := Kx.turned ht (by simp)
  have hl := ((h2.list.set hi (.pointer (some ⟨b, 0, none⟩))).kx k2 (by simp))
  have hbr : ∀ k, k < i → rb k ≠ b := fun k hk e => by have := (h.cells k hk).lt; have := hr.lb; omega
  refine ⟨((h2.since.set h.ll)).turned ht h.lm, hl.congr (fun x hx => ?_), hm, fun k hk => ?_, fun k hk => ?_, fun a' b' ha hb e => ?_, h.ll, h.lm, fun k hk => ?_⟩
  · by_cases e : x = i
    · subst e; rw [if_pos (by omega), upd_same, upd_same]
    · rw [upd_ne _ _ e, upd_ne _ _ e]
      by_cases e2 : x < i
      · rw [if_pos (by omega), if_pos e2]
      · rw [if_neg (by omega), if_neg e2]
  · by_cases e : k = i
    · subst e; rw [upd_same, upd_same]; exact (hr.cells.kx k1 (by simp)).kx k2 (by simp)
    · rw [upd_ne _ _ e, upd_ne _ _ e]; exact ((h2.cells k (by omega)).kx k1 (by simp)).kx k2 (by simp)
  · by_cases e : k = i
    · subst e
      rw [upd_same]
      exact ⟨hr.f0, k2.row (k1.row (hr.inh.lower (Nat.zero_le _)) (by simp)) (by simp), k2.row (k1.row (hr.gr.lower (Nat.zero_le _)) (by simp)) (by simp), hr.f4, hr.f10, (fun e => by cases e), (fun e => by cases e), (fun e => by cases e)⟩
    · rw [upd_ne _ _ e]; exact ((h2.role k (by omega)).kx0 k1 (by simp) (by simp)).kx0 k2 (by simp) (by simp)
  · by_cases ea : a' = i
    · by_cases eb : b' = i
      · omega
      · rw [ea, upd_same, upd_ne _ _ eb] at e
        exact absurd e.symm (hbr b' (by omega))
    · by_cases eb : b' = i
      · rw [eb, upd_same, upd_ne _ _ ea] at e
        exact absurd e (hbr a' (by omega))
      · rw [upd_ne _ _ ea, upd_ne _ _ eb] at e
        exact h.inj a' b' (by omega) (by omega) e
  · by_cases e : k = i
    · rw [e, upd_same]; have := hr.lb; have := h.since.size; omega
    · rw [upd_ne _ _ e]; exact h.lr k (by omega)
end Go.Proofs.YbulkcvxmGreatFmt
