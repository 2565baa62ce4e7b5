/- What is reached (8). -/
import Derived.Test.YbulkcvxmGreatFmtDfs
import Derived.Deep.LoopGhost
set_option linter.unusedSimpArgs false
set_option linter.unusedVariables false
namespace Go.Proofs.YbulkcvxmGreatFmt
open Go.RowKit

/-- How many are not yet seen. -/
def uns (S : Nat → Bool) : Nat → Nat
  | 0 => 0
  | n + 1 => uns S n + if S n then 0 else 1
theorem uns_le (S : Nat → Bool) : ∀ n, uns S n ≤ n
  | 0 => Nat.le_refl _
  | n + 1 => by have := uns_le S n; unfold uns; split <;> omega
theorem uns_congr {A B : Nat → Bool} : ∀ {n}, (∀ v, v < n → A v = B v) → uns A n = uns B n
  | 0, _ => rfl
  | n + 1, h => by unfold uns; rw [uns_congr (n := n) (fun v hv => h v (by omega)), h n (by omega)]
theorem uns_set {A : Nat → Bool} {v : Nat} : ∀ {n}, v < n → A v = false → uns (upd A v true) n + 1 = uns A n
  | 0, h, _ => absurd h (Nat.not_lt_zero _)
  | n + 1, h, ha => by
    unfold uns
    by_cases e : v = n
    · subst e; rw [upd_same, ha, uns_congr (A := upd A v true) (B := A) (fun u hu => upd_ne _ _ (by omega))]; simp
    · have := uns_set (n := n) (by omega) ha
      rw [upd_ne _ _ (Ne.symm e)]; omega

/-- What the walk holds: 'u' is in hand, its edges P have been looked at. -/
structure RI (E : Nat → List Nat) (n i : Nat) (S : Nat → Bool) (st : List Nat) (u : Option Nat) (P : List Nat) : Prop where
  a : S i = true
  b : ∀ v, S v = true → Reach E i v ∧ v < n
  c : ∀ x, S x = true → x ∉ st → some x ≠ u → ∀ v ∈ E x, S v = true
  d : ∀ x ∈ st, S x = true
  e : ∀ x, u = some x → S x = true
  p : ∀ v ∈ P, S v = true
theorem RI.start (E : Nat → List Nat) {n i : Nat} (hi : i < n) : RI E n i (upd (fun _ => false) i true) [i] none [] := by
  refine ⟨upd_same _ _ _, fun v hv => ?_, fun x hx hn => ?_, fun x hx => ?_, fun x hx => (by cases hx), fun v hv => (by cases hv)⟩
  · by_cases e : v = i
    · subst e; exact ⟨.self, hi⟩
    · rw [upd_ne _ _ e] at hv; cases hv
  · by_cases e : x = i
    · subst e; simp at hn
    · rw [upd_ne _ _ e] at hx; cases hx
  · simp at hx; subst hx; exact upd_same _ _ _
theorem RI.pop {E : Nat → List Nat} {n i u : Nat} {S : Nat → Bool} {st : List Nat} (h : RI E n i S (st ++ [u]) none []) : RI E n i S st (some u) [] :=
  ⟨h.a, h.b, fun x hx hn hu => h.c x hx (by simp only [List.mem_append, List.mem_singleton, not_or]; exact ⟨hn, fun e => hu (by rw [e])⟩) (by simp), fun x hx => h.d x (by simp [hx]), fun x hx => by cases hx; exact h.d u (by simp), fun v hv => (by cases hv)⟩
theorem RI.see {E : Nat → List Nat} {n i u v : Nat} {S : Nat → Bool} {st P : List Nat} (h : RI E n i S st (some u) P) (hv : v ∈ E u) (hvn : v < n) : RI E n i (upd S v true) (st ++ [v]) (some u) (P ++ [v]) := by
  have mono : ∀ x, S x = true → upd S v true x = true := fun x hx => by
    by_cases e : x = v
    · subst e; exact upd_same _ _ _
    · rw [upd_ne _ _ e]; exact hx
  refine ⟨mono _ h.a, fun x hx => ?_, fun x hx hn hu y hy => ?_, fun x hx => ?_, fun x hx => mono _ (h.e x hx), fun x hx => ?_⟩
  · by_cases e : x = v
    · subst e; exact ⟨.step (h.b u (h.e u rfl)).1 hv, hvn⟩
    · rw [upd_ne _ _ e] at hx; exact h.b x hx
  · simp only [List.mem_append, List.mem_singleton, not_or] at hn
    rw [upd_ne _ _ hn.2] at hx
    exact mono _ (h.c x hx hn.1 hu y hy)
  · rcases List.mem_append.1 hx with h1 | h1
    · exact mono _ (h.d x h1)
    · simp at h1; subst h1; exact upd_same _ _ _
  · rcases List.mem_append.1 hx with h1 | h1
    · exact mono _ (h.p x h1)
    · simp at h1; subst h1; exact upd_same _ _ _
theorem RI.skip {E : Nat → List Nat} {n i u v : Nat} {S : Nat → Bool} {st P : List Nat} (h : RI E n i S st (some u) P) (hs : S v = true) : RI E n i S st (some u) (P ++ [v]) :=
  ⟨h.a, h.b, h.c, h.d, h.e, fun x hx => by
    rcases List.mem_append.1 hx with h1 | h1
    · exact h.p x h1
    · simp at h1; subst h1; exact hs⟩
theorem RI.done {E : Nat → List Nat} {n i u : Nat} {S : Nat → Bool} {st : List Nat} (h : RI E n i S st (some u) (E u)) : RI E n i S st none [] :=
  ⟨h.a, h.b, fun x hx hn _ v hv => by
    by_cases e : x = u
    · subst e; exact h.p v hv
    · exact h.c x hx hn (fun e' => e (by cases e'; rfl)) v hv, h.d, fun x hx => (by cases hx), fun v hv => (by cases hv)⟩
theorem RI.all {E : Nat → List Nat} {n i : Nat} {S : Nat → Bool} (h : RI E n i S [] none []) : ∀ j, S j = true ↔ Reach E i j := by
  intro j
  refine ⟨fun hj => (h.b j hj).1, fun hj => ?_⟩
  induction hj with
  | self => exact h.a
  | step _ hv ih => exact h.c _ ih (by simp) (by simp) _ hv

theorem RowL.pop {α : Type} {w : World} {base e sz : Nat} {F : α → List Value} (hF : ∀ x, (F x).length = sz) {g cap m : Nat} {l : List α} {u : α} (h : RowL w base e sz F (.slice (some ⟨g, 0, none⟩) m cap) (l ++ [u])) : RowL w base e sz F (.slice (some ⟨g, 0, none⟩) l.length cap) l := by
  obtain ⟨⟨h1, h2⟩⟩ := h
  refine ⟨⟨flat_len hF l, ?_⟩⟩
  rcases h2 with ⟨h2, _⟩ | ⟨g', cap', cur, hv, hb, hg, hn, hc, hs, ht⟩
  · cases h2
  · simp at hv
    obtain ⟨rfl, hm, rfl⟩ := hv
    simp at hn
    refine .inr ⟨g, cap, cur, rfl, hb, hg, by omega, hc, hs, ?_⟩
    have e : l.flatMap F = ((l ++ [u]).flatMap F).take (l.length * sz) := by
      rw [List.flatMap_append, List.take_append_of_le_length (by rw [flat_len hF]; exact Nat.le_refl _), List.take_of_length_le (by rw [flat_len hF]; exact Nat.le_refl _)]
    rw [e, ← ht, List.take_take, Nat.min_eq_left (Nat.mul_le_mul_right _ (by simp))]

theorem Ybaz.info4 : (Ybaz.prog.info? 4).map (fun i => (i.zero, i.size, i.bytes)) = some (some (.bool false), 1, 1) := by kernel_rfl
theorem Ybaz.info3 : (Ybaz.prog.info? 3).map (fun i => (i.zero, i.size, i.bytes)) = some (some (.int .i64 0), 1, 8) := by kernel_rfl
theorem newsAt {w : World} {b : Nat} {cs : List Value} {T : TypeId} {fz : Nat × Nat} (hb : w.heap[b]? = some (.cells cs.toArray T fz)) : ∀ j u, cs[j]? = some u → w.cell? ((⟨b, 0, none⟩ : Addr).add j) = some u := by
  intro j u hu
  rw [Addr.add_lit, cellOf hb]
  simpa using hu
theorem or_one (i : Int) : ∀ v ∈ [Value.int .i64 i], v.oneCell' = true := by
  intro u hu
  simp at hu
  subst hu
  rfl
theorem RowL.at {α : Type} {w : World} {base e sz : Nat} {F : α → List Value} {a : Option Addr} {m cap : Nat} {l : List α} (h : RowL w base e sz F (.slice a m cap) l) {j : Nat} (hj : j < l.length) : ∃ g, a = some ⟨g, 0, none⟩ ∧ m = l.length := by
  rcases h.own.2 with ⟨h0, h1⟩ | ⟨g', cap', cur, hv, _⟩
  · omega
  · simp at hv
    exact ⟨g', hv.1, hv.2.1⟩
theorem RowL.cap {α : Type} {w : World} {base e sz : Nat} {F : α → List Value} {g m cap : Nat} {l : List α} (h : RowL w base e sz F (.slice (some ⟨g, 0, none⟩) m cap) l) : l.length ≤ cap ∧ cap ≤ maxLen := by
  rcases h.own.2 with ⟨h0, _⟩ | ⟨g', cap', cur, hv, _, _, h1, h2, _⟩
  · cases h0
  · simp at hv
    obtain ⟨_, _, rfl⟩ := hv
    exact ⟨h1, h2⟩
/-- The seen ones as they lie. -/
def seenF (S : Nat → Bool) (x : Nat) : Value := .bool (S x)

theorem made_seen (w : World) (n i : Nat) (o : Obj) : Cells ((w.alloc (.cells ((madeCells #[Value.bool false] n).setIfInBounds i (.bool true)) 4)).alloc o) w.heap.size 4 n (seenF (upd (fun _ => false) i true)) := by
  refine Cells.since ⟨_, newBlock _ _, by simp [size_madeCells], fun x hx => ?_⟩ (Since.new _ _)
  have hm : (madeCells #[Value.bool false] n)[x]? = some (.bool false) := by simp [madeCells, hx, Nat.mod_one]
  by_cases e : x = i
  · subst e
    rw [Array.getElem?_setIfInBounds, if_pos rfl, if_pos (by simpa [size_madeCells] using hx)]
    simp [seenF, upd]
  · rw [Array.getElem?_setIfInBounds, if_neg (Ne.symm e), hm]
    simp [seenF, upd, e]
theorem made_one (w : World) (o : Obj) (base i : Nat) (hb : base ≤ w.heap.size + 1) : RowL ((w.alloc o).alloc (.cells #[.int .i64 i] 3)) base 3 1 orC (.slice (some ⟨w.heap.size + 1, 0, none⟩) 1 1) [i] := by
  refine ⟨⟨by simp [orC], .inr ⟨w.heap.size + 1, 1, #[.int .i64 i], rfl, hb, ?_, by simp, by unfold maxLen; omega, rfl, by simp [orC]⟩⟩⟩
  have := newBlock (w.alloc o) (.cells #[.int .i64 i] 3)
  rw [show (w.alloc o).heap.size = w.heap.size + 1 by simp] at this
  exact this

set_option maxRecDepth 100000 in
set_option maxHeartbeats 4000000 in
theorem reach_any (E : Nat → List Nat) (n eb i : Nat) (w : World) (hE : Ed w eb n E) (hi : i < n) :
    Calls Ybaz.prog 7 #[.slice (some ⟨eb, 0, none⟩) n n, .int .i64 i] w fun r w' => Since w w' ∧ ∃ sb S, r = .returned (.slice (some ⟨sb, 0, none⟩) n n) ∧ Cells w' sb 4 n (seenF S) ∧ ∀ j, S j = true ↔ Reach E i j := by
  obtain ⟨i4, hi4, hz4, hs4, hy4⟩ := info_parts Ybaz.info4
  obtain ⟨i3, hi3, hz3, hs3, hy3⟩ := info_parts Ybaz.info3
  have n3 := hE.n3
  have hcb : (Value.bool false).cells = #[Value.bool false] := rfl
  have gm := Cells.made w 4 n (.bool false) rfl
  rw [hcb] at gm
  have g0 := gm.cell hi
  have gz := gm.frozen i
  have gl := gm.lt
  go_enter Ybaz.func7, Ybaz.ntmps7
  go_wp2_with (first | (at_make; refine mkN _ rfl _ _ 57 rfl 4 i4 _ Ybaz.underlying57 hi4 hz4 n rfl rfl (by rw [hy4]; omega) (by omega) ?_; rw [hs4]))
  have hS0 : Since w ((w.alloc (.cells ((madeCells #[Value.bool false] n).setIfInBounds i (.bool true)) 4)).alloc (.cells #[.int .i64 i] 3)) := (Since.new _ _).then (Since.new _ _)
  have hC0 := made_seen w n i (.cells #[.int .i64 i] 3)
  have hR0 := made_one w (.cells ((madeCells #[Value.bool false] n).setIfInBounds i (.bool true)) 4) w.heap.size i (by omega)
  obtain ⟨sb, hsb⟩ : ∃ sb, sb = w.heap.size := ⟨_, rfl⟩
  have hsl : w.heap.size ≤ sb := by omega
  obtain ⟨g0', hg0'⟩ : ∃ g, g = w.heap.size + 1 := ⟨_, rfl⟩
  rw [← hg0'] at hR0 ⊢
  rw [← hsb] at hC0 ⊢
  generalize hW : World.alloc _ (.cells #[.int .i64 i] 3) = W at *
  clear hW hsb hg0' gm g0 gz gl hcb
  go_loopg [6] (2 * n + 1) (fun kk v wr => ∃ (st : List Nat) (S : Nat → Bool), 2 * uns S n + st.length ≤ kk ∧ Since w wr ∧ Cells wr sb 4 n (seenF S) ∧ RowL wr w.heap.size 3 1 orC v st ∧ st.length + uns S n ≤ n + 1 ∧ RI E n i S st none [])
  case atStart => exact ⟨[i], upd (fun _ => false) i true, by have := uns_le (upd (fun _ => false) i true) n; simp; omega, hS0, hC0, hR0, by have := uns_le (upd (fun _ => false) i true) n; simp; omega, RI.start E hi⟩
  case round =>
    clear hS0 hC0 hR0
    obtain ⟨st, S, hk, hS, hC, hR, hsl2, hI⟩ := hrel
    obtain ⟨va, vcap, rfl, _⟩ := hR.form
    have HI := Hid.mk hI
    clear hI
    rcases List.eq_nil_or_concat st with hst | ⟨st', u, hst⟩
    · have hend := HI.out
      rw [hst] at hend
      have HE := Hid.mk hend.all
      have hl0 : st.length = 0 := by rw [hst]; rfl
      have HL0 := Hid.mk hl0
      clear hend hst HI
      rw [HL0.out]
      go_wp2
      go_ret
      exact ⟨hS, sb, S, rfl, hC, HE.out⟩
    · rw [List.concat_eq_append] at hst
      have hstl : st.length = st'.length + 1 := by rw [hst]; simp
      have HST := Hid.mk hst
      obtain ⟨g, rfl, _⟩ := hR.at (j := st'.length) (by omega)
      have hR' := hR
      rw [hst] at hR'
      have hI1 := HI.out
      rw [hst] at hI1
      have HI1 := Hid.mk hI1.pop
      have hu : u < n := (hI1.b u (hI1.d u (by simp))).2
      have r0 := (hR.cell orC_len (j := st'.length) (i := 0) (x := u) (u := .int .i64 u) (by rw [hst]; simp) (by omega) rfl rfl).1
      simp only [Nat.mul_one, Nat.add_zero] at r0
      have lr := sizeOf_cell r0
      simp only at lr
      have hR1 := RowL.pop orC_len hR'
      rw [hstl]
      rw [hstl] at hk hsl2
      obtain ⟨ES, hES0, hRow⟩ := hE.ex
      have hES := hES0.since hS
      have e0 := hES.cell hu
      have le := hES.lt
      obtain ⟨L, hL⟩ : ∃ L, L = E u := ⟨_, rfl⟩
      have HL := Hid.mk hL
      have hlen := hE.len u hu
      have hlt := hE.lt u hu
      have hrL := hRow u hu
      rw [← hL] at hlen hlt hrL
      obtain ⟨ta, tcap, hTS, hne, _, _⟩ := hrL.form
      rw [hTS] at e0 hrL
      clear hst hR hR' hI1 hL hTS HI HST hES hRow hES0
      obtain ⟨hcap, hcm⟩ := hR1.cap
      unfold maxLen at hcm
      go_wp2_with fail
      obtain ⟨W1, rfl⟩ : ∃ W1, W1 = wr := ⟨_, rfl⟩
      go_loopw [6, 37] (fun v iv w2 => ∃ (j : Nat) (st2 : List Nat) (S2 : Nat → Bool), j ≤ L.length ∧ iv = .int .i64 j ∧ 2 * uns S2 n + st2.length < gk ∧ Since w w2 ∧ Cells w2 sb 4 n (seenF S2) ∧ RowL w2 w.heap.size 3 1 orC v st2 ∧ st2.length + uns S2 n ≤ n + 1 ∧ RI E n i S2 st2 (some u) (L.take j)) (fun _ iv _ => L.length - (intOf iv).toNat)
      case atStart => exact ⟨0, st', S, Nat.zero_le _, rfl, by omega, hS, hC, hR1, by omega, HI1.out⟩
      case round =>
        clear hS hC hR1 HI1 r0 lr e0 le hk hsl2
        obtain ⟨j, st2, S2, hj, rfl, hk2, hS2, hC2, hR2, hsl3, hI2⟩ := hrel
        have HI2 := Hid.mk hI2
        clear hI2
        obtain ⟨xa, xcap, rfl, _⟩ := hR2.form
        by_cases hjl : j < L.length
        · obtain ⟨g2, rfl, _, _⟩ := hne (fun e => by rw [e] at hjl; simp at hjl)
          obtain ⟨v, hv⟩ : ∃ v, L[j]? = some v := ⟨L[j], List.getElem?_eq_getElem hjl⟩
          have hvn := hlt v (List.mem_of_getElem? hv)
          have HVE : Hid (v ∈ E u) := ⟨by rw [← HL.out]; exact List.mem_of_getElem? hv⟩
          have r0 := ((hrL.since hS2).cell orC_len (i := 0) (u := .int .i64 v) hv (by omega) rfl rfl).1
          simp only [Nat.mul_one, Nat.add_zero] at r0
          have lr := sizeOf_cell r0
          simp only at lr
          have HTK : Hid (L.take (j + 1) = L.take j ++ [v]) := ⟨by
            obtain ⟨hjj, ev⟩ := List.getElem?_eq_some_iff.1 hv
            rw [List.take_succ_eq_append_getElem hjj, ev]⟩
          have k0 := hC2.cell hvn
          have kz := hC2.frozen v
          have lc := hC2.lt
          clear hv
          cases hsv : S2 v with
          | true =>
            simp only [seenF, hsv] at k0
            have HSV := Hid.mk hsv
            clear hsv
            go_wp2
            go_roundw
            case rel => exact ⟨j + 1, st2, S2, by omega, by go_num, hk2, hS2, hC2, hR2, hsl3, by rw [HTK.out]; exact HI2.out.skip HSV.out⟩
            case measure => simp [intOf]; omega
          | false =>
            simp only [seenF, hsv] at k0
            have hun := uns_set hvn hsv
            have HUN := Hid.mk hun
            have hC3 := hC2.set hvn (.bool true)
            have hS3 : Since w (wr.setCell ⟨sb, v, none⟩ (.bool true)) := hS2.set hsl
            have hR3 := hR2.keep (w' := wr.setCell ⟨sb, v, none⟩ (.bool true)) (fun gg cs _ hgg => by
              rw [setFar (fun e => ?_)]
              · exact hgg
              · obtain ⟨cs', e1, _⟩ := hC2.ex
                rw [← e, hgg] at e1; simp at e1)
            have hsl4 : st2.length ≤ 301 := by omega
            have hnb : ((wr.setCell ⟨sb, v, none⟩ (.bool true)).alloc (.cells #[.int .i64 v] 3)).heap[wr.heap.size]? = some (.cells #[.int .i64 v] 3) := by
              have := newBlock (wr.setCell ⟨sb, v, none⟩ (.bool true)) (.cells #[.int .i64 v] 3)
              rw [show (wr.setCell ⟨sb, v, none⟩ (.bool true)).heap.size = wr.heap.size by simp [World.setCell]] at this
              exact this
            clear hsv hun
            go_wp2_with (first | (at_builtin; refine listApp rfl _ _ 69 rfl w.heap.size 3 i3 _ 1 8 Ybaz.underlying69 hi3 hz3 hs3 hy3 rfl (by decide) (.slice xa st2.length xcap) st2.length (st2.flatMap orC) rfl (RowL.own (hR3.since (Since.new _ _))) ⟨wr.heap.size, 0, none⟩ 1 1 [.int .i64 v] rfl rfl (newsAt hnb) (or_one _) (by unfold maxLen; omega) (by omega) (Nat.le_trans hS3.size (Since.new _ _).size) (by omega) ?_; intro g1 cap1 w8 hbg hown hgr hloc))
            have hR8 : RowL w8 w.heap.size 3 1 orC (.slice (some ⟨g1, 0, none⟩) (st2.length + 1) cap1) (st2 ++ [v]) := ⟨by
              rw [List.length_append, List.flatMap_append]
              simpa [orC] using hown⟩
            have hS8 : Since w w8 := ((Since.new _ _).then hS3).grown hgr (fun b hb => (hR3.base_ge b hb).1)
            have hC8 := (hC3.since (Since.new _ _)).kx (Kx.app (Ts := [3]) (Ms := []) hgr (hR3.since (Since.new _ _)) (by simp)) (by simp)
            clear hown hgr hloc hC2 hS2 hR2 hC3 hS3 hR3 r0 lr k0 kz lc hnb hbg
            go_wp2
            go_roundw
            case rel => exact ⟨j + 1, st2 ++ [v], upd S2 v true, by omega, by go_num, by have := HUN.out; simp; omega, hS8, hC8.congr (fun x hx => by
              by_cases e : x = v
              · subst e; simp only [seenF, upd_same]
              · simp only [seenF, upd_ne _ _ e]), by simpa using hR8, by have := HUN.out; simp; omega, by rw [HTK.out]; exact HI2.out.see HVE.out hvn⟩
            case measure => simp [intOf]; omega
        · have hjl2 : j = L.length := by omega
          have hI3 := HI2.out
          rw [hjl2, List.take_length, HL.out] at hI3
          have HI3 := Hid.mk hI3.done
          clear hI3
          go_wp2
          go_roundg (2 * uns S2 n + st2.length)
          case measure => exact hk2
          case rel => exact ⟨st2, S2, Nat.le_refl _, hS2, hC2, hR2, hsl3, HI3.out⟩
end Go.Proofs.YbulkcvxmGreatFmt
