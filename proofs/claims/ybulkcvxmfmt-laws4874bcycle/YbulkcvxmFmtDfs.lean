/- The law's own search (19, 7). -/
import Derived.Test.YbulkcvxmFmtMem
set_option linter.unusedSimpArgs false
set_option linter.unusedVariables false
namespace Go.Proofs.YbulkcvxmFmt
open Go.RowKit

def orC (i : Nat) : List Value := [.int .i64 i]
theorem orC_len (i : Nat) : (orC i).length = 1 := rfl
/-- The edges as they lie: a row of slices of numbers. -/
structure Ed (w : World) (eb n : Nat) (E : Nat → List Nat) : Prop where
  ex : ∃ ES : Nat → Value, Cells w eb 56 n ES ∧ ∀ i, i < n → RowL w 0 3 1 orC (ES i) (E i)
  lt : ∀ i, i < n → ∀ v ∈ E i, v < n
  len : ∀ i, i < n → (E i).length ≤ 1024
  n3 : n ≤ 300
theorem Ed.since {w w' : World} {eb n : Nat} {E : Nat → List Nat} (h : Ed w eb n E) (hs : Since w w') : Ed w' eb n E := by
  obtain ⟨ES, h1, h2⟩ := h.ex
  exact ⟨⟨ES, h1.since hs, fun i hi => (h2 i hi).since hs⟩, h.lt, h.len, h.n3⟩
theorem Ed.kx {w w' : World} {eb n : Nat} {E : Nat → List Nat} {Ts Ms : List Nat} (h : Ed w eb n E) (hk : Kx Ts Ms w w') (h1 : 56 ∉ Ts) (h2 : 3 ∉ Ts) : Ed w' eb n E := by
  obtain ⟨ES, g1, g2⟩ := h.ex
  exact ⟨⟨ES, g1.kx hk h1, fun i hi => hk.row (g2 i hi) h2⟩, h.lt, h.len, h.n3⟩

/-- All blocks stand but the one. -/
structure But (b : Nat) (w w' : World) : Prop where
  os : w'.os = w.os
  tape : w'.tape = w.tape
  output : w'.output = w.output
  size : w.heap.size ≤ w'.heap.size
  block : ∀ i, i < w.heap.size → i ≠ b → w'.heap[i]? = w.heap[i]?
section
variable {b : Nat} {w w' w'' : World}
theorem But.refl (b : Nat) (w : World) : But b w w := ⟨rfl, rfl, rfl, Nat.le_refl _, fun _ _ _ => rfl⟩
theorem But.trans (h : But b w w') (h' : But b w' w'') : But b w w'' :=
  ⟨h'.os.trans h.os, h'.tape.trans h.tape, h'.output.trans h.output, Nat.le_trans h.size h'.size, fun i hi hn => (h'.block i (Nat.lt_of_lt_of_le hi h.size) hn).trans (h.block i hi hn)⟩
theorem But.set (b o : Nat) (v : Value) (w : World) : But b w (w.setCell ⟨b, o, none⟩ v) := ⟨rfl, rfl, rfl, by simp [World.setCell], fun i _ hn => setFar hn⟩
theorem But.keep (h : But b w w') {i : Nat} {o : Obj} (hi : w.heap[i]? = some o) (hn : i ≠ b) : w'.heap[i]? = some o := by
  rw [h.block i (sizeOf_block hi) hn]; exact hi
theorem But.ed {eb n : Nat} {E : Nat → List Nat} {cs : Array Value} {T : TypeId} {fz : Nat × Nat} (h : But b w w') (hb : w.heap[b]? = some (.cells cs T fz)) (h1 : T ≠ 56) (h2 : T ≠ 3) (he : Ed w eb n E) : Ed w' eb n E := by
  obtain ⟨ES, ⟨es, g1, g2⟩, g3⟩ := he.ex
  refine ⟨⟨ES, ⟨es, h.keep g1 (fun e => ?_), g2⟩, fun i hi => (g3 i hi).keep (fun g cs' _ hg => h.keep hg (fun e => ?_))⟩, he.lt, he.len, he.n3⟩
  · subst e; rw [g1] at hb; cases hb; exact h1 rfl
  · subst e; rw [hg] at hb; cases hb; exact h2 rfl
end

/-- The colours as they lie. -/
def colF (c : Nat → Nat) (x : Nat) : Value := .int .u8 (c x)

set_option maxRecDepth 100000 in
set_option maxHeartbeats 2000000 in
theorem dfs_any (E : Nat → List Nat) (n eb cb ec cc : Nat) : ∀ (f : Nat) (c : Nat → Nat) (i : Nat) (w : World), Ed w eb n E → Cells w cb 5 n (colF c) → i < n → c i = 0 → (∀ v, c v ≤ 2) → fresh c n < f →
    Calls Ybaf.prog 19 #[.slice (some ⟨eb, 0, none⟩) n n, .slice (some ⟨cb, 0, none⟩) n n, .int .i64 i] w fun r w' =>
      But cb w w' ∧ ((r = .returned (.bool true) ∧ vis E f c i = none) ∨ ∃ c', r = .returned (.bool false) ∧ vis E f c i = some c' ∧ Cells w' cb 5 n (colF c')) := by
  intro f
  induction f with
  | zero => intro c i w _ _ _ _ _ h; omega
  | succ f ih =>
    intro c i w hE hC hi hci hle hf
    have n3 := hE.n3
    have hv0 : vis E (f + 1) c i = (allOf (vis E f) (upd c i 1) (E i)).map fun c' => upd c' i 2 := by
      show (if c i = 2 then _ else if c i = 1 then _ else _) = _
      rw [hci]; rfl
    have hfr := fresh_open (c := c) (i := i) (x := 1) (by omega) hi hci
    have HV := Hid.mk hv0
    have HF := Hid.mk hfr
    have HCI := Hid.mk hci
    obtain ⟨L, hL⟩ : ∃ L, L = E i := ⟨_, rfl⟩
    have HL := Hid.mk hL
    have hlen := hE.len i hi
    have hlt := hE.lt i hi
    obtain ⟨ES, hES, hRow⟩ := hE.ex
    have hr := hRow i hi
    rw [← hL] at hlen hlt hr
    obtain ⟨ta, tcap, hTS, hne, _, _⟩ := hr.form
    have c0 := hC.cell hi
    have cz := hC.frozen i
    have lc := hC.lt
    have e0 := hES.cell hi
    rw [hTS] at e0
    have le := hES.lt
    have hC1 := hC.set hi (.int .u8 1)
    have hB1 := But.set cb i (.int .u8 1) w
    have hcC : ∃ cs, w.heap[cb]? = some (.cells cs 5) := by obtain ⟨cs, h1, _⟩ := hC.ex; exact ⟨cs, h1⟩
    obtain ⟨cs0, hcs0⟩ := hcC
    have hne1 : cb ≠ eb := fun e => by obtain ⟨cs, h1, _⟩ := hES.ex; rw [← e, hcs0] at h1; simp at h1
    have HTS := Hid.mk hTS
    have HE := Hid.mk hE
    have hRr : ∀ w', But cb w w' → RowL w' 0 3 1 orC (.slice ta L.length tcap) L := fun w' hb => by
      have := hr.keep (w' := w') (fun g cs _ hg => hb.keep hg (fun e => by subst e; rw [hg] at hcs0; cases hcs0))
      rw [hTS] at this
      exact this
    clear hv0 hfr hci hL hTS hES hRow hr hE
    go_enter Ybaf.func19, Ybaf.ntmps19
    go_wp2_with fail
    have hC2 : Cells (w.setCell ⟨cb, i, none⟩ (.int .u8 1)) cb 5 n (colF (upd c i 1)) := hC1.congr (fun x hx => by
      by_cases e : x = i
      · subst e; simp only [colF, upd_same]; rfl
      · simp only [colF, upd_ne _ _ e])
    generalize hW1 : w.setCell ⟨cb, i, none⟩ (.int .u8 1) = W1 at *
    clear hW1 hC1 c0 cz lc e0 le
    go_loopw [17] (fun iv wr => ∃ (j : Nat) (c1 : Nat → Nat), j ≤ L.length ∧ iv = .int .i64 j ∧ But cb w wr ∧ Cells wr cb 5 n (colF c1) ∧ allOf (vis E f) (upd c i 1) (L.take j) = some c1) (fun iv _ => L.length - (intOf iv).toNat)
    case atStart => exact ⟨0, upd c i 1, Nat.zero_le _, rfl, hB1, hC2, rfl⟩
    case round =>
      clear hC2 hB1
      obtain ⟨j, c1, hj, rfl, hB, hCr, hal⟩ := hrel
      have HAL := Hid.mk hal
      have hk1 : Kept (upd c i 1) c1 := allOf_kept (fun c v c' h => (vis_kept E f c v c' h).1) hal
      have hle1 : ∀ v, c1 v ≤ 2 := fun v => hk1.le v (by
        by_cases e : v = i
        · subst e; rw [upd_same]; omega
        · rw [upd_ne _ _ e]; exact hle v)
      have hfr1 : fresh c1 n < f := by
        have h1 := fresh_mono (n := n) (a := upd c i 1) (b := c1) (fun v _ h0 => by
          rcases Nat.lt_or_ge (upd c i 1 v) 1 with h | h
          · omega
          · have h3 : upd c i 1 v ≤ 2 := by
              by_cases e : v = i
              · subst e; rw [upd_same]; omega
              · rw [upd_ne _ _ e]; exact hle v
            rcases (by omega : upd c i 1 v = 1 ∨ upd c i 1 v = 2) with h2 | h2
            · have := (hk1.one v).1 h2; omega
            · have := hk1.two v h2; omega)
        have := HF.out
        omega
      clear hal
      have lc := hCr.lt
      by_cases hjl : j < L.length
      · obtain ⟨g, rfl, _, _⟩ := hne (fun e => by rw [e] at hjl; simp at hjl)
        obtain ⟨v, hv⟩ : ∃ v, L[j]? = some v := ⟨L[j], List.getElem?_eq_getElem hjl⟩
        have hvn := hlt v (List.mem_of_getElem? hv)
        have r0 := ((hRr wr hB).cell orC_len (i := 0) (u := .int .i64 v) hv (by omega) rfl rfl).1
        simp only [Nat.mul_one, Nat.add_zero] at r0
        have lr := sizeOf_cell r0
        simp only at lr
        have k0 := hCr.cell hvn
        have hnext : allOf (vis E f) (upd c i 1) (L.take (j + 1)) = vis E f c1 v := by
          obtain ⟨hjj, ev⟩ := List.getElem?_eq_some_iff.1 hv
          rw [List.take_succ_eq_append_getElem hjj, allOf_snoc, HAL.out, ev]; rfl
        have HN := Hid.mk hnext
        clear hnext hv
        rcases (by have := hle1 v; omega : c1 v = 0 ∨ c1 v = 1 ∨ c1 v = 2) with hcv | hcv | hcv
        · simp only [colF, hcv] at k0
          have HCV := Hid.mk hcv
          have hEr := hB.ed hcs0 (by decide) (by decide) HE.out
          clear hcv
          go_wp2_with fail
          refine (ih c1 v wr hEr hCr hvn HCV.out hle1 hfr1).mono ?_
          rintro r1 w1 ⟨hB1, ⟨rfl, hn1⟩ | ⟨c2, rfl, hs2, hC2⟩⟩
          · have hB2 := hB.trans hB1
            have hres : vis E (f + 1) c i = none := by
              rw [HV.out, ← HL.out, allOf_none (j := j + 1) (by rw [HN.out]; exact hn1)]; rfl
            clear hn1
            go_wp2
            go_ret
            exact ⟨hB2, .inl ⟨rfl, hres⟩⟩
          · have hB2 := hB.trans hB1
            clear hCr hB hB1
            go_wp2
            go_roundw
            case rel => exact ⟨j + 1, c2, by omega, by go_num, hB2, hC2, by rw [HN.out]; exact hs2⟩
            case measure => simp [intOf]; omega
        · simp only [colF, hcv] at k0
          have hres : vis E (f + 1) c i = none := by
            have h1 : vis E f c1 v = none := by
              cases f with
              | zero => rfl
              | succ f => show (if c1 v = 2 then _ else if c1 v = 1 then _ else _) = _; rw [hcv]; rfl
            rw [HV.out, ← HL.out, allOf_none (j := j + 1) (by rw [HN.out]; exact h1)]; rfl
          clear hcv
          go_wp2
          go_ret
          exact ⟨hB, .inl ⟨rfl, hres⟩⟩
        · simp only [colF, hcv] at k0
          have hn1 : allOf (vis E f) (upd c i 1) (L.take (j + 1)) = some c1 := by
            rw [HN.out]
            cases f with
            | zero => omega
            | succ f => show (if c1 v = 2 then _ else if c1 v = 1 then _ else _) = _; rw [hcv]; rfl
          have HN1 := Hid.mk hn1
          clear hcv hn1
          go_wp2
          go_roundw
          case rel => exact ⟨j + 1, c1, by omega, by go_num, hB, hCr, HN1.out⟩
          case measure => simp [intOf]; omega
      · have hjl2 : j = L.length := by omega
        have hres : vis E (f + 1) c i = some (upd c1 i 2) := by
          have h1 := HAL.out
          rw [hjl2, List.take_length] at h1
          rw [HV.out, ← HL.out, h1]; rfl
        have HR := Hid.mk hres
        have k0 := hCr.cell hi
        have kz := hCr.frozen i
        have hC3 := hCr.set hi (.int .u8 2)
        have hB3 := hB.trans (But.set cb i (.int .u8 2) wr)
        clear hres
        go_wp2
        go_ret
        refine ⟨hB3, .inr ⟨_, rfl, HR.out, hC3.congr (fun x hx => ?_)⟩⟩
        by_cases e : x = i
        · subst e; simp only [colF, upd_same]; rfl
        · simp only [colF, upd_ne _ _ e]
end Go.Proofs.YbulkcvxmFmt
