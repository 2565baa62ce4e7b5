/- unlock. -/
import Derived.Test.YbulkcvzqFmtSmall
set_option linter.unusedSimpArgs false
set_option linter.unusedVariables false
namespace Go.Proofs.YbulkcvzqFmt
open Go.RowKit

def upd {α : Type} (f : Nat → α) (i : Nat) (x : α) : Nat → α := fun j => if j = i then x else f j
theorem upd_same {α : Type} (f : Nat → α) (i : Nat) (x : α) : upd f i x i = x := by simp [upd]
theorem upd_ne {α : Type} (f : Nat → α) {i j : Nat} (x : α) (h : j ≠ i) : upd f i x j = f j := by simp [upd, h]

theorem zero53 (w : World) : (zeroValue 53).run Ybaf.prog w = .ok (.pointer none) w := by kernel_rfl
theorem zero43 (w : World) : (zeroValue 43).run Ybaf.prog w = .ok (.pointer none) w := by kernel_rfl
theorem zero4 (w : World) : (zeroValue 4).run Ybaf.prog w = .ok (.bool false) w := by kernel_rfl
theorem und3 : Ybaf.prog.underlying 3 = some (.int .i64) := by kernel_rfl

theorem mem_heldBy {own : Nat → Nat} {i n a : Nat} : a ∈ heldBy own i n ↔ a < n ∧ own a = i := by simp [heldBy]
theorem tcC_len (wr : Nat → Bool) (a : Nat) : (tcC wr a).length = 2 := rfl
theorem msgC_len (idx : Int) (lead : Nat → Int) (a : Nat) : (msgC idx lead a).length = 6 := rfl
theorem Since.drewN {x y : World} (n : Nat) (h : Since x y) : Since x (y.drewN n) := ⟨h.out.os, h.out.tape, h.out.output, h.out.size, h.out.block⟩

section
variable {d : Dat} {w w' : World} {hol gp : Nat → Bool} {np : Nat} {gu : Nat → Bool} {nu : Nat} {ord : List Nat}
theorem Fx.look (h : Fx w d) {a : Nat} (ha : a < d.n) : (Instr.lookup 26 (.map (some d.am)) (.int .i64 a) false).run Ybaf.prog w = .ok (.pointer (some ⟨d.AB a, 0, none⟩)) w := by
  have n10 := h.n10
  rw [h.mA.look Ybaf.underlying26 (zero53 w) (w64 (by omega) (by omega))]
  simp only [accF, Int.toNat_natCast]
  rw [if_pos (by omega)]
  rfl
theorem St.same (h : St w d hol gp np gu nu ord) (he : ∀ i : Nat, w'.heap[i]? = w.heap[i]?) (hs : w.heap.size ≤ w'.heap.size) : St w' d hol gp np gu nu ord where
  fx := { h.fx with
    pa := fun i hi => (he _).trans (h.fx.pa i hi)
    qa := fun i hi => (he _).trans (h.fx.qa i hi)
    ts := fun i hi => (h.fx.ts i hi).keep (fun g cs _ hg => (he _).trans hg)
    mA := h.fx.mA.keep (he _)
    mR := h.fx.mR.keep (he _)
    mB := fun a ha => (h.fx.mB a ha).keep (he _)
    lw := Nat.le_trans h.fx.lw hs }
  sh := by obtain ⟨ov, h1, h2⟩ := h.sh; exact ⟨ov, (he _).trans h1, h2.keep (fun g cs _ hg => (he _).trans hg)⟩
  ac := fun a ha => (he _).trans (h.ac a ha)
  mP := h.mP.keep (he _)
  mU := h.mU.keep (he _)
theorem St.waiting (h : St w d hol gp np gu nu ord) : St (w.setCell ⟨d.sb, 11, none⟩ (.slice none 0 0)) d hol gp np gu nu ord := by
  refine h.same (fun i => ?_) (by simp [World.setCell])
  by_cases e : i = d.sb
  · subst e
    obtain ⟨ov, h1, _⟩ := h.sh
    rw [setOf h1, h1]
    rfl
  · exact setFar e
theorem St.free (h : St w d hol gp np gu nu ord) {a : Nat} (ha : a < d.n) : St (w.setCell ⟨d.AB a, 3, none⟩ (.pointer none)) d (upd hol a false) gp np gu nu ord := by
  have hT : Tf d w (w.setCell ⟨d.AB a, 3, none⟩ (.pointer none)) := Tf.set (h.ac a ha) (.inr (.inl rfl)) (h.fx.lA a ha)
  refine ⟨h.fx.tf hT, ?_, fun b hb => ?_, ?_, ?_⟩
  · obtain ⟨ov, h1, h2⟩ := h.sh
    refine ⟨ov, by rw [setFar (h.sbne ha)]; exact h1, h2.keep (fun g cs _ hg => ?_)⟩
    rw [setFar (fun e => ?_)]
    · exact hg
    · subst e; rw [h.ac a ha] at hg; simp at hg
  · by_cases e : b = a
    · subst e
      rw [setOf (h.ac b hb)]
      simp [acC, hv, upd]
    · rw [setFar (fun e' => e (h.inj hb ha e')), h.ac b hb]
      simp [hv, upd, e]
  · refine h.mP.keep (setFar (fun e => ?_))
    obtain ⟨es, cl, h1⟩ := h.mP.isMap
    rw [e, h.ac a ha] at h1; simp at h1
  · refine h.mU.keep (setFar (fun e => ?_))
    obtain ⟨es, cl, h1⟩ := h.mU.isMap
    rw [e, h.ac a ha] at h1; simp at h1
theorem St.congr {hol' : Nat → Bool} (h : St w d hol gp np gu nu ord) (he : ∀ a, a < d.n → hol' a = hol a) : St w d hol' gp np gu nu ord :=
  ⟨h.fx, h.sh, fun a ha => by rw [h.ac a ha]; simp [hv, he a ha], h.mP, h.mU⟩
end

set_option maxRecDepth 100000 in
set_option maxHeartbeats 2000000 in
theorem unlock_any (d : Dat) (i : Nat) (w : World) (hol gp : Nat → Bool) (np : Nat) (gu : Nat → Bool) (nu : Nat) (ord : List Nat) (h : St w d hol gp np gu nu ord) (hi : i < d.k) :
    Calls Ybaf.prog 20 #[.pointer (some ⟨d.sb, 0, none⟩), .pointer (some ⟨d.PB i, 0, none⟩)] w fun r w' => r = .returned (.tuple #[]) ∧ Tf d w w' ∧ St w' d (fun a => if d.own a = i then false else hol a) gp np gu nu ord := by
  obtain ⟨L, hL⟩ : ∃ L, L = heldBy d.own i d.n := ⟨_, rfl⟩
  have hts := h.fx.ts i hi
  rw [← hL] at hts
  obtain ⟨ta, tcap, hTS, hne, _, _⟩ := hts.form
  have hLl : L.length ≤ 1024 := by
    rw [hL]
    have := List.length_filter_le (fun a => d.own a == i) (List.range d.n)
    have := h.fx.n10
    simp [heldBy] at *
    omega
  have HL := Hid.mk hL
  have hL' : Hid (∀ a, a ∈ L ↔ a < d.n ∧ d.own a = i) := ⟨fun a => by rw [hL]; exact mem_heldBy⟩
  have n10 := h.fx.n10
  have hpa := h.fx.pa i hi
  rw [hTS] at hpa
  obtain ⟨ov, hsh, hrow⟩ := h.sh
  have s11 : (w.alloc (.cells #[.pointer (some ⟨d.PB i, 0, none⟩)] 43)).cell? ⟨d.sb, 11, none⟩ = some (.slice none 0 0) := cellOf ((Since.new _ _).keep hsh)
  have sz : (w.alloc (.cells #[.pointer (some ⟨d.PB i, 0, none⟩)] 43)).frozen? ⟨d.sb, 11, none⟩ = false := frozenOf ((Since.new _ _).keep hsh)
  have lsb := sizeOf_block hsh
  have hS1 := Since.new w (.cells #[.pointer (some ⟨d.PB i, 0, none⟩)] 43)
  have hbx := newBlock w (.cells #[.pointer (some ⟨d.PB i, 0, none⟩)] 43)
  have hst1 := h.since hS1
  have hpa1 := hS1.keep hpa
  obtain ⟨bx, hb⟩ : ∃ bx, bx = w.heap.size := ⟨_, rfl⟩
  have HTS := Hid.mk hTS
  have HT := Hid.mk (Tf.since (d := d) hS1)
  rw [← hb] at hbx
  go_enter Ybaf.func20, Ybaf.ntmps20
  go_wp2_with fail
  rw [← hb]
  generalize hW : w.alloc (.cells #[.pointer (some ⟨d.PB i, 0, none⟩)] 43) = W at *
  refine (deleteFunc_nil _ W).mono ?_
  rintro r w1 ⟨rfl, rfl⟩
  have hn1 : d.sb ≠ bx := by omega
  have hn2 : d.sb ≠ d.PB i := fun e => by rw [← e, hsh] at hpa; simp at hpa
  have c0 : W.cell? ⟨bx, 0, none⟩ = some (.pointer (some ⟨d.PB i, 0, none⟩)) := cellOf hbx
  have c1 : W.cell? ⟨d.PB i, 2, none⟩ = some (.slice ta L.length tcap) := cellOf hpa1
  have l1 := sizeOf_block hpa1
  have l2 := sizeOf_block hbx
  have l3 : d.sb < W.heap.size := Nat.lt_of_lt_of_le lsb hS1.size
  clear hL hTS hb hpa hpa1 hsh hrow hS1 lsb hW
  go_wp2_with fail
  have hst2 := hst1.waiting
  have HT2 : Hid (Tf d w (W.setCell ⟨d.sb, 11, none⟩ (.slice none 0 0))) := ⟨by
    obtain ⟨ov', h1, _⟩ := hst1.sh
    exact HT.out.trans (Tf.set h1 (.inl rfl) h.fx.l1)⟩
  have hbx2 : (W.setCell ⟨d.sb, 11, none⟩ (.slice none 0 0)).heap[bx]? = _ := (setFar (Ne.symm hn1)).trans hbx
  generalize hW2 : W.setCell ⟨d.sb, 11, none⟩ (.slice none 0 0) = W2 at hst2 HT2 hbx2 ⊢
  clear hW2 s11 sz hst1 hbx HT c0 c1 l1 l2 l3 hn1 hn2
  go_loopw [21] (fun iv wr => ∃ (j : Nat) (hol' : Nat → Bool), j ≤ L.length ∧ iv = .int .i64 j ∧ St wr d hol' gp np gu nu ord ∧ Tf d w wr ∧ wr.heap[bx]? = some (.cells #[.pointer (some ⟨d.PB i, 0, none⟩)] 43) ∧ (∀ a, hol' a = hol a ∨ (d.own a = i ∧ hol' a = false)) ∧ (∀ j' a, j' < j → L[j']? = some a → hol' a = false)) (fun iv _ => L.length - (intOf iv).toNat)
  case atStart => exact ⟨0, hol, Nat.zero_le _, rfl, hst2, HT2.out, hbx2, fun a => .inl rfl, fun j' a hj => absurd hj (Nat.not_lt_zero _)⟩
  case round =>
    clear hst2 hbx2 HT2
    obtain ⟨j, hol', hj, rfl, hst, hTf, hbx, hhol, hdone⟩ := hrel
    have HHOL := Hid.mk hhol
    have HDONE := Hid.mk hdone
    clear hhol hdone
    by_cases hlt : j < L.length
    · obtain ⟨g, rfl, _, _⟩ := hne (fun e => by rw [e] at hlt; simp at hlt)
      obtain ⟨a, ha⟩ : ∃ a, L[j]? = some a := ⟨L[j], List.getElem?_eq_getElem hlt⟩
      have ham := (hL'.out a).1 (List.mem_of_getElem? ha)
      have hts' := (hst.fx.ts i hi)
      rw [HTS.out] at hts'
      have hts2 : RowL wr d.base 58 2 (tcC d.wr) (.slice (some ⟨g, 0, none⟩) L.length tcap) L := by
        have : heldBy d.own i d.n = L := HL.out.symm
        rw [this] at hts'
        exact hts'
      have t0 := (hts2.cell (tcC_len _) (i := 0) (u := .int .i64 a) ha (by omega) rfl rfl).1
      have t1 := (hts2.cell (tcC_len _) (i := 1) (u := .bool (d.wr a)) ha (by omega) rfl rfl).1
      have lg := sizeOf_cell t0
      simp only [Nat.add_zero] at t0 lg
      have han := ham.1
      have HAO := Hid.mk ham.2
      have HA := Hid.mk ha
      clear hts' hts2 ham ha
      go_wp2_with fail
      have hSb := Since.new wr (.cells #[.int .i64 a, .bool (d.wr a)] 58)
      have hB := newBlock wr (.cells #[.int .i64 a, .bool (d.wr a)] 58)
      have hst3 := hst.since hSb
      have hT3 := Hid.mk (hTf.thenS hSb)
      have hbx3 := hSb.keep hbx
      obtain ⟨tb, htb⟩ : ∃ tb, tb = wr.heap.size := ⟨_, rfl⟩
      rw [← htb] at hB ⊢
      generalize hW3 : wr.alloc (.cells #[.int .i64 a, .bool (d.wr a)] 58) = W3 at *
      clear hW3 hSb t0 t1 lg hst hTf hbx htb
      obtain ⟨ov3, hsh3, _⟩ := hst3.sh
      have s5 : W3.cell? ⟨d.sb, 5, none⟩ = some (.map (some d.am)) := cellOf hsh3
      have lsb := sizeOf_block hsh3
      have u0 : W3.cell? ⟨tb, 0, none⟩ = some (.int .i64 a) := cellOf hB
      have ltb := sizeOf_block hB
      have hlook := fun nq => (hst3.since (Since.drewN nq (Since.refl W3))).fx.look han
      go_quiet (fail)
      have hSq := Since.drewN nq (Since.refl W3)
      have hst4 := hst3.since hSq
      have hT4 := Hid.mk (hT3.out.thenS hSq)
      have hbx4 := hSq.keep hbx3
      have hB4 := hSq.keep hB
      generalize hW4 : W3.drewN nq = W4 at *
      clear hW4 hSq hst3 hT3 hbx3 hB hsh3 s5 lsb u0 ltb hlook
      have hac := hst4.ac a han
      have b0 : W4.cell? ⟨bx, 0, none⟩ = some (.pointer (some ⟨d.PB i, 0, none⟩)) := cellOf hbx4
      have lb := sizeOf_block hbx4
      have la := sizeOf_block hac
      cases hol4 : hol' a with
      | false =>
        have a3 : W4.cell? ⟨d.AB a, 3, none⟩ = some (.pointer none) := by rw [cellOf hac]; simp [acC, hv, hol4]
        have HH := Hid.mk hol4
        clear hol4 hac
        go_wp2
        go_quiet (fail)
        have hSq := Since.drewN nq (Since.refl W4)
        have hst5 := hst4.since hSq
        have hT5 := hT4.out.thenS hSq
        have hbx5 := hSq.keep hbx4
        generalize hW5 : W4.drewN nq = W5 at *
        clear hW5 hSq hst4 hT4 hbx4 b0 lb la a3 hB4
        go_wp2
        go_roundw
        case rel =>
          refine ⟨j + 1, hol', by omega, by go_num, hst5, hT5, hbx5, HHOL.out, fun j' a' hj' ha' => ?_⟩
          by_cases e : j' = j
          · subst e
            rw [HA.out] at ha'
            cases ha'
            exact HH.out
          · exact HDONE.out j' a' (by omega) ha'
        case measure => simp [intOf]; omega
      | true =>
        have a3 : W4.cell? ⟨d.AB a, 3, none⟩ = some (.pointer (some ⟨d.PB i, 0, none⟩)) := by rw [cellOf hac]; simp [acC, hv, hol4, HAO.out]
        clear hol4
        go_wp2
        go_quiet (fail)
        have hSq := Since.drewN nq (Since.refl W4)
        have hst5 := hst4.since hSq
        have hT5 := Hid.mk (hT4.out.thenS hSq)
        have hbx5 := hSq.keep hbx4
        have hB5 := hSq.keep hB4
        generalize hW5 : W4.drewN nq = W5 at *
        clear hW5 hSq hst4 hT4 hbx4 b0 lb la a3 hB4 hac
        have hac := hst5.ac a han
        have a3 : (W5.cell? ⟨d.AB a, 3, none⟩).isSome = true := by rw [cellOf hac]; rfl
        obtain ⟨vv, a3⟩ := Option.isSome_iff_exists.1 a3
        have az : W5.frozen? ⟨d.AB a, 3, none⟩ = false := frozenOf hac
        have la := sizeOf_block hac
        have t0 : W5.cell? ⟨tb, 0, none⟩ = some (.int .i64 a) := cellOf hB5
        have t1 : W5.cell? ⟨tb, 1, none⟩ = some (.bool (d.wr a)) := cellOf hB5
        have lt := sizeOf_block hB5
        have hn1 : d.AB a ≠ tb := fun e => by rw [← e, hac] at hB5; simp at hB5
        have hn2 : d.AB a ≠ bx := fun e => by rw [← e, hac] at hbx5; simp at hbx5
        have hst6 := hst5.free han
        have hT6 := Hid.mk (hT5.out.trans (Tf.set (o := 3) (v := .pointer none) hac (.inr (.inl rfl)) (hst5.fx.lA a han)))
        have hbx6 : (W5.setCell ⟨d.AB a, 3, none⟩ (.pointer none)).heap[bx]? = _ := (setFar (Ne.symm hn2)).trans hbx5
        go_wp2_with fail
        generalize hW6 : W5.setCell ⟨d.AB a, 3, none⟩ (.pointer none) = W6 at *
        clear hW6 hst5 hT5 hbx5 hB5 hac a3 az la t0 t1 lt hn1 hn2
        obtain ⟨ov6, hsh6, _⟩ := hst6.sh
        refine (freed_nil d.sb a (d.wr a) W6 (cellOf hsh6)).mono ?_
        rintro r7 w7 ⟨rfl, hS7⟩
        have hst7 := hst6.since hS7
        have hT7 := hT6.out.thenS hS7
        have hbx7 := hS7.keep hbx6
        clear hst6 hT6 hbx6 hsh6 hS7
        go_wp2
        go_roundw
        case rel =>
          refine ⟨j + 1, upd hol' a false, by omega, by go_num, hst7, hT7, hbx7, fun a' => ?_, fun j' a' hj' ha' => ?_⟩
          · by_cases e : a' = a
            · subst e; exact .inr ⟨HAO.out, upd_same _ _ _⟩
            · rw [upd_ne _ _ e]; exact HHOL.out a'
          · by_cases e : a' = a
            · subst e; exact upd_same _ _ _
            · rw [upd_ne _ _ e]
              by_cases e2 : j' = j
              · subst e2
                rw [HA.out] at ha'
                cases ha'
                exact absurd rfl e
              · exact HDONE.out j' a' (by omega) ha'
        case measure => simp [intOf]; omega
    · have hjl : j = L.length := by omega
      have hst' : St wr d (fun a => if d.own a = i then false else hol a) gp np gu nu ord := hst.congr (fun a ha => by
        by_cases e : d.own a = i
        · rw [if_pos e]
          obtain ⟨j', hj', ej⟩ := List.getElem_of_mem ((hL'.out a).2 ⟨ha, e⟩)
          exact (HDONE.out j' a (by omega) (by rw [List.getElem?_eq_getElem hj', ej])).symm
        · rw [if_neg e]
          rcases HHOL.out a with h1 | ⟨h1, _⟩
          · exact h1.symm
          · exact absurd h1 e)
      clear hst hbx HDONE
      go_wp2
      go_end0
      exact ⟨rfl, hTf, hst'⟩
end Go.Proofs.YbulkcvzqFmt
