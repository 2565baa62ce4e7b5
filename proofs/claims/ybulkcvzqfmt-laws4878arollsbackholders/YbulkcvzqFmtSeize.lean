/- seize: the plain fold, and the walk. -/
import Derived.Test.YbulkcvzqFmtRoll
set_option linter.unusedSimpArgs false
set_option linter.unusedVariables false
namespace Go.Proofs.YbulkcvzqFmt
open Go.RowKit

def cnt (A : Nat → Bool) : Nat → Nat
  | 0 => 0
  | n + 1 => cnt A n + if A n then 1 else 0
theorem cnt_le (A : Nat → Bool) : ∀ n, cnt A n ≤ n
  | 0 => Nat.le_refl _
  | n + 1 => by have := cnt_le A n; unfold cnt; split <;> omega
theorem cnt_congr {A B : Nat → Bool} : ∀ {n}, (∀ v, v < n → A v = B v) → cnt A n = cnt B n
  | 0, _ => rfl
  | n + 1, h => by unfold cnt; rw [cnt_congr (n := n) (fun v hv => h v (by omega)), h n (by omega)]
theorem cnt_set {A : Nat → Bool} {v : Nat} : ∀ {n}, v < n → A v = false → cnt (upd A v true) n = cnt A n + 1
  | 0, h, _ => absurd h (Nat.not_lt_zero _)
  | n + 1, h, ha => by
    unfold cnt
    by_cases e : v = n
    · subst e; rw [upd_same, ha, cnt_congr (A := upd A v true) (B := A) (fun u hu => upd_ne _ _ (by omega))]; simp
    · rw [cnt_set (n := n) (by omega) ha, upd_ne _ _ (Ne.symm e)]; omega
theorem cnt_none : ∀ n, cnt (fun _ => false) n = 0
  | 0 => rfl
  | n + 1 => by simp [cnt, cnt_none n]

/-- One touch: its account's owner is rolled back, once. -/
def rollStep (own : Nat → Nat) (k : Nat) (s : (Nat → Bool) × List Nat) (u : Nat) : (Nat → Bool) × List Nat :=
  if own u < k ∧ s.1 (own u) = false then (upd s.1 (own u) true, s.2 ++ [own u]) else s
def roll (own : Nat → Nat) (k : Nat) (l : List Nat) : (Nat → Bool) × List Nat := l.foldl (rollStep own k) (fun _ => false, [])
theorem roll_snoc (own : Nat → Nat) (k : Nat) (l : List Nat) (u : Nat) : roll own k (l ++ [u]) = rollStep own k (roll own k l) u := by simp [roll, List.foldl_append]
theorem roll_take (own : Nat → Nat) (k : Nat) (l : List Nat) {j u : Nat} (h : l[j]? = some u) : roll own k (l.take (j + 1)) = rollStep own k (roll own k (l.take j)) u := by
  obtain ⟨hj, e⟩ := List.getElem?_eq_some_iff.1 h
  rw [List.take_succ_eq_append_getElem hj, roll_snoc, e]
structure RollOk (k : Nat) (s : (Nat → Bool) × List Nat) : Prop where
  ct : cnt s.1 k = s.2.length
  mem : ∀ i ∈ s.2, i < k ∧ s.1 i = true
  nd : s.2.Nodup
theorem rollStep_ok {own : Nat → Nat} {k : Nat} {s : (Nat → Bool) × List Nat} {u : Nat} (h : RollOk k s) : RollOk k (rollStep own k s u) := by
  unfold rollStep
  split
  · rename_i hc
    refine ⟨by simp [cnt_set hc.1 hc.2, h.ct], fun i hi => ?_, ?_⟩
    · simp at hi
      rcases hi with hi | rfl
      · have := h.mem i hi
        refine ⟨this.1, ?_⟩
        show upd s.1 (own u) true i = true
        by_cases e : i = own u
        · subst e; exact upd_same _ _ _
        · rw [upd_ne _ _ e]; exact this.2
      · exact ⟨hc.1, upd_same _ _ _⟩
    · refine List.nodup_append.2 ⟨h.nd, by simp, fun a ha b hb => ?_⟩
      simp at hb
      subst hb
      intro e
      subst e
      have := (h.mem _ ha).2
      rw [hc.2] at this
      cases this
  · exact h
theorem roll_ok (own : Nat → Nat) (k : Nat) : ∀ l, RollOk k (roll own k l) := by
  intro l
  have : ∀ (l : List Nat) (s : (Nat → Bool) × List Nat), RollOk k s → RollOk k (l.foldl (rollStep own k) s) := by
    intro l
    induction l with
    | nil => intro s h; exact h
    | cons u l ih => intro s h; exact ih _ (rollStep_ok h)
  exact this l _ ⟨cnt_none k, by simp, by simp⟩
theorem roll_len (own : Nat → Nat) (k : Nat) (l : List Nat) : (roll own k l).2.length ≤ k := by
  rw [← (roll_ok own k l).ct]; exact cnt_le _ _

/-- Is account a still held? -/
def holOf (d : Dat) (g : Nat → Bool) (a : Nat) : Bool := decide (d.own a < d.k) && !(g (d.own a))
theorem holOf_upd (d : Dat) (g : Nat → Bool) (i a : Nat) : holOf d (upd g i true) a = if d.own a = i then false else holOf d g a := by
  unfold holOf
  by_cases e : d.own a = i
  · rw [if_pos e, e, upd_same]; simp
  · rw [if_neg e, upd_ne _ _ e]

/-- A touch that does not write. -/
def ptC (a : Nat) : List Value := [.int .i64 a, .bool false]
theorem ptC_len (a : Nat) : (ptC a).length = 2 := rfl

set_option maxRecDepth 100000 in
set_option maxHeartbeats 2000000 in
theorem seize_any (d : Dat) (pB pq : Nat) (pl : Int) (pv : Value) (PT : List Nat) (w : World) (h : St w d (holOf d (fun _ => false)) (fun _ => false) d.k (fun _ => false) 0 [])
    (hp : w.heap[pB]? = some (.cells (paC pq pl pv) 52)) (hr : RowL w d.base 58 2 ptC pv PT) (hPT : ∀ a ∈ PT, a < d.n) (hl : PT.length ≤ 1024) :
    Calls Ybaf.prog 4 #[.pointer (some ⟨d.sb, 0, none⟩), .pointer (some ⟨pB, 0, none⟩)] w fun r w' => r = .returned (.tuple #[]) ∧ Tf d w w' ∧ St w' d (holOf d (roll d.own d.k PT).1) (roll d.own d.k PT).1 (d.k - (roll d.own d.k PT).2.length) (roll d.own d.k PT).1 (roll d.own d.k PT).2.length (roll d.own d.k PT).2 := by
  obtain ⟨pa, pcap, rfl, hne, _, _⟩ := hr.form
  have c2 : w.cell? ⟨pB, 2, none⟩ = some (.slice pa PT.length pcap) := cellOf hp
  have lp := sizeOf_block hp
  have k10 := h.fx.k10
  have n10 := h.fx.n10
  go_enter Ybaf.func4, Ybaf.ntmps4
  go_wp2_with fail
  go_loopw [12] (fun iv wr => ∃ j : Nat, j ≤ PT.length ∧ iv = .int .i64 j ∧ Tf d w wr ∧ St wr d (holOf d (roll d.own d.k (PT.take j)).1) (roll d.own d.k (PT.take j)).1 (d.k - (roll d.own d.k (PT.take j)).2.length) (roll d.own d.k (PT.take j)).1 (roll d.own d.k (PT.take j)).2.length (roll d.own d.k (PT.take j)).2) (fun iv _ => PT.length - (intOf iv).toNat)
  case atStart => exact ⟨0, Nat.zero_le _, rfl, Tf.refl _ _, h⟩
  case round =>
    obtain ⟨j, hj, rfl, hTf, hst⟩ := hrel
    by_cases hlt : j < PT.length
    · obtain ⟨g, rfl, _, _⟩ := hne (fun e => by rw [e] at hlt; simp at hlt)
      obtain ⟨u, hu⟩ : ∃ u, PT[j]? = some u := ⟨PT[j], List.getElem?_eq_getElem hlt⟩
      have hun := hPT u (List.mem_of_getElem? hu)
      have hrr := hTf.row hr (by decide)
      have t0 := (hrr.cell ptC_len (i := 0) (u := .int .i64 u) hu (by omega) rfl rfl).1
      have t1 := (hrr.cell ptC_len (i := 1) (u := .bool false) hu (by omega) rfl rfl).1
      have lg := sizeOf_cell t0
      simp only [Nat.add_zero] at t0 lg
      have HU : Hid (roll d.own d.k (PT.take (j + 1)) = rollStep d.own d.k (roll d.own d.k (PT.take j)) u) := ⟨roll_take _ _ _ hu⟩
      have hok := roll_ok d.own d.k (PT.take j)
      have hlen := roll_len d.own d.k (PT.take j)
      generalize roll d.own d.k (PT.take j) = s at *
      have HT := Hid.mk hTf
      clear hrr hu hTf
      go_wp2_with fail
      have hSb := Since.new wr (.cells #[.int .i64 u, .bool false] 58)
      have hB := newBlock wr (.cells #[.int .i64 u, .bool false] 58)
      have hst3 := hst.since hSb
      have hT3 := Hid.mk (HT.out.thenS hSb)
      obtain ⟨tb, htb⟩ : ∃ tb, tb = wr.heap.size := ⟨_, rfl⟩
      rw [← htb] at hB ⊢
      generalize hW3 : wr.alloc (.cells #[.int .i64 u, .bool false] 58) = W3 at *
      clear hW3 hSb t0 t1 lg hst HT htb
      obtain ⟨ov3, hsh3, _⟩ := hst3.sh
      have s5 : W3.cell? ⟨d.sb, 5, none⟩ = some (.map (some d.am)) := cellOf hsh3
      have lsb := sizeOf_block hsh3
      have u0 : W3.cell? ⟨tb, 0, none⟩ = some (.int .i64 u) := cellOf hB
      have ltb := sizeOf_block hB
      have hlook := fun nq => (hst3.since (Since.drewN nq (Since.refl W3))).fx.look hun
      have hac := hst3.ac u hun
      have la := sizeOf_block hac
      cases hol4 : holOf d s.1 u with
      | false =>
        have a3 : W3.cell? ⟨d.AB u, 3, none⟩ = some (.pointer none) := by rw [cellOf hac]; simp [acC, hv, hol4]
        have HS : Hid (rollStep d.own d.k s u = s) := ⟨by
          unfold rollStep
          rw [if_neg]
          rintro ⟨h1, h2⟩
          simp [holOf, h1, h2] at hol4⟩
        clear hol4 hac
        go_quiet (fail)
        have hSq := Since.drewN nq (Since.refl W3)
        have hst5 := hst3.since hSq
        have hT5 := hT3.out.thenS hSq
        generalize hW5 : W3.drewN nq = W5 at *
        clear hW5 hSq hst3 hT3 la a3 hB hsh3 s5 lsb u0 ltb hlook
        go_wp2
        go_roundw
        case rel => exact ⟨j + 1, by omega, by go_num, hT5, by rw [HU.out, HS.out]; exact hst5⟩
        case measure => simp [intOf]; omega
      | true =>
        have a3 : W3.cell? ⟨d.AB u, 3, none⟩ = some (.pointer (some ⟨d.PB (d.own u), 0, none⟩)) := by rw [cellOf hac]; simp [acC, hv, hol4]
        have HC : Hid (d.own u < d.k ∧ s.1 (d.own u) = false) := ⟨by simp [holOf] at hol4; exact hol4⟩
        have HS : Hid (rollStep d.own d.k s u = (upd s.1 (d.own u) true, s.2 ++ [d.own u])) := ⟨by unfold rollStep; rw [if_pos HC.out]⟩
        clear hol4 hac
        go_quiet (fail)
        have hSq := Since.drewN nq (Since.refl W3)
        have hst5 := hst3.since hSq
        have hT5 := Hid.mk (hT3.out.thenS hSq)
        generalize hW5 : W3.drewN nq = W5 at *
        clear hW5 hSq hst3 hT3 la a3 hB hsh3 s5 lsb u0 ltb hlook
        go_wp2_with fail
        refine (rollBack_any d (d.own u) W5 _ _ _ _ _ hst5 HC.out.1 HC.out.2 (by omega) (by omega)).mono ?_
        rintro r6 w6 ⟨rfl, hT6, hst6⟩
        have hT7 := hT5.out.trans hT6
        clear hT5 hT6 hst5
        go_wp2
        go_roundw
        case rel =>
          refine ⟨j + 1, by omega, by go_num, hT7, ?_⟩
          rw [HU.out, HS.out]
          have := hst6.congr (hol' := holOf d (upd s.1 (d.own u) true)) (fun a ha => holOf_upd d s.1 (d.own u) a)
          simpa [Nat.sub_sub] using this
        case measure => simp [intOf]; omega
    · have hjl : j = PT.length := by omega
      subst hjl
      rw [List.take_length] at hst
      go_wp2
      go_end0
      exact ⟨rfl, hTf, hst⟩
end Go.Proofs.YbulkcvzqFmt
