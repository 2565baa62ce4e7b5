import Derived.Test.YbulkcvzcFmtDec5
set_option linter.unusedSimpArgs false
set_option linter.unusedVariables false
namespace Go.Proofs.YbulkcvzcFmt
open Go.RowKit

def sLen : Value → Nat | .slice _ n _ => n | _ => 0

theorem val_snoc (l : List Int) (x : Int) : val (l ++ [x]) = val l * 256 + x := by simp [val, List.foldl_append]
theorem strip_drop (l : List Int) : ∃ k, strip l = l.drop k ∧ k ≤ l.length := by
  induction l with
  | nil => exact ⟨0, rfl, by simp⟩
  | cons a r ih =>
    cases r with
    | nil => exact ⟨0, rfl, by simp⟩
    | cons b r =>
      simp only [strip]
      split
      · obtain ⟨k, h, hk⟩ := ih
        exact ⟨k + 1, by rw [h]; rfl, by simp at hk ⊢; omega⟩
      · exact ⟨0, rfl, by simp⟩

set_option maxRecDepth 100000 in
set_option maxHeartbeats 2000000 in
theorem intOf_any (db gb N cap s e : Nat) (o : Int) (l : List Int) (w : World) (hD : w.heap[db]? = some (decO gb N cap none)) (hse : s < e) (heN : e ≤ N) (hN : N ≤ 1000) (hNc : N ≤ cap)
    (hl : l.length = e - s) (hc : ∀ j, j < l.length → w.cell? ⟨gb, s + j, none⟩ = some (.int .u8 (l.getD j 0))) (hby : ∀ x ∈ l, 0 ≤ x ∧ x < 256) (hhead : l.getD 0 0 < 128) (hsl : (strip l).length ≤ 3) :
    Calls Ybaf.prog 38 #[.pointer (some ⟨db, 0, none⟩), .agg #[.int .u8 128, .int .i64 o, .int .i64 s, .int .i64 e]] w fun r w' => r = .returned (.tuple #[.int .i64 (val (strip l)), .bool true]) ∧ Since w w' := by
  have hbit : (bits .and .u8 128 32 != 0) = false := by decide
  have hgs : gb < w.heap.size := sizeOf_cell (hc 0 (by omega))
  go_enter Ybaf.func38, Ybaf.ntmps38
  go_wp2_with fail
  refine (contents_any db gb N cap s e none 128 o _ (keepB hD (belowAlloc _ _)) (by omega) heN hN hNc).mono ?_
  rintro r w1 ⟨⟨a, rfl, ha⟩, hS1⟩
  obtain rfl := ha (by omega)
  have hB1 := hS1.new
  obtain ⟨⟨b0, b1, b2, b3⟩, _⟩ := cells4 hB1
  have hSw := hS1.then (Since.of (belowAlloc w _))
  clear hS1 hB1
  go_wp2_with fail
  refine (constructed_any 128 o s e _).mono ?_
  rintro r w2 ⟨rfl, hS2'⟩
  have hS2 := (Since.of hS2').then hSw
  rw [hbit]
  clear b0 b1 b2 b3 hSw hS2'
  have hgt : ¬ ((e - s : Nat) = 0) := by omega
  have hgt' : (((e - s : Nat) : Int) == 0) = false := beq_eq_false_iff_ne.2 (by omega)
  go_wp2
  have hcw : ∀ j, j < l.length → w2.cell? ⟨gb, s + j, none⟩ = some (.int .u8 (l.getD j 0)) := fun j hj => hS2.cell (hc j hj)
  clear hc hD hgt hgt'
  go_loop [6] (fun v => ∃ p n c : Nat, v = .slice (some ⟨gb, p, none⟩) n c ∧ Hid (s ≤ p ∧ p + n = e ∧ p + c = cap) ∧ 1 ≤ n ∧ n ≤ c ∧ n ≤ 1000 ∧ Hid (strip (l.drop (p - s)) = strip l) ∧ Hid (l.getD (p - s) 0 < 128)) (fun v => sLen v)
  case atStart => exact ⟨s, e - s, cap - s, rfl, ⟨Nat.le_refl _, by omega, by omega⟩, by omega, by omega, by omega, by rw [Nat.sub_self]; exact rfl, by rw [Nat.sub_self]; exact hhead⟩
  case round =>
    obtain ⟨p, n, c, rfl, hp, hn1, hnc, hn1000, hst, hhd⟩ := hrel
    obtain ⟨hp1, hp2, hp3⟩ := hp.out
    have h0 := hcw (p - s) (by omega)
    rw [show s + (p - s) = p by omega] at h0
    have m0 := hby (l.getD (p - s) 0) (by rw [List.getD_eq_getElem?_getD, List.getElem?_eq_getElem (by omega)]; exact List.getElem_mem _)
    have hd0 : l.drop (p - s) = l.getD (p - s) 0 :: l.drop (p - s + 1) := by
      rw [List.drop_eq_getElem_cons (by omega)]
      simp [show p - s < l.length by omega]
    have hlt := hhd.out
    obtain ⟨x, hx⟩ : ∃ x, l.getD (p - s) 0 = x := ⟨_, rfl⟩
    rw [hx] at h0 m0 hd0 hlt
    have HP : Hid (s ≤ p ∧ p + n = e ∧ p + c = cap) := hp
    by_cases hn2 : n = 1
    · subst hn2
      have hfin : val (strip l) = x := by
        rw [← hst.out, hd0, List.drop_eq_nil_of_le (by omega)]
        simp [strip, val]
      have HF : Hid (val (strip l) = x) := hfin
      have h2 : decide ((1 : Int) < ((1 : Nat) : Int)) = false := by decide
      clear hx hd0 hp2 hp3 hl hhead hfin hcw
      by_cases hc1 : c = 1
      · subst hc1
        go_wp2
        refine wp_loop_rounds 1 ?_
        rw [rounds_succ]
        go_wp2
        go_ret2
        exact ⟨by rw [HF.out]; rfl, hS2⟩
      · go_wp2
        refine wp_loop_rounds 1 ?_
        rw [rounds_succ]
        go_wp2
        go_ret2
        exact ⟨by rw [HF.out]; rfl, hS2⟩
    · have h1 := hcw (p - s + 1) (by omega)
      rw [show s + (p - s + 1) = p + 1 by omega] at h1
      have m1 := hby (l.getD (p - s + 1) 0) (by rw [List.getD_eq_getElem?_getD, List.getElem?_eq_getElem (by omega)]; exact List.getElem_mem _)
      have hd1 : l.drop (p - s + 1) = l.getD (p - s + 1) 0 :: l.drop (p - s + 1 + 1) := by
        rw [List.drop_eq_getElem_cons (by omega)]
        simp [show p - s + 1 < l.length by omega]
      obtain ⟨y, hy⟩ : ∃ y, l.getD (p - s + 1) 0 = y := ⟨_, rfl⟩
      rw [hy] at h1 m1 hd1
      rw [hd1] at hd0
      have hand := and128 y m1.1 m1.2
      obtain ⟨n, rfl⟩ : ∃ k, n = k + 2 := ⟨n - 2, by omega⟩
      obtain ⟨c, rfl⟩ : ∃ k, c = k + 2 := ⟨c - 2, by omega⟩
      have hn2' : (1 : Int) < ((n + 2 : Nat) : Int) := by omega
      by_cases hgo : x = 0 ∧ y < 128
      · obtain ⟨rfl, hy128⟩ := hgo
        rw [if_pos hy128] at hand
        have HX : Hid (l.getD (p - s) 0 = 0) := hx
        have HY : Hid (l.getD (p - s + 1) 0 = y) := hy
        have HD : Hid (l.drop (p - s) = 0 :: y :: l.drop (p - s + 1 + 1)) := hd0
        have HD1 : Hid (l.drop (p - s + 1) = y :: l.drop (p - s + 1 + 1)) := hd1
        clear hx hy hd0 hd1 hp2 hp3 hl hhead
        go_wp2
        go_round
        case rel =>
          refine ⟨p + 1, n + 1, c + 1, by first | rfl | simp, ?_, by omega, by omega, by omega, ?_, ?_⟩
          · have := HP.out; exact ⟨by omega, by omega, by omega⟩
          · show strip (l.drop (p + 1 - s)) = strip l
            rw [← hst.out, HD.out, show p + 1 - s = p - s + 1 by omega, HD1.out]
            simp [strip, hy128]
          · show l.getD (p + 1 - s) 0 < 128
            rw [show p + 1 - s = p - s + 1 by omega, HY.out]; exact hy128
        case measure => simp [sLen]
      · have hsd : strip l = l.drop (p - s) := by
          rw [← hst.out, hd0]
          simp only [strip]
          rw [if_neg hgo]
        have hn3 : n + 2 ≤ 3 := by
          have e1 : (strip l).length = n + 2 := by rw [hsd, List.length_drop]; omega
          omega
        obtain ⟨L, HL⟩ : ∃ L, Hid (L = l.drop (p - s)) := ⟨_, rfl⟩
        have hLlen : L.length = n + 2 := by rw [HL.out, List.length_drop]; omega
        have hLb : ∀ q ∈ L, 0 ≤ q ∧ q < 256 := fun q hq => hby q (List.mem_of_mem_drop (by rw [← HL.out]; exact hq))
        have hLc : ∀ j, j < n + 2 → w2.cell? ⟨gb, p + j, none⟩ = some (.int .u8 (L.getD j 0)) := by
          intro j hj
          have := hcw (p - s + j) (by omega)
          rw [show s + (p - s + j) = p + j by omega] at this
          rw [this, HL.out]
          simp
        have HF : Hid (strip l = L) := hsd.trans HL.out.symm
        have hLform : L = x :: y :: l.drop (p - s + 1 + 1) := by rw [HL.out, hd0]
        have hor := or_i64 x y m0.1 (by omega) m1.1 m1.2
        clear hx hy hd0 hd1 hp2 hp3 hhead hcw hsd
        have hx255 : (x == 255) = false := beq_eq_false_iff_ne.2 (by omega)
        have hcase : n = 0 ∨ n = 1 := by omega
        rcases hcase with rfl | rfl
        · have hval : val (strip l) = x * 256 + y := by
            rw [HF.out, hLform]
            have : l.drop (p - s + 1 + 1) = [] := by
              have := congrArg List.length hLform
              simp [hLlen] at this
              exact List.drop_eq_nil_of_le (by omega)
            rw [this]; simp [val]
          have HV : Hid (val (strip l) = x * 256 + y) := hval
          clear hval hLform hLlen hLc hLb HL HF hl
          by_cases hx0 : x = 0
          · subst hx0
            have hy128 : ¬ y < 128 := fun h => hgo ⟨rfl, h⟩
            rw [if_neg hy128] at hand
            have hor0 : bits .or .i64 0 y = y := by simpa using or_i64 0 y (by omega) (by omega) m1.1 m1.2
            clear hor
            go_wp2
            refine wp_loop_rounds 2 ?_
            rw [rounds_succ]
            go_wp2
            rw [rounds_succ]
            go_wp2
            go_ret2
            exact ⟨by rw [HV.out]; simp, hS2⟩
          · have hx0' : (x == 0) = false := beq_eq_false_iff_ne.2 hx0
            go_wp2
            refine wp_loop_rounds 2 ?_
            rw [rounds_succ]
            go_wp2
            rw [rounds_succ]
            go_wp2
            go_ret2
            exact ⟨by rw [HV.out]; rfl, hS2⟩
        · obtain ⟨z, hz⟩ : ∃ z, L = [x, y, z] := by
            have := congrArg List.length hLform
            simp [hLlen] at this
            match h : l.drop (p - s + 1 + 1) with
            | [z] => exact ⟨z, by rw [hLform, h]⟩
            | [] => have := congrArg List.length h; simp at this; omega
            | _ :: _ :: _ => have := congrArg List.length h; simp at this; omega
          have h2 := hLc 2 (by omega)
          have m2 := hLb z (by rw [hz]; simp)
          rw [hz] at h2
          have h2 : w2.cell? ⟨gb, p + 1 + 1, none⟩ = some (.int .u8 z) := h2
          have hor2 := or_i64 (x * 256 + y) z (by omega) (by omega) m2.1 m2.2
          have HV : Hid (val (strip l) = (x * 256 + y) * 256 + z) := by
            show val (strip l) = _
            rw [HF.out, hz]; simp [val]
          clear hz hLform hLlen hLc hLb HL HF hl
          by_cases hx0 : x = 0
          · subst hx0
            have hy128 : ¬ y < 128 := fun h => hgo ⟨rfl, h⟩
            rw [if_neg hy128] at hand
            have hor0 : bits .or .i64 0 y = y := by simpa using or_i64 0 y (by omega) (by omega) m1.1 m1.2
            have hor2' := or_i64 y z m1.1 (by omega) m2.1 m2.2
            clear hor hor2
            go_wp2
            refine wp_loop_rounds 3 ?_
            rw [rounds_succ]
            go_wp2
            rw [rounds_succ]
            go_wp2
            rw [rounds_succ]
            go_wp2
            go_ret2
            exact ⟨by rw [HV.out]; simp, hS2⟩
          · have hx0' : (x == 0) = false := beq_eq_false_iff_ne.2 hx0
            go_wp2
            refine wp_loop_rounds 3 ?_
            rw [rounds_succ]
            go_wp2
            rw [rounds_succ]
            go_wp2
            rw [rounds_succ]
            go_wp2
            go_ret2
            exact ⟨by rw [HV.out]; rfl, hS2⟩
end Go.Proofs.YbulkcvzcFmt
