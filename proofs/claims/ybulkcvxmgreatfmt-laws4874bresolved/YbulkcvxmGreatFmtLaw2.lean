/- The law (3): what its last loops carry. -/
import Derived.Test.YbulkcvxmGreatFmtLaw1
set_option linter.unusedSimpArgs false
set_option linter.unusedVariables false
namespace Go.Proofs.YbulkcvxmGreatFmt
open Go.RowKit

def wantL (S : Nat → Bool) (m : Nat) : List ByteArray := ((List.range m).filter S).map codeS
theorem wantL_yes {S : Nat → Bool} {m : Nat} (h : S m = true) : wantL S (m + 1) = wantL S m ++ [codeS m] := by
  unfold wantL
  rw [List.range_succ, List.filter_append]
  simp [h]
theorem wantL_no {S : Nat → Bool} {m : Nat} (h : S m = false) : wantL S (m + 1) = wantL S m := by
  unfold wantL
  rw [List.range_succ, List.filter_append]
  simp [h]
theorem wantL_len (S : Nat → Bool) (m : Nat) : (wantL S m).length ≤ m := by
  unfold wantL
  rw [List.length_map]
  have := List.length_filter_le S (List.range m)
  simpa using this
theorem mem_wantL {S : Nat → Bool} {m : Nat} {s : ByteArray} : s ∈ wantL S m ↔ ∃ v, v < m ∧ S v = true ∧ s = codeS v := by
  unfold wantL
  simp only [List.mem_map, List.mem_filter, List.mem_range]
  constructor
  · rintro ⟨v, ⟨h1, h2⟩, rfl⟩; exact ⟨v, h1, h2, rfl⟩
  · rintro ⟨v, h1, h2, rfl⟩; exact ⟨v, ⟨h1, h2⟩, rfl⟩
theorem wantL_nodup (S : Nat → Bool) (m : Nat) : ((wantL S m).map (·.data.toList)).Nodup := by
  unfold wantL
  rw [List.map_map]
  have h1 : ((List.range m).filter S).Nodup := (List.nodup_range).filter _
  refine List.Pairwise.map _ ?_ h1
  intro a b hab e
  apply hab
  refine codeS_inj ?_
  have h3 : (codeS a).data = (codeS b).data := Array.toList_inj.1 e
  cases hA : codeS a; cases hB : codeS b
  rw [hA, hB] at h3
  simp only at h3
  rw [h3]
/-- The want list, sorted, is the role's codes. -/
theorem want_codes {E : Nat → List Nat} {S : Nat → Bool} {n k : Nat} {l0 K : List ByteArray} (hK : K = codesOf l0) (hm : ∀ s, s ∈ K ↔ ∃ v, Reach E k v ∧ s = codeS v) (hS : ∀ v, S v = true ↔ Reach E k v) (hn : ∀ v, Reach E k v → v < n) :
    ((wantL S n).map (·.data.toList)).mergeSort (fun x y => decide (x ≤ y)) = K.map (·.data.toList) := by
  subst hK
  refine sorted_eq (wantL_nodup S n) (fun s => ?_)
  rw [hm, List.mem_map]
  constructor
  · rintro ⟨t, ht, e⟩
    obtain ⟨v, h1, h2, rfl⟩ := mem_wantL.1 ht
    refine ⟨v, (hS v).1 h2, ?_⟩
    have h3 : (codeS v).data = s.data := Array.toList_inj.1 e
    cases hA : codeS v; cases hB : s
    rw [hA, hB] at h3
    simp only at h3
    rw [h3]
  · rintro ⟨v, hv, rfl⟩
    exact ⟨codeS v, mem_wantL.2 ⟨v, hn v hv, (hS v).2 hv, rfl⟩, rfl⟩

/-- What the loop over the seen roles carries. -/
structure Sn (I : Nat → Rin) (S : Nat → Bool) (W7 : World) (ab bk : Nat) (m : Nat) (wv : Value) (A B : Nat → Bool) (ext : Nat → Nat) (Wl : List ByteArray) (w : World) : Prop where
  bt : Bt ab bk W7 w
  ca : Cells w ab 59 4 (fun x => .bool (A x))
  cb : Cells w bk 59 4 (fun x => .bool (B x))
  row : RowL w W7.heap.size 9 1 strC wv Wl
  cm : ∀ x, x < 4 → (comb A B x : Int) = max (greatest (fun v => (gz (gOf I v) x : Int)) S 0 m) (ext x : Int)
section
variable {Wg : List Nat} {I : Nat → Rin} {S : Nat → Bool} {W7 w w' : World} {ab bk m : Nat} {wv : Value} {A B : Nat → Bool} {ext : Nat → Nat} {Wl : List ByteArray}
theorem Sn.since (h : Sn I S W7 ab bk m wv A B ext Wl w) (hs : Since w w') : Sn I S W7 ab bk m wv A B ext Wl w' := ⟨h.bt.since hs, h.ca.since hs, h.cb.since hs, h.row.since hs, h.cm⟩
theorem Sn.app (h : Sn I S W7 ab bk m wv A B ext Wl w) (hg : w.grownBy w' wv.ownBlock) {wv' : Value} {Wl' : List ByteArray} (hr : RowL w' W7.heap.size 9 1 strC wv' Wl') : Sn I S W7 ab bk m wv' A B ext Wl' w' := by
  have hk : Kx [9] [] w w' := Kx.app hg h.row (by simp)
  refine ⟨⟨hg.os.trans h.bt.os, hg.tape.trans h.bt.tape, hg.output.trans h.bt.output, Nat.le_trans h.bt.size hg.size, fun i hi h1 h2 => (hg.block i (Nat.lt_of_lt_of_le hi h.bt.size) (fun e => by have := (h.row.base_ge i e.symm).1; omega)).trans (h.bt.block i hi h1 h2)⟩, h.ca.kx hk (by simp), h.cb.kx hk (by simp), hr, h.cm⟩
theorem Sn.skip (h : Sn I S W7 ab bk m wv A B (fun _ => 0) Wl w) (hm : S m = false) : Sn I S W7 ab bk (m + 1) wv A B (fun _ => 0) Wl w :=
  ⟨h.bt, h.ca, h.cb, h.row, fun x hx => by
    rw [h.cm x hx]
    have e : greatest (fun v => (gz (gOf I v) x : Int)) S 0 (m + 1) = greatest (fun v => (gz (gOf I v) x : Int)) S 0 m := by
      show (if S m = true then _ else _) = _
      rw [hm]; rfl
    rw [e]⟩
theorem greatest_ge {own : Nat → Int} {S : Nat → Bool} {a : Int} {n : Nat} : a ≤ greatest own S a n := le_greatest.1
theorem Sn.close (h : Sn I S W7 ab bk m wv A B (gz (gOf I m)) Wl w) (hm : S m = true) : Sn I S W7 ab bk (m + 1) wv A B (fun _ => 0) Wl w :=
  ⟨h.bt, h.ca, h.cb, h.row, fun x hx => by
    rw [h.cm x hx]
    have e : greatest (fun v => (gz (gOf I v) x : Int)) S 0 (m + 1) = max (greatest (fun v => (gz (gOf I v) x : Int)) S 0 m) (gz (gOf I m) x : Int) := by
      show (if S m = true then _ else _) = _
      rw [if_pos hm]
    rw [e]
    have := greatest_ge (own := fun v => (gz (gOf I v) x : Int)) (S := S) (a := 0) (n := m)
    show _ = max _ ((0 : Nat) : Int)
    omega⟩
theorem Sn.alw (h : Sn I S W7 ab bk m wv A B (gz Wg) Wl w) {k8 : Nat} (h8 : k8 < 4) (hne : ab ≠ bk) (h1 : W7.heap.size > ab) (h2 : W7.heap.size > bk) : Sn I S W7 ab bk m wv (upd A k8 true) B (gz (Wg ++ [k8])) Wl (w.setCell ⟨ab, k8, none⟩ (.bool true)) := by
  have hk : Kx [59] [] w (w.setCell ⟨ab, k8, none⟩ (.bool true)) := h.ca.kxset (by simp)
  refine ⟨⟨h.bt.os, h.bt.tape, h.bt.output, Nat.le_trans h.bt.size (But.set ab k8 (.bool true) w).size, fun i hi a1 a2 => ((But.set ab k8 (.bool true) w).block i (Nat.lt_of_lt_of_le hi h.bt.size) a1).trans (h.bt.block i hi a1 a2)⟩, (h.ca.set (x := k8) (by omega) (.bool true)).congr (fun x hx => ?_), (But.set ab k8 (.bool true) w).cells h.cb (Ne.symm hne), hk.row h.row (by simp), fun x hx => ?_⟩
  · by_cases e : x = k8
    · subst e; rw [upd_same, upd_same]
    · rw [upd_ne _ _ e, upd_ne _ _ e]
  · rw [comb_alw A B h8 x, gz_snoc']
    have := h.cm x hx
    split <;> omega
theorem Sn.grd (h : Sn I S W7 ab bk m wv A B (gz Wg) Wl w) {k8 : Nat} (h8 : ¬ k8 < 4) (hne : ab ≠ bk) : Sn I S W7 ab bk m wv A (upd B (k8 % 4) true) (gz (Wg ++ [k8])) Wl (w.setCell ⟨bk, k8 % 4, none⟩ (.bool true)) := by
  have hk : Kx [59] [] w (w.setCell ⟨bk, k8 % 4, none⟩ (.bool true)) := h.cb.kxset (by simp)
  refine ⟨⟨h.bt.os, h.bt.tape, h.bt.output, Nat.le_trans h.bt.size (But.set bk (k8 % 4) (.bool true) w).size, fun i hi a1 a2 => ((But.set bk (k8 % 4) (.bool true) w).block i (Nat.lt_of_lt_of_le hi h.bt.size) a2).trans (h.bt.block i hi a1 a2)⟩, (But.set bk (k8 % 4) (.bool true) w).cells h.ca hne, (h.cb.set (x := k8 % 4) (by omega) (.bool true)).congr (fun x hx => ?_), hk.row h.row (by simp), fun x hx => ?_⟩
  · by_cases e : x = k8 % 4
    · subst e; rw [upd_same, upd_same]
    · rw [upd_ne _ _ e, upd_ne _ _ e]
  · rw [comb_grd A B h8 x, gz_snoc']
    have := h.cm x hx
    split <;> omega
theorem Sn.since0 {Wd : World} (h : Sn I S W7 ab bk m wv A B ext Wl w) (hs : Since Wd W7) (h1 : Wd.heap.size ≤ ab) (h2 : Wd.heap.size ≤ bk) : Since Wd w :=
  ⟨h.bt.os.trans hs.out.os, h.bt.tape.trans hs.out.tape, h.bt.output.trans hs.out.output, Nat.le_trans hs.size h.bt.size, fun i hi => (h.bt.block i (Nat.lt_of_lt_of_le hi hs.size) (by omega) (by omega)).trans (hs.out.block i hi)⟩
end
/-- How many of the rules below x are exact; by prefix. -/
def nE (Z : Nat → Nat) (x : Nat) : Nat := one (decide (0 < x) && decide (Z 0 ≠ 0)) + one (decide (1 < x) && decide (Z 1 ≠ 0))
def nP (Z : Nat → Nat) (x : Nat) : Nat := one (decide (2 < x) && decide (Z 2 ≠ 0)) + one (decide (3 < x) && decide (Z 3 ≠ 0))
theorem nE_le (Z : Nat → Nat) (x : Nat) : nE Z x ≤ 2 := by
  unfold nE one
  split <;> split <;> omega
theorem nP_le (Z : Nat → Nat) (x : Nat) : nP Z x ≤ 2 := by
  unfold nP one
  split <;> split <;> omega
theorem ext2 : (⟨#[100, 58, 42]⟩ : ByteArray).extract 0 2 = ⟨#[100, 58]⟩ := by kernel_rfl
theorem ext3 : (⟨#[42]⟩ : ByteArray).extract 0 0 = ⟨#[]⟩ := by kernel_rfl
theorem cnt_me (Z : Nat → Nat) : cnt (me Z) = nE Z 4 := by
  simp [cnt, nE, me, one]
theorem cnt_mp (Z : Nat → Nat) : cnt (mp Z) = nP Z 4 := by
  simp [cnt, nP, mp, one]
end Go.Proofs.YbulkcvxmGreatFmt
