/- The order of strings, the comparator (32), SortFunc (31) over a block of strings. -/
import Derived.Test.YbulkcvxmGreatFmtCompact
import Derived.Test.YbulkcvxmGreatFmtShelf
import Derived.Test.YbulkcvxmGreatFmtSortL
import Derived.BigQuiet
set_option linter.unusedSimpArgs false
set_option linter.unusedVariables false
namespace Go.Proofs.YbulkcvxmGreatFmt
open Go.RowKit Go.Shelf Go.Sort

/-! ### the order -/
def ltL : List UInt8 → List UInt8 → Bool
  | [], [] => false
  | [], _ :: _ => true
  | _ :: _, [] => false
  | a :: az, b :: bs => if a < b then true else if b < a then false else ltL az bs
theorem ltL_eq : ∀ a b : List UInt8, decide (Lib.compareBytes a b < 0) = ltL a b
  | [], [] => by simp [Lib.compareBytes, ltL]
  | [], _ :: _ => by simp [Lib.compareBytes, ltL]
  | _ :: _, [] => by simp [Lib.compareBytes, ltL]
  | a :: az, b :: bs => by
    unfold Lib.compareBytes ltL
    split
    · simp
    · split
      · simp
      · exact ltL_eq az bs
theorem u8_tri {a b : UInt8} (h1 : ¬ a < b) (h2 : ¬ b < a) : a = b := UInt8.toNat_inj.1 (by rw [UInt8.lt_iff_toNat_lt] at *; omega)
theorem ltL_irrefl : ∀ a : List UInt8, ltL a a = false
  | [] => rfl
  | a :: az => by
    have h : ¬ a < a := by rw [UInt8.lt_iff_toNat_lt]; omega
    unfold ltL
    rw [if_neg h, if_neg h]
    exact ltL_irrefl az
theorem ltL_trans : ∀ a b c : List UInt8, ltL a b = true → ltL b c = true → ltL a c = true
  | [], [], _, h, _ => by simp [ltL] at h
  | [], _ :: _, [], _, h => by simp [ltL] at h
  | [], _ :: _, _ :: _, _, _ => rfl
  | _ :: _, [], _, h, _ => by simp [ltL] at h
  | _ :: _, _ :: _, [], _, h => by simp [ltL] at h
  | a :: az, b :: bs, c :: cs, h1, h2 => by
    unfold ltL at h1 h2 ⊢
    have e := UInt8.lt_iff_toNat_lt (a := a) (b := b)
    have e' := UInt8.lt_iff_toNat_lt (a := b) (b := a)
    have f := UInt8.lt_iff_toNat_lt (a := b) (b := c)
    have f' := UInt8.lt_iff_toNat_lt (a := c) (b := b)
    have g := UInt8.lt_iff_toNat_lt (a := a) (b := c)
    have g' := UInt8.lt_iff_toNat_lt (a := c) (b := a)
    by_cases p1 : a < b
    · by_cases p2 : b < c
      · rw [if_pos (g.2 (by have := e.1 p1; have := f.1 p2; omega))]
      · rw [if_neg p2] at h2
        by_cases p3 : c < b
        · rw [if_pos p3] at h2; cases h2
        · have := u8_tri p2 p3
          subst this
          rw [if_pos p1]
    · rw [if_neg p1] at h1
      by_cases p1' : b < a
      · rw [if_pos p1'] at h1; cases h1
      · rw [if_neg p1'] at h1
        have := u8_tri p1 p1'
        subst this
        by_cases p2 : a < c
        · rw [if_pos p2]
        · rw [if_neg p2] at h2 ⊢
          by_cases p3 : c < a
          · rw [if_pos p3] at h2; cases h2
          · rw [if_neg p3] at h2 ⊢
            exact ltL_trans az bs cs h1 h2
theorem ltL_tot : ∀ a b : List UInt8, ltL a b = false → ltL b a = false → a = b
  | [], [], _, _ => rfl
  | [], _ :: _, h, _ => by simp [ltL] at h
  | _ :: _, [], _, h => by simp [ltL] at h
  | a :: az, b :: bs, h1, h2 => by
    unfold ltL at h1 h2
    by_cases p : a < b
    · rw [if_pos p] at h1; cases h1
    · by_cases q : b < a
      · rw [if_pos q] at h2; cases h2
      · rw [if_neg p, if_neg q] at h1
        rw [if_neg q, if_neg p] at h2
        rw [u8_tri p q, ltL_tot az bs h1 h2]

def cfS (x y : ByteArray) : Int := Lib.compareBytes x.data.toList y.data.toList
/-- x comes before y. -/
def ltS (x y : ByteArray) : Bool := ltL x.data.toList y.data.toList
theorem ltOf_S : ltOf cfS = ltS := by funext x y; exact ltL_eq _ _
theorem ltS_irrefl (x : ByteArray) : ltS x x = false := ltL_irrefl _
theorem ltS_trans {x y z : ByteArray} (h1 : ltS x y = true) (h2 : ltS y z = true) : ltS x z = true := ltL_trans _ _ _ h1 h2
theorem ltS_tot {x y : ByteArray} (h1 : ltS x y = false) (h2 : ltS y x = false) : x = y := by
  have := ltL_tot _ _ h1 h2
  cases x; cases y
  simp at this
  rw [this]
theorem swoS : SWO (ltOf cfS) := by
  rw [ltOf_S]
  refine ⟨ltS_irrefl, fun x y z => ltS_trans, fun x y z h1 h2 => ?_⟩
  cases hxz : ltS x z with
  | false => rfl
  | true =>
    cases hyx : ltS y x with
    | true => rw [ltS_trans hyx hxz] at h2; cases h2
    | false =>
      have := ltS_tot h1 hyx
      subst this
      rw [h2] at hxz; cases hxz
theorem totS (x y : ByteArray) (h1 : ltOf cfS x y = false) (h2 : ltOf cfS y x = false) : x = y := by
  rw [ltOf_S] at h1 h2
  exact ltS_tot h1 h2

/-- x does not come behind y. -/
def leS (x y : ByteArray) : Bool := !ltS y x
def sortS (l : List ByteArray) : List ByteArray := l.mergeSort leS
theorem leS_trans (x y z : ByteArray) (h1 : leS x y = true) (h2 : leS y z = true) : leS x z = true := by
  unfold leS at *
  simp at *
  have h := swoS
  rw [ltOf_S] at h
  exact h.ntrans _ _ _ h2 h1
theorem leS_total (x y : ByteArray) : (leS x y || leS y x) = true := by
  unfold leS
  cases h : ltS y x with
  | false => rfl
  | true =>
    cases h' : ltS x y with
    | false => rfl
    | true =>
      have := ltS_trans h h'
      rw [ltS_irrefl] at this; cases this
theorem leS_anti (x y : ByteArray) (h1 : leS x y = true) (h2 : leS y x = true) : x = y := by
  unfold leS at *
  simp at *
  exact ltS_tot h2 h1
theorem sortS_sorted (l : List ByteArray) : (sortS l).Pairwise (fun x y => leS x y = true) := List.pairwise_mergeSort leS_trans leS_total l
theorem mem_sortS {x : ByteArray} {l : List ByteArray} : x ∈ sortS l ↔ x ∈ l := List.mem_mergeSort
theorem length_sortS (l : List ByteArray) : (sortS l).length = l.length := List.length_mergeSort l
/-- What sortedCodes makes of its lists. -/
def codesOf (l : List ByteArray) : List ByteArray := uniq (sortS l)
theorem mem_codesOf {x : ByteArray} {l : List ByteArray} : x ∈ codesOf l ↔ x ∈ l := by unfold codesOf; rw [mem_uniq, mem_sortS]
theorem codesOf_nodup (l : List ByteArray) : (codesOf l).Nodup := uniq_nodup leS_anti (sortS_sorted l)

/-! ### the comparator -/
@[go_sem] theorem as9_9 (v : Value) (w : World) : (Instr.typeAssert (.iface 9 v) 20 9 false).run Ybaz.prog w = .ok v w := by kernel_rfl
set_option maxRecDepth 100000 in
set_option maxHeartbeats 1000000 in
theorem closure_any (x y : ByteArray) (w : World) : Calls Ybaz.prog 33 #[.iface 9 (.string x), .iface 9 (.string y)] w fun r w' => r = .returned (.int .i64 (cfS x y)) ∧ ∃ q, w' = w.drewN q := by
  have hcon := fun W => Ybaz.strings_Compare x y W
  unfold cfS
  generalize Lib.compareBytes x.data.toList y.data.toList = c at hcon ⊢
  go_enter Ybaz.func33, Ybaz.ntmps33
  go_wp2
  go_quiet ((go_at_call 34; exact Calls.quiet_of_same (hcon _)))
  go_wp2
  go_ret
  exact ⟨rfl, _, rfl⟩

/-! ### the sort -/
def encS (s : ByteArray) : Value := .iface 9 (.string s)
theorem pre_len (A : Nat → ByteArray) (m : Nat) : (pre A m).length = m := by simp [pre]
theorem pre_get (A : Nat → ByteArray) {m x : Nat} (h : x < m) : (pre A m)[x]? = some (A x) := by simp [pre, h]
theorem pre_of (l : List ByteArray) : pre (fun x => l[x]!) l.length = l := by
  apply List.ext_getElem?
  intro x
  by_cases h : x < l.length
  · rw [pre_get _ h]; simp [h]
  · rw [List.getElem?_eq_none (by rw [pre_len]; omega), List.getElem?_eq_none (by omega)]
theorem sort_any (g cap m : Nat) (A : Nat → ByteArray) (w : World) (h : Strs w g cap m A) (hm : m ≤ 1000000) :
    Calls Ybaz.prog 32 #[.slice (some ⟨g, 0, none⟩) m cap, .func (.func 33) #[] #[]] w fun r w' => r = .returned (.tuple #[]) ∧ But g w w' ∧ ∃ B, Strs w' g cap m B ∧ pre B m = sortS (pre A m) := by
  have eg : ∀ args w, (callFunc 33 args).run Ybaz.prog w = .ok (.enter 33 args) w := enters_of Ybaz.func33 (by kernel_rfl) rfl
  have hc : CmpReads Ybaz.prog 33 #[] encS cfS g 0 m w := fun _ _ _ _ x y => closure_any x y _
  have hds : (pre A m).toArray.size = m := by simp [pre_len]
  have hget : ∀ x, x < m → (pre A m).toArray[x]! = A x := fun x hx => by
    have := pre_get A hx
    simp [this]
  have hH : Holds encS w g 0 (pre A m).toArray := fun j hj => by
    rw [hds] at hj
    rw [hget j hj, Nat.zero_add]
    exact ⟨h.cell hj, h.frozen j⟩
  have hc' : CmpLays1 Ybaz.prog 33 #[] encS cfS g 0 (pre A m).toArray.size w := by rw [hds]; exact hc.lays
  have hS := Any.slices_SortFunc_total Ybaz.sortL encS (fun _ => rfl) cfS swoS 33 #[] g 0 cap (pre A m).toArray w eg hc' hH h.lt (by rw [hds]; omega) totS
  rw [hds, ltOf_S] at hS
  change Calls Ybaz.prog 32 _ _ _ at hS
  refine hS.mono ?_
  rintro r w' ⟨rfl, n, os, rfl⟩
  have hlen : (sortS (pre A m)).length = m := by rw [length_sortS, pre_len]
  have e0 : ((pre A m).toArray.toList.mergeSort fun x y => !ltS y x) = sortS (pre A m) := rfl
  rw [e0]
  obtain ⟨cs, h1, h2, h3⟩ := h.ex
  have hmc := h.mc
  have hlt := h.lt
  refine ⟨rfl, ⟨rfl, rfl, rfl, ?_, fun i hi hn => ?_⟩, fun x => (sortS (pre A m))[x]!, ⟨⟨putCells encS 0 (sortS (pre A m)).toArray cs, ?_, ?_, fun x hx => ?_⟩, hmc⟩, ?_⟩
  · simp [sortWorld]
  · show ((putRow encS (Go.Sort.ahead w n) g 0 (sortS (pre A m)).toArray).heap ++ os)[i]? = _
    rw [Array.getElem?_append_left (by simpa using hi)]
    simp [putRow, mapBlock, Array.getElem?_modify, Ne.symm hn]
  · show ((putRow encS (Go.Sort.ahead w n) g 0 (sortS (pre A m)).toArray).heap ++ os)[g]? = _
    rw [Array.getElem?_append_left (by simpa using hlt)]
    simp [putRow, mapBlock, Array.getElem?_modify, h1, onCells]
  · simp [putCells, h2]
  · have hxc : x < cs.size := by omega
    simp [putCells, Array.getElem?_mapIdx, hlen, hx, hxc, encS]
  · have e := pre_of (sortS (pre A m))
    rw [hlen] at e
    exact e

/-! ### sortedCodes -/
theorem RowL.strs {w : World} {base : Nat} {v : Value} {L : List ByteArray} (h : RowL w base 20 1 anC v L) (hne : L ≠ []) :
    ∃ g cap, v = .slice (some ⟨g, 0, none⟩) L.length cap ∧ base ≤ g ∧ cap ≤ maxLen ∧ Strs w g cap L.length (fun x => L[x]!) := by
  rcases h.own.2 with ⟨_, h0⟩ | ⟨g, cap, cur, hv, hb, hg, h1, h2, h3, h4⟩
  · exact absurd (List.eq_nil_of_length_eq_zero h0) hne
  · refine ⟨g, cap, hv, hb, h2, ⟨⟨cur, hg, by omega, fun x hx => ?_⟩, h1⟩⟩
    have e := an_get L x
    rw [← h4, List.getElem?_take, if_pos (by omega), Array.getElem?_toList] at e
    rw [e]
    simp [hx]
theorem Strs.codes {w : World} {g cap m : Nat} {A : Nat → ByteArray} (h : Strs w g cap m A) (hm : m ≤ maxLen) : CodesL w (.slice (some ⟨g, 0, none⟩) m m) (pre A m) := by
  obtain ⟨cs, h1, h2, h3⟩ := h.ex
  refine ⟨g, m, cs, by rw [pre_len], by rw [pre_len]; exact Nat.le_refl _, hm, h1, fun k s hk => ?_⟩
  have hkm : k < m := by
    have := (List.getElem?_eq_some_iff.1 hk).1
    rwa [pre_len] at this
  rw [pre_get A hkm] at hk
  cases hk
  exact h3 k hkm

set_option maxRecDepth 100000 in
set_option maxHeartbeats 2000000 in
theorem sortedCodes_any (cv : Value) (LL : List (List ByteArray)) (w : World) (hL : Lists w cv LL) (h0 : LL ≠ []) (hm : LL.length ≤ 1100) :
    Calls Ybaz.prog 18 #[cv] w fun r w' => ∃ v, r = .returned v ∧ Since w w' ∧ CodesL w' v (codesOf LL.flatten) := by
  obtain ⟨VS, hR, hlen, hEach⟩ := hL.ex
  have hfl : LL.flatten.length ≤ 1000000 ∧ LL.flatten ≠ [] := by
    have hb : ∀ l : List (List ByteArray), (∀ L ∈ l, L.length ≤ 300) → l.flatten.length ≤ l.length * 300 := fun l => by
      induction l with
      | nil => intro _; simp
      | cons a l ih =>
        intro hl
        have g1 := hl a (by simp)
        have g2 := ih (fun L hL => hl L (by simp [hL]))
        simp only [List.flatten_cons, List.length_append, List.length_cons]
        omega
    have he : ∀ L ∈ LL, L ≠ [] ∧ L.length ≤ 300 := fun L hL' => by
      obtain ⟨j, hj, hLj⟩ := List.getElem_of_mem hL'
      have ev : VS[j]? = some (VS[j]'(by omega)) := List.getElem?_eq_getElem (by omega)
      exact (hEach j _ L ev (by rw [List.getElem?_eq_getElem hj, hLj])).2
    refine ⟨by have := hb LL (fun L hL' => (he L hL').2); omega, fun e => ?_⟩
    cases LL with
    | nil => exact h0 rfl
    | cons a l =>
      have := (he a (by simp)).1
      simp at e
      exact this e.1
  obtain ⟨hf1, hf2⟩ := hfl
  obtain ⟨ca, ccap, rfl, _⟩ := hR.form
  clear hR hEach
  have hcon := concat_any _ LL w hL hm
  clear hL hlen h0
  generalize LL.flatten = T at *
  obtain ⟨A, hA⟩ : ∃ A : Nat → ByteArray, A = fun x => T[x]! := ⟨_, rfl⟩
  have HA : Hid (pre A T.length = T) := ⟨by rw [hA]; exact pre_of T⟩
  have HS : Hid (∀ v1 w1, RowL w1 w.heap.size 20 1 anC v1 T → ∃ g cap, v1 = .slice (some ⟨g, 0, none⟩) T.length cap ∧ w.heap.size ≤ g ∧ cap ≤ maxLen ∧ Strs w1 g cap T.length A) := ⟨fun v1 w1 h => by rw [hA]; exact h.strs hf2⟩
  clear hA
  have hpos : 0 < T.length := List.length_pos_iff.2 hf2
  clear hf2
  obtain ⟨m, hmT⟩ : ∃ m, m = T.length := ⟨_, rfl⟩
  rw [← hmT] at HA HS hpos hf1
  clear hmT
  go_enter Ybaz.func18, Ybaz.ntmps18
  go_wp2_with fail
  refine hcon.mono ?_
  rintro r1 w1 ⟨v1, rfl, hS1, hR1⟩
  obtain ⟨g, cap, rfl, hbg, hcm, hst⟩ := HS.out _ _ hR1
  have hcap1 := hst.mc
  clear hR1
  go_wp2_with fail
  refine (sort_any g cap m A w1 hst hf1).mono ?_
  rintro r2 w2 ⟨rfl, hB2, B, hst2, hB⟩
  go_wp2_with fail
  refine (compact_any g cap _ B w2 hst2 (by omega) hf1 hcm).mono ?_
  rintro r3 w3 ⟨hB3, m', C, rfl, hm1, hm2, hst3, hC⟩
  go_wp2_with fail
  refine (clip_any g m' cap w3 hst3.mc hcm).mono ?_
  rintro r4 w4 ⟨rfl, rfl⟩
  go_wp2
  go_ret
  refine ⟨_, rfl, (hS1.but hB2 hbg).but hB3 hbg, ?_⟩
  have := hst3.codes (by unfold maxLen; omega)
  rw [hC, hB, HA.out] at this
  exact this
end Go.Proofs.YbulkcvxmGreatFmt
