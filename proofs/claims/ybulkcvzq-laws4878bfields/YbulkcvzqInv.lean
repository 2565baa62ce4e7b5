import Derived.Orders
import Derived.Below
/-! A region that draws its order, walked by what each operation leaves, whatever the order: a general law over any program. -/
namespace Go.Inv
open Go Go.RowKit

variable {P : Program} {ops : Array Oper} {Q : Exit → Act → World → Prop}

/-- Each edge that binds leads to an earlier operation. -/
def Earlier (ops : Array Oper) : Bool :=
  (List.range ops.size).all fun i => match ops[i]? with
    | some o => o.after.all fun e => !Region.binds .any e || decide (e.on < i)
    | none => true

theorem Earlier.spec (h : Earlier ops = true) {i : Nat} {o : Oper} (ho : ops[i]? = some o) {e : Edge} (he : e ∈ o.after) (hb : Region.binds .any e = true) : e.on < i := by
  simp only [Earlier, List.all_eq_true, List.mem_range] at h
  have h1 := h i (Array.getElem?_eq_some_iff.1 ho).1
  simp only [ho, Array.all_eq_true_iff_forall_mem] at h1
  have h2 := h1 e he
  simpa [hb] using h2

theorem ready_nil (h : Earlier ops = true) {L : Array Bool} (hr : Region.ready .any ops L = []) : ∀ i, i < ops.size → L.getD i true = true := by
  intro i
  induction i using Nat.strongRecOn with
  | ind i ih =>
    intro hi
    cases hL : L.getD i true with
    | true => rfl
    | false =>
      exfalso
      have ho : ops[i]? = some ops[i] := Array.getElem?_eq_getElem hi
      have : i ∈ Region.ready .any ops L := by
        rw [mem_ready]
        refine ⟨hL, _, ho, fun e he hb => ?_⟩
        have hlt := Earlier.spec h ho he hb
        have h3 := ih e.on hlt (by omega)
        have hsz : i < L.size := by
          rcases Nat.lt_or_ge i L.size with h' | h'
          · exact h'
          · simp [Array.getElem?_eq_none h'] at hL
        have h4 : e.on < L.size := by omega
        simp [h4] at h3 ⊢
        exact h3
      rw [hr] at this
      cases this

theorem wpAny_inv (I : Array Bool → Act → World → Prop) (hE : Earlier ops = true)
    (hs : ∀ (L : Array Bool) (i : Nat) (o : Oper) (a : Act) (w : World), L.size = ops.size → I L a w → ops[i]? = some o → L.getD i true = false →
      (∀ e ∈ o.after, Region.binds .any e = true → L.getD e.on false = true) → wpOp P ops Q i (I (L.setIfInBounds i true)) a w)
    (hend : ∀ (L : Array Bool) (a : Act) (w : World), L.size = ops.size → I L a w → (∀ i, i < ops.size → L.getD i true = true) → Q .normal a w) :
    ∀ (fuel : Nat) (L : Array Bool) (a : Act) (w : World), L.size = ops.size → L.toList.count false ≤ fuel → I L a w → wpAny P .any ops Q fuel L a w := by
  intro fuel
  induction fuel with
  | zero =>
    intro L a w hsz hc hI
    have hall : ∀ i, i < ops.size → L.getD i true = true := by
      intro i hi
      have hi' : i < L.size := by omega
      cases hL : L[i] with
      | true => simp [hi', hL]
      | false =>
        exfalso
        have hm : false ∈ L.toList := by
          have := Array.getElem_mem (xs := L) hi'
          rw [hL] at this
          exact Array.mem_toList_iff.2 this
        have := List.count_pos_iff.2 hm
        omega
    refine ⟨?_, hend L a w hsz hI hall⟩
    cases hr : Region.ready .any ops L with
    | nil => rfl
    | cons j rest =>
      have hj : j ∈ Region.ready .any ops L := by rw [hr]; exact List.mem_cons_self ..
      obtain ⟨h0, o, ho, _⟩ := mem_ready.1 hj
      have := hall j (Array.getElem?_eq_some_iff.1 ho).1
      rw [h0] at this
      cases this
  | succ fuel ih =>
    intro L a w hsz hc hI
    refine ⟨fun hr => hend L a w hsz hI (ready_nil hE hr), fun i hi => ?_⟩
    obtain ⟨h0, o, ho, hall⟩ := mem_ready.1 hi
    have hil : i < L.size := by have := (Array.getElem?_eq_some_iff.1 ho).1; omega
    refine wpOp_mono (fun a' w' hI' => ih _ a' w' (by simpa using hsz) ?_ hI') (hs L i o a w hsz hI ho h0 hall)
    have hLi : L.toList[i]? = some false := by
      simp [hil] at h0
      simp [hil, h0]
    have : ((L.setIfInBounds i true).toList).count false + 1 = L.toList.count false := by
      rw [Array.toList_setIfInBounds]
      have hlt : i < L.toList.length := by simpa using hil
      rw [List.count_set hlt]
      have e : L.toList[i] = false := (List.getElem?_eq_some_iff.1 hLi).2
      simp only [e]
      have hm : 0 < L.toList.count false := List.count_pos_iff.2 (by rw [← e]; exact List.getElem_mem _)
      rw [if_pos (by decide), if_neg (by decide)]
      omega
    omega

theorem wp_region_inv {id : Nat} {a : Act} {w : World} (hm : P.follows .mixedOrders = true) (hE : Earlier ops = true)
    (I : Array Bool → Act → World → Prop) (h0 : I (Array.replicate ops.size false) a { w with drawn := w.drawn + 1 })
    (hs : ∀ (L : Array Bool) (i : Nat) (o : Oper) (a : Act) (w : World), L.size = ops.size → I L a w → ops[i]? = some o → L.getD i true = false →
      (∀ e ∈ o.after, Region.binds .any e = true → L.getD e.on false = true) → wpOp P ops Q i (I (L.setIfInBounds i true)) a w)
    (hend : ∀ (L : Array Bool) (a : Act) (w : World), L.size = ops.size → I L a w → (∀ i, i < ops.size → L.getD i true = true) → Q .normal a w) :
    (Code.region id ops true).wp P Q a w :=
  wp_region_any hm (wpAny_inv I hE hs hend ops.size _ a _ (by simp) (by simp) h0)


/-- Slot t is written, if at all, by operation i itself or by operations that wait for i. -/
def Fresh (ops : Array Oper) (i t : Nat) : Bool :=
  (List.range ops.size).all fun j => match ops[j]? with
    | some oj => (oj.dst != some t) || j == i || oj.after.any (fun e => Region.binds .any e && e.on == i)
    | none => true

/-- No two operations write one slot; each slot lies within the frame. -/
def Distinct (ops : Array Oper) (n : Nat) : Bool :=
  (List.range ops.size).all fun i => match ops[i]? with
    | some oi => match oi.dst with
      | some d => decide (d < n) && (List.range i).all fun j => match ops[j]? with
          | some oj => oj.dst != some d
          | none => true
      | none => true
    | none => true

theorem Distinct.lt {n : Nat} (h : Distinct ops n = true) {i : Nat} {o : Oper} {d : Tmp} (ho : ops[i]? = some o) (hd : o.dst = some d) : d < n := by
  simp only [Distinct, List.all_eq_true, List.mem_range] at h
  have h1 := h i (Array.getElem?_eq_some_iff.1 ho).1
  simp only [ho, hd, Bool.and_eq_true, decide_eq_true_eq] at h1
  exact h1.1

theorem Distinct.ne {n : Nat} (h : Distinct ops n = true) {i j : Nat} {oi oj : Oper} {d : Tmp} (hi : ops[i]? = some oi) (hj : ops[j]? = some oj) (hij : i ≠ j) (hd : oi.dst = some d) : oj.dst ≠ some d := by
  simp only [Distinct, List.all_eq_true, List.mem_range] at h
  rcases Nat.lt_or_gt_of_ne hij with hlt | hlt
  · intro hdj
    have h1 := h j (Array.getElem?_eq_some_iff.1 hj).1
    simp only [hj, hdj, Bool.and_eq_true, decide_eq_true_eq, List.all_eq_true, List.mem_range] at h1
    have h2 := h1.2 i hlt
    simp [hi, hd] at h2
  · have h1 := h i (Array.getElem?_eq_some_iff.1 hi).1
    simp only [hi, hd, Bool.and_eq_true, decide_eq_true_eq, List.all_eq_true, List.mem_range] at h1
    have h2 := h1.2 j hlt
    simpa [hj] using h2

theorem Fresh.spec {i t : Nat} (h : Fresh ops i t = true) {j : Nat} {oj : Oper} (hj : ops[j]? = some oj) (hd : oj.dst = some t) (hji : j ≠ i) : ∃ e ∈ oj.after, Region.binds .any e = true ∧ e.on = i := by
  simp only [Fresh, List.all_eq_true, List.mem_range] at h
  have h1 := h j (Array.getElem?_eq_some_iff.1 hj).1
  simp only [hj, hd, bne_self_eq_false, Bool.false_or, Bool.or_eq_true, beq_iff_eq, hji, false_or] at h1
  obtain ⟨e, he, hb⟩ := Array.any_eq_true'.1 h1
  simp only [Bool.and_eq_true, beq_iff_eq] at hb
  exact ⟨e, he, hb.1, hb.2⟩

/-- The frame behind the region: each operation's value in its slot, in the text's order. -/
def putAll (ops : Array Oper) (vs : Nat → Value) (n : Nat) (a : Act) : Act :=
  (List.range n).foldl (fun a i => a.put ((ops[i]?).bind (·.dst)) (vs i)) a

theorem Act.eval_put_same {a : Act} {d : Tmp} {v : Value} (h : d < a.tmps.size) : (a.put (some d) v).eval (.tmp d) = v := by
  simp [Act.eval, Act.put, h]
theorem Act.size_put (a : Act) (d : Option Tmp) (v : Value) : (a.put d v).tmps.size = a.tmps.size := by
  cases d <;> simp [Act.put]
theorem Act.defers_put (a : Act) (d : Option Tmp) (v : Value) : (a.put d v).defers = a.defers := by
  cases d <;> simp [Act.put]
theorem Act.put_far {a : Act} {d : Option Tmp} {v : Value} {t : Nat} (h : d ≠ some t) : (a.put d v).eval (.tmp t) = a.eval (.tmp t) :=
  Act.eval_put fun d' hd' e => by cases e; exact h hd'

theorem putAll_succ (vs : Nat → Value) (n : Nat) (a : Act) : putAll ops vs (n + 1) a = (putAll ops vs n a).put ((ops[n]?).bind (·.dst)) (vs n) := by
  simp [putAll, List.range_succ]
theorem putAll_size (vs : Nat → Value) (n : Nat) (a : Act) : (putAll ops vs n a).tmps.size = a.tmps.size := by
  induction n with
  | zero => rfl
  | succ n ih => rw [putAll_succ, Act.size_put, ih]
theorem putAll_defers (vs : Nat → Value) (n : Nat) (a : Act) : (putAll ops vs n a).defers = a.defers := by
  induction n with
  | zero => rfl
  | succ n ih => rw [putAll_succ, Act.defers_put, ih]
theorem putAll_old (vs : Nat → Value) (n : Nat) (a : Act) (t : Nat) (h : ∀ j oj, j < n → ops[j]? = some oj → oj.dst ≠ some t) : (putAll ops vs n a).eval (.tmp t) = a.eval (.tmp t) := by
  induction n with
  | zero => rfl
  | succ n ih =>
    rw [putAll_succ, Act.put_far, ih fun j oj hj => h j oj (by omega)]
    cases ho : ops[n]? with
    | none => simp
    | some o => simpa using h n o (by omega) ho
theorem putAll_new (vs : Nat → Value) (n : Nat) (a : Act) (hD : Distinct ops a.tmps.size = true) {i : Nat} {o : Oper} {t : Tmp} (hi : i < n) (ho : ops[i]? = some o) (hd : o.dst = some t) : (putAll ops vs n a).eval (.tmp t) = vs i := by
  induction n with
  | zero => omega
  | succ n ih =>
    rw [putAll_succ]
    by_cases hin : i = n
    · subst hin
      rw [ho, Option.bind_some, hd, Act.eval_put_same]
      rw [putAll_size]
      exact Distinct.lt hD ho hd
    · rw [Act.put_far, ih (by omega)]
      cases hn : ops[n]? with
      | none => simp
      | some on => simpa using Distinct.ne hD ho hn hin hd

theorem Act.ext_eval {a b : Act} (hs : a.tmps.size = b.tmps.size) (hd : a.defers = b.defers) (h : ∀ t, t < a.tmps.size → a.eval (.tmp t) = b.eval (.tmp t)) : a = b := by
  obtain ⟨ta, da⟩ := a
  obtain ⟨tb, db⟩ := b
  simp only at hs hd h
  subst hd
  have : ta = tb := by
    refine Array.ext hs fun i hi hi' => ?_
    have := h i hi
    simpa [Act.eval, hi, hi'] using this
  rw [this]

/-- THE LAW: each operation leaves a value and a world of which a fact holds that what comes later keeps; so do all, in whatever order. -/
theorem wp_region_facts {id : Nat} {a : Act} {w : World} (hm : P.follows .mixedOrders = true) (hE : Earlier ops = true) (hD : Distinct ops a.tmps.size = true)
    (B : World → World → Prop) (hBr : ∀ w, B w w) (hBt : ∀ {x y z : World}, B x y → B y z → B x z)
    (F : Nat → Value → World → Prop) (hF : ∀ {i : Nat} {v : Value} {x y : World}, F i v x → B x y → F i v y)
    (hstep : ∀ (i : Nat) (o : Oper) (a' : Act) (w' : World), ops[i]? = some o → B w.drew w' → a'.tmps.size = a.tmps.size →
      (∀ t, Fresh ops i t = true → a'.eval (.tmp t) = a.eval (.tmp t)) →
      (∀ e ∈ o.after, Region.binds .any e = true → ∀ oj d, ops[e.on]? = some oj → oj.dst = some d → F e.on (a'.eval (.tmp d)) w') →
      wpOp P ops Q i (fun a2 w2 => B w' w2 ∧ ∃ v, a2 = a'.put o.dst v ∧ (o.dst ≠ none → F i v w2)) a' w')
    (hend : ∀ (vs : Nat → Value) (w' : World), B w.drew w' → (∀ i o, ops[i]? = some o → o.dst ≠ none → F i (vs i) w') → ∀ a2, a2 = putAll ops vs ops.size a → Q .normal a2 w') :
    (Code.region id ops true).wp P Q a w := by
  refine wp_region_inv hm hE (fun L a' w' => B w.drew w' ∧ a'.defers = a.defers ∧ a'.tmps.size = a.tmps.size ∧
    (∀ j oj, ops[j]? = some oj → L.getD j false = true → ∀ e ∈ oj.after, Region.binds .any e = true → L.getD e.on false = true) ∧
    (∀ t, (∀ j oj, ops[j]? = some oj → oj.dst = some t → L.getD j false = false) → a'.eval (.tmp t) = a.eval (.tmp t)) ∧
    (∀ j oj d, ops[j]? = some oj → oj.dst = some d → L.getD j false = true → F j (a'.eval (.tmp d)) w')) ?_ ?_ ?_
  · refine ⟨hBr _, rfl, rfl, ?_, fun _ _ => rfl, ?_⟩
    · intro j oj hj h
      have := (Array.getElem?_eq_some_iff.1 hj).1
      simp [this] at h
    · intro j oj d hj _ h
      have := (Array.getElem?_eq_some_iff.1 hj).1
      simp [this] at h
  · intro L i o a' w' hsz ⟨hB, hdf, hts, hdown, hold, hfact⟩ ho hL hedge
    have hil : i < L.size := by have := (Array.getElem?_eq_some_iff.1 ho).1; omega
    have hLf : L.getD i false = false := by
      simp [hil] at hL ⊢
      exact hL
    refine wpOp_mono ?_ (hstep i o a' w' ho hB hts ?_ ?_)
    · rintro a2 w2 ⟨hB2, v, rfl, hFv⟩
      have hset : ∀ j, (L.setIfInBounds i true).getD j false = true → j = i ∨ L.getD j false = true := by
        intro j hj
        by_cases hji : j = i
        · exact .inl hji
        · rw [getD_set_ne false (Ne.symm hji)] at hj
          exact .inr hj
      refine ⟨hBt hB hB2, by rw [Act.defers_put, hdf], by rw [Act.size_put, hts], ?_, ?_, ?_⟩
      · intro j oj hj hjl e he hb
        refine getD_set_true ?_
        rcases hset j hjl with rfl | h
        · rw [ho] at hj
          cases hj
          exact hedge e he hb
        · exact hdown j oj hj h e he hb
      · intro t ht
        have h1 : o.dst ≠ some t := by
          intro hd
          have := ht i o ho hd
          simp [hil] at this
        rw [Act.put_far h1]
        refine hold t fun j oj hj hd => ?_
        have := ht j oj hj hd
        by_cases hji : i = j
        · subst hji; exact hLf
        · rwa [getD_set_ne false hji] at this
      · intro j oj d hj hd hjl
        rcases hset j hjl with rfl | h
        · rw [ho] at hj
          cases hj
          rw [hd, Act.eval_put_same (by rw [hts]; exact Distinct.lt hD ho hd)]
          exact hFv (by rw [hd]; exact fun h => by cases h)
        · have hji : j ≠ i := by
            rintro rfl
            rw [hLf] at h
            cases h
          rw [Act.put_far (Distinct.ne hD hj ho hji hd)]
          exact hF (hfact j oj d hj hd h) hB2
    · intro t ht
      refine hold t fun j oj hj hd => ?_
      by_cases hji : j = i
      · subst hji; exact hLf
      · obtain ⟨e, he, hb, hon⟩ := Fresh.spec ht hj hd hji
        cases hc : L.getD j false with
        | false => rfl
        | true =>
          have := hdown j oj hj hc e he hb
          rw [hon, hLf] at this
          cases this
    · intro e he hb oj d hoj hd
      exact hfact e.on oj d hoj hd (hedge e he hb)
  · intro L a' w' hsz ⟨hB, hdf, hts, hdown, hold, hfact⟩ hall
    have hall' : ∀ i, i < ops.size → L.getD i false = true := by
      intro i hi
      have := hall i hi
      have h : i < L.size := by omega
      simp [h] at this ⊢
      exact this
    have key := hend (fun i => a'.eval (.tmp (((ops[i]?).bind (·.dst)).getD 0))) w' hB fun i o ho hdn => by
      cases hd : o.dst with
      | none => exact absurd hd hdn
      | some d =>
        have := hfact i o d ho hd (hall' i (Array.getElem?_eq_some_iff.1 ho).1)
        simpa [ho, hd] using this
    refine key _ ?_
    have e : a' = putAll ops (fun i => a'.eval (.tmp (((ops[i]?).bind (·.dst)).getD 0))) ops.size a := by
      refine Act.ext_eval (by rw [putAll_size, hts]) (by rw [putAll_defers, hdf]) fun t ht => ?_
      by_cases hw : ∃ (j : Nat) (oj : Oper), ops[j]? = some oj ∧ oj.dst = some t
      · obtain ⟨j, oj, hj, hd⟩ := hw
        rw [putAll_new _ _ _ hD (Array.getElem?_eq_some_iff.1 hj).1 hj hd]
        simp [hj, hd]
      · rw [putAll_old]
        · exact hold t fun j oj hj hd => absurd ⟨j, oj, hj, hd⟩ hw
        · intro j oj _ hj hd
          exact hw ⟨j, oj, hj, hd⟩
    exact e

/-- An operation that yields a value. -/
theorem step_value {i : Nat} {o : Oper} {a : Act} {w w' : World} {K : Act → World → Prop} {v : Value} (ho : ops[i]? = some o) (hg : o.guard = none)
    (hrun : (execOp a.eval o).run P w = .ok (.value v) w') (hK : K (a.put o.dst v) w') : wpOp P ops Q i K a w := by
  unfold wpOp
  simp only [ho, Region.wanted, hg, if_true]
  exact .inl (by unfold Oper.wp; rw [hrun]; exact hK)

/-- An operation that is a call. -/
theorem step_call {i : Nat} {o : Oper} {a : Act} {w w' : World} {K : Act → World → Prop} {f : FuncId} {args : Array Value} (ho : ops[i]? = some o) (hg : o.guard = none)
    (hrun : (execOp a.eval o).run P w = .ok (.enter f args) w') (h : Calls P f args w' fun e w'' => ∃ v, e = .returned v ∧ K (a.put o.dst v) w'') : wpOp P ops Q i K a w := by
  unfold wpOp
  simp only [ho, Region.wanted, hg, if_true]
  refine .inl ?_
  unfold Oper.wp
  rw [hrun]
  refine Calls.mono h ?_
  rintro e w'' ⟨v, rfl, hK⟩
  exact hK
end Go.Inv
