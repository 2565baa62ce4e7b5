/- forget, undo, send, rollBack. -/
import Derived.Test.YbulkcvzqFmtUnlock
set_option linter.unusedSimpArgs false
set_option linter.unusedVariables false
namespace Go.Proofs.YbulkcvzqFmt
open Go.RowKit

/-- 'delete(m, k)' as a step of a region that draws. -/
theorem stepDrop {ops : Array Oper} {o : Oper} {a : Act} {w : World} {K : Act → World → Prop} {Q : Exit → Act → World → Prop} {E : Prop} (hgd : o.guard = none) (m x : Operand) (t k e : TypeId)
    (ho : o.op = .call { callee := .builtin .delete, args := #[m, x], argTypes := #[t, k] }) (ht : Ybaf.prog.underlying t = some (.map k e)) (b : Nat) (y : Int) (hm : a.eval m = .map (some b)) (hx : a.eval x = .int .i64 y)
    (f : Int → Option Value) (sz : Nat) (hmp : Mp w k b f sz) (hy : W64 y)
    (h : ∀ w', Mp w' k b (updI f y none) (if (f y).isSome then sz - 1 else sz) → w.mapTurned w' b → K (a.put o.dst (.tuple #[])) w') :
    if Region.wanted o (yielded ops a.tmps) = true then Oper.wp Ybaf.prog o a w K Q else E := by
  have hw : Region.wanted o (yielded ops a.tmps) = true := by simp [Region.wanted, hgd]
  rw [if_pos hw]
  obtain ⟨w', hr, h1, h2⟩ := hmp.drop ht hy o.type
  unfold Oper.wp
  simp [execOp, ho, resolve, invoke, builtin, hm, hx, hr, Result.andThen]
  exact h w' h1 h2

theorem newsAt {w : World} {b : Nat} {cs : List Value} {T : TypeId} {fz : Nat × Nat} (hb : w.heap[b]? = some (.cells cs.toArray T fz)) : ∀ j u, cs[j]? = some u → w.cell? ((⟨b, 0, none⟩ : Addr).add j) = some u := by
  intro j u hu
  rw [Addr.add_lit, cellOf hb]
  simpa using hu

section
variable {d : Dat} {w w' : World} {hol gp : Nat → Bool} {np : Nat} {gu : Nat → Bool} {nu : Nat} {ord : List Nat}
/-- Another map of the parts. -/
theorem St.parts {gp' : Nat → Bool} {np' : Nat} (h : St w d hol gp np gu nu ord) (ht : w.mapTurned w' d.pm) (hm : Mp w' 2 d.pm (partF d d.k gp') np') : St w' d hol gp' np' gu nu ord ∧ Tf d w w' := by
  have hT : Tf d w w' := Tf.turned ht (.inl rfl) h.fx.l2
  obtain ⟨es, cl, hpm⟩ := h.mP.isMap
  have key : ∀ (i : Nat) (o : Obj), w.heap[i]? = some o → i ≠ d.pm → w'.heap[i]? = some o := fun i o ho hne => by rw [turned_block ht (sizeOf_block ho) hne]; exact ho
  refine ⟨⟨h.fx.tf hT, ?_, fun a ha => key _ _ (h.ac a ha) (fun e => by have := h.ac a ha; rw [e, hpm] at this; simp at this), hm, ?_⟩, hT⟩
  · obtain ⟨ov, h1, h2⟩ := h.sh
    refine ⟨ov, key _ _ h1 (fun e => by rw [e, hpm] at h1; simp at h1), h2.keep (fun g cs _ hg => key _ _ hg (fun e => by rw [e, hpm] at hg; simp at hg))⟩
  · obtain ⟨es', cl', hum⟩ := h.mU.isMap
    exact h.mU.keep (turned_block ht (sizeOf_block hum) (Ne.symm h.fx.dis.2.2.2.2))
/-- Another map of the undone ones. -/
theorem St.undone {gu' : Nat → Bool} {nu' : Nat} (h : St w d hol gp np gu nu ord) (ht : w.mapTurned w' d.um) (hm : Mp w' 2 d.um (undF d gu') nu') : St w' d hol gp np gu' nu' ord ∧ Tf d w w' := by
  have hT : Tf d w w' := Tf.turned ht (.inr rfl) h.fx.l3
  obtain ⟨es, cl, hpm⟩ := h.mU.isMap
  have key : ∀ (i : Nat) (o : Obj), w.heap[i]? = some o → i ≠ d.um → w'.heap[i]? = some o := fun i o ho hne => by rw [turned_block ht (sizeOf_block ho) hne]; exact ho
  refine ⟨⟨h.fx.tf hT, ?_, fun a ha => key _ _ (h.ac a ha) (fun e => by have := h.ac a ha; rw [e, hpm] at this; simp at this), ?_, hm⟩, hT⟩
  · obtain ⟨ov, h1, h2⟩ := h.sh
    refine ⟨ov, key _ _ h1 (fun e => by rw [e, hpm] at h1; simp at h1), h2.keep (fun g cs _ hg => key _ _ hg (fun e => by rw [e, hpm] at hg; simp at hg))⟩
  · obtain ⟨es', cl', hum⟩ := h.mP.isMap
    exact h.mP.keep (turned_block ht (sizeOf_block hum) h.fx.dis.2.2.2.2)
/-- One more message. -/
theorem St.sent {ov : Value} {w1 w3 : World} {g cap i : Nat} (h : St w d hol gp np gu nu ord) (hsh : w.heap[d.sb]? = some (.cells (shC d.idx d.am d.pm d.rm d.um ov) 41)) (hrow : RowL w d.base 63 6 (msgC d.idx d.lead) ov ord) (hs : Since w w1) (hg : w1.grownBy w3 ov.ownBlock)
    (hbg : d.base ≤ g) (hown : w3.ownsRow d.base 63 6 (.slice (some ⟨g, 0, none⟩) (ord.length + 1) cap) (ord.length + 1) (ord.flatMap (msgC d.idx d.lead) ++ msgC d.idx d.lead i)) :
    St (w3.setCell ⟨d.sb, 21, none⟩ (.slice (some ⟨g, 0, none⟩) (ord.length + 1) cap)) d hol gp np gu nu (ord ++ [i]) ∧ Tf d w (w3.setCell ⟨d.sb, 21, none⟩ (.slice (some ⟨g, 0, none⟩) (ord.length + 1) cap)) ∧ w3.cell? ⟨d.sb, 21, none⟩ = some ov ∧ w3.frozen? ⟨d.sb, 21, none⟩ = false ∧ d.sb < w3.heap.size := by
  have h1 := h.since hs
  have hrow1 := hrow.since hs
  have hsh1 := hs.keep hsh
  have hT1 : Tf d w1 w3 := Tf.app hg hrow1
  have key : ∀ (i : Nat) (o : Obj), w1.heap[i]? = some o → (∀ cs fz, o ≠ .cells cs 63 fz) → w3.heap[i]? = some o := fun i o ho hne => by
    rw [hg.block i (sizeOf_block ho) (fun e => ?_)]
    · exact ho
    · rcases hrow1.own.2 with ⟨rfl, _⟩ | ⟨g', cap', cur, rfl, hb, hg', _⟩
      · cases e
      · simp [Value.ownBlock] at e
        subst e
        rw [hg'] at ho
        cases ho
        exact hne _ _ rfl
  have hsh3 := key _ _ hsh1 (fun cs fz => by simp)
  have hT3 : Tf d w3 (w3.setCell ⟨d.sb, 21, none⟩ (.slice (some ⟨g, 0, none⟩) (ord.length + 1) cap)) := Tf.set hsh3 (.inl rfl) h.fx.l1
  have hT := (Tf.since hs).trans (hT1.trans hT3)
  have hgs : g ≠ d.sb := fun e => by
    rcases hown.2 with ⟨h0, _⟩ | ⟨g', cap', cur, hv, hb, hg', _⟩
    · cases h0
    · simp at hv
      obtain ⟨rfl, rfl⟩ := hv
      subst e
      rw [hg'] at hsh3
      simp at hsh3
  refine ⟨⟨h.fx.tf hT, ⟨_, setOf hsh3, ?_⟩, fun a ha => ?_, ?_, ?_⟩, hT, cellOf hsh3, frozenOf hsh3, sizeOf_block hsh3⟩
  · have hl : (ord ++ [i]).length = ord.length + 1 := by simp
    have hf : (ord ++ [i]).flatMap (msgC d.idx d.lead) = ord.flatMap (msgC d.idx d.lead) ++ msgC d.idx d.lead i := by simp
    have hr3 : RowL w3 d.base 63 6 (msgC d.idx d.lead) (.slice (some ⟨g, 0, none⟩) (ord.length + 1) cap) (ord ++ [i]) := ⟨by rw [hl, hf]; exact hown⟩
    exact hr3.keep (fun g' cs e hg' => by
      simp [Value.ownBlock] at e
      subst e
      rw [setFar hgs]; exact hg')
  · rw [setFar (Ne.symm (h.sbne ha))]
    exact key _ _ (h1.ac a ha) (fun cs fz => by simp)
  · obtain ⟨es, cl, hpm⟩ := h1.mP.isMap
    refine h1.mP.keep ?_
    rw [setFar (fun e => ?_), key _ _ hpm (fun cs fz => by simp), hpm]
    rw [e, hsh1] at hpm; simp at hpm
  · obtain ⟨es, cl, hpm⟩ := h1.mU.isMap
    refine h1.mU.keep ?_
    rw [setFar (fun e => ?_), key _ _ hpm (fun cs fz => by simp), hpm]
    rw [e, hsh1] at hpm; simp at hpm
end

theorem Ybaf.info63 : (Ybaf.prog.info? 63).map (fun i => (i.zero, i.size, i.bytes)) = some (some (.agg #[.int .i64 0, .int .i64 0, .int .i64 0, .int .i64 0, .int .u8 0, .pointer none]), 6, 48) := by kernel_rfl
theorem msg_one (idx : Int) (lead : Nat → Int) (i : Nat) : ∀ u ∈ msgC idx lead i, u.oneCell' = true := by
  intro u hu
  simp [msgC] at hu
  rcases hu with rfl | rfl | rfl | rfl | rfl | rfl <;> rfl

set_option maxRecDepth 100000 in
set_option maxHeartbeats 2000000 in
theorem send_any (d : Dat) (i : Nat) (w : World) (hol gp : Nat → Bool) (np : Nat) (gu : Nat → Bool) (nu : Nat) (ord : List Nat) (h : St w d hol gp np gu nu ord) (ho : ord.length ≤ 2000) :
    Calls Ybaf.prog 7 #[.pointer (some ⟨d.sb, 0, none⟩), .int .i64 (d.lead i), .int .i64 8, .int .i64 (1000 + i), .int .u8 11] w fun r w' => r = .returned (.tuple #[]) ∧ Tf d w w' ∧ St w' d hol gp np gu nu (ord ++ [i]) := by
  obtain ⟨ov, hsh, hrow⟩ := h.sh
  obtain ⟨oa, ocap, rfl, _⟩ := hrow.form
  obtain ⟨i0, hi, hz0, hz1, hz2⟩ := info_parts Ybaf.info63
  have s0 : w.cell? ⟨d.sb, 0, none⟩ = some (.int .i64 d.idx) := cellOf hsh
  have s21 : w.cell? ⟨d.sb, 21, none⟩ = some (.slice oa ord.length ocap) := cellOf hsh
  have lsb := sizeOf_block hsh
  have lw := h.fx.lw
  go_enter Ybaf.func7, Ybaf.ntmps7
  go_wp2
  go_region_law (refine stepApp (by rfl) _ _ 38 (by rfl) d.base 63 i0 _ 6 48 Ybaf.underlying38 hi hz0 hz1 hz2 (by rfl) (by decide) (.slice oa ord.length ocap) ord.length (ord.flatMap (msgC d.idx d.lead)) (by rfl) (RowL.own (hrow.since (by first | exact Since.alloc Since.dr | exact Since.drew (Since.new _ _)))) ⟨w.heap.size, 0, none⟩ 1 1 (msgC d.idx d.lead i) (by rfl) (by rfl) (by first | exact newsAt (newBlock _ _) | exact newsAt (drewH (newBlock _ _))) (msg_one _ _ _) (by unfold maxLen; omega) (by omega) (Nat.le_trans lw (Since.size (by first | exact Since.alloc Since.dr | exact Since.drew (Since.new _ _)))) (by omega) ?_; intro g cap w3 hbg hown hgr hloc; obtain ⟨hst', hT', c3, z3, l3⟩ := h.sent hsh hrow (by first | exact Since.alloc Since.dr | exact Since.drew (Since.new _ _)) hgr hbg hown; clear hloc hgr hown)
  all_goals
    go_end0
    exact ⟨rfl, hT', hst'⟩

set_option maxRecDepth 100000 in
set_option maxHeartbeats 2000000 in
theorem forget_any (d : Dat) (i : Nat) (w : World) (hol gp : Nat → Bool) (np : Nat) (gu : Nat → Bool) (nu : Nat) (ord : List Nat) (h : St w d hol gp np gu nu ord) (hi : i < d.k) (hgp : gp i = false) :
    Calls Ybaf.prog 12 #[.pointer (some ⟨d.sb, 0, none⟩), .pointer (some ⟨d.PB i, 0, none⟩)] w fun r w' => r = .returned (.tuple #[]) ∧ Tf d w w' ∧ St w' d (fun a => if d.own a = i then false else hol a) (upd gp i true) (np - 1) gu nu ord := by
  have k10 := h.fx.k10
  have HG := Hid.mk hgp
  clear hgp
  go_enter Ybaf.func12, Ybaf.ntmps12
  go_wp2_with fail
  refine (unrecord_not d.sb (d.PB i) w (cellOf (h.fx.pa i hi))).mono ?_
  rintro r w0 ⟨rfl, rfl⟩
  go_wp2_with fail
  refine (unlock_any d i w hol gp np gu nu ord h hi).mono ?_
  rintro r w1 ⟨rfl, hT1, hst1⟩
  have HT1 := Hid.mk hT1
  clear h hT1
  obtain ⟨ov, hsh, _⟩ := hst1.sh
  have s6 : w1.cell? ⟨d.sb, 6, none⟩ = some (.map (some d.pm)) := cellOf hsh
  have p0 : w1.cell? ⟨d.PB i, 0, none⟩ = some (.pointer (some ⟨d.QB i, 0, none⟩)) := cellOf (hst1.fx.pa i hi)
  have q0 : w1.cell? ⟨d.QB i, 0, none⟩ = some (.int .i64 (1000 + i)) := cellOf (hst1.fx.qa i hi)
  have l1 := sizeOf_block hsh
  have l2 := sizeOf_block (hst1.fx.pa i hi)
  have l3 := sizeOf_block (hst1.fx.qa i hi)
  go_wp2
  go_region_law (refine stepDrop (by rfl) _ _ 27 2 43 (by rfl) Ybaf.underlying27 d.pm (1000 + i) (by rfl) (by rfl) (partF d d.k gp) np (hst1.mP.since Since.dr) (w64 (by omega) (by omega)) ?_; intro w3 hmp3 ht3)
  all_goals
    have hm : Mp w3 2 d.pm (partF d d.k (upd gp i true)) (np - 1) := by
      have e : (partF d d.k gp (1000 + i)).isSome = true := by
        simp only [partF]
        rw [if_pos ⟨by omega, by omega, by rw [show ((1000 : Int) + i - 1000).toNat = i by omega]; exact HG.out⟩]
        rfl
      rw [if_pos e] at hmp3
      refine hmp3.congr (fun x hx => ?_)
      by_cases e2 : x = 1000 + i
      · subst e2
        rw [updI_same]
        simp only [partF]
        rw [if_neg]
        rintro ⟨_, _, h3⟩
        rw [show ((1000 : Int) + i - 1000).toNat = i by omega, upd_same] at h3
        cases h3
      · rw [updI_ne _ _ e2]
        simp only [partF]
        by_cases e3 : 1000 ≤ x ∧ x < 1000 + d.k
        · rw [upd_ne _ _ (by omega)]
        · rw [if_neg (fun h => e3 ⟨h.1, h.2.1⟩), if_neg (fun h => e3 ⟨h.1, h.2.1⟩)]
    obtain ⟨hst3, hT3⟩ := (hst1.since Since.dr).parts ht3 hm
    have hT := HT1.out.trans ((Tf.since Since.dr).trans hT3)
    go_end0
    exact ⟨rfl, hT, hst3⟩

set_option maxRecDepth 100000 in
set_option maxHeartbeats 2000000 in
theorem undo_any (d : Dat) (i : Nat) (w : World) (hol gp : Nat → Bool) (np : Nat) (gu : Nat → Bool) (nu : Nat) (ord : List Nat) (h : St w d hol gp np gu nu ord) (hi : i < d.k) (hgp : gp i = false) :
    Calls Ybaf.prog 6 #[.pointer (some ⟨d.sb, 0, none⟩), .pointer (some ⟨d.PB i, 0, none⟩)] w fun r w' => r = .returned (.tuple #[]) ∧ Tf d w w' ∧ St w' d (fun a => if d.own a = i then false else hol a) (upd gp i true) (np - 1) gu nu ord := by
  have HG := Hid.mk hgp
  clear hgp
  have hS := Since.new w (.cells #[.pointer (some ⟨d.sb, 0, none⟩)] 25)
  have hB := newBlock w (.cells #[.pointer (some ⟨d.sb, 0, none⟩)] 25)
  have hst := h.since hS
  have HT := Hid.mk (Tf.since (d := d) hS)
  have p7 : (w.alloc (.cells #[.pointer (some ⟨d.sb, 0, none⟩)] 25)).cell? ⟨d.PB i, 7, none⟩ = some (.bool false) := cellOf (hst.fx.pa i hi)
  have l7 := sizeOf_block (h.fx.pa i hi)
  go_enter Ybaf.func6, Ybaf.ntmps6
  go_wp2_with fail
  generalize hW : w.alloc (.cells #[.pointer (some ⟨d.sb, 0, none⟩)] 25) = W at *
  refine (unchain_not d.sb (d.PB i) W (cellOf (hst.fx.pa i hi))).mono ?_
  rintro r w0 ⟨rfl, rfl⟩
  have c0 : W.cell? ⟨w.heap.size, 0, none⟩ = some (.pointer (some ⟨d.sb, 0, none⟩)) := cellOf hB
  have l0 := sizeOf_block hB
  go_wp2_with fail
  refine (forget_any d i W hol gp np gu nu ord hst hi HG.out).mono ?_
  rintro r w1 ⟨rfl, hT1, hst1⟩
  have hT2 := HT.out.trans hT1
  go_wp2
  go_end0
  exact ⟨rfl, hT2, hst1⟩

set_option maxRecDepth 100000 in
set_option maxHeartbeats 2000000 in
theorem rollBack_any (d : Dat) (i : Nat) (w : World) (hol gp : Nat → Bool) (np : Nat) (nu : Nat) (ord : List Nat) (h : St w d hol gp np gp nu ord) (hi : i < d.k) (hgp : gp i = false) (hnu : nu ≤ 1024) (ho : ord.length ≤ 2000) :
    Calls Ybaf.prog 5 #[.pointer (some ⟨d.sb, 0, none⟩), .pointer (some ⟨d.PB i, 0, none⟩)] w fun r w' => r = .returned (.tuple #[]) ∧ Tf d w w' ∧ St w' d (fun a => if d.own a = i then false else hol a) (upd gp i true) (np - 1) (upd gp i true) (nu + 1) (ord ++ [i]) := by
  have k10 := h.fx.k10
  have HG := Hid.mk hgp
  clear hgp
  go_enter Ybaf.func5, Ybaf.ntmps5
  go_wp2_with fail
  refine (undo_any d i w hol gp np gp nu ord h hi HG.out).mono ?_
  rintro r w1 ⟨rfl, hT1, hst1⟩
  have HT1 := Hid.mk hT1
  clear h hT1
  obtain ⟨ov, hsh, _⟩ := hst1.sh
  have s8 : w1.cell? ⟨d.sb, 8, none⟩ = some (.map (some d.um)) := cellOf hsh
  have p0 : w1.cell? ⟨d.PB i, 0, none⟩ = some (.pointer (some ⟨d.QB i, 0, none⟩)) := cellOf (hst1.fx.pa i hi)
  have q0 : w1.cell? ⟨d.QB i, 0, none⟩ = some (.int .i64 (1000 + i)) := cellOf (hst1.fx.qa i hi)
  have l1 := sizeOf_block hsh
  have l2 := sizeOf_block (hst1.fx.pa i hi)
  have l3 := sizeOf_block (hst1.fx.qa i hi)
  obtain ⟨w3, hr3, hmp3, ht3⟩ := (hst1.mU.since Since.dr).store Ybaf.underlying28 (x := 1000 + i) (w64 (by omega) (by omega)) (.bool true) (by omega)
  have hm : Mp w3 2 d.um (undF d (upd gp i true)) (nu + 1) := by
    have e : (undF d gp (1000 + i)).isSome = false := by
      simp only [undF]
      rw [if_neg]
      · rfl
      · rintro ⟨_, _, h3⟩
        rw [show ((1000 : Int) + i - 1000).toNat = i by omega, HG.out] at h3
        cases h3
    rw [e] at hmp3
    simp only [Bool.false_eq_true, if_false] at hmp3
    refine hmp3.congr (fun x hx => ?_)
    by_cases e2 : x = 1000 + i
    · subst e2
      rw [updI_same]
      simp only [undF]
      rw [if_pos ⟨by omega, by omega, by rw [show ((1000 : Int) + i - 1000).toNat = i by omega, upd_same]⟩]
    · rw [updI_ne _ _ e2]
      simp only [undF]
      by_cases e3 : 1000 ≤ x ∧ x < 1000 + d.k
      · rw [upd_ne _ _ (by omega)]
      · rw [if_neg (fun h => e3 ⟨h.1, h.2.1⟩), if_neg (fun h => e3 ⟨h.1, h.2.1⟩)]
  obtain ⟨hst3, hT3⟩ := (hst1.since Since.dr).undone ht3 hm
  have HT3 := Hid.mk (HT1.out.trans ((Tf.since Since.dr).trans hT3))
  clear hmp3 ht3 hT3 hm
  go_wp2
  go_region
  clear hst1 HT1 hsh s8 p0 q0 l1 l2 l3 hr3
  have hpa := hst3.fx.pa i hi
  have hqa := hst3.fx.qa i hi
  have p0 : ∀ w', Tf d w3 w' → w'.cell? ⟨d.PB i, 0, none⟩ = some (.pointer (some ⟨d.QB i, 0, none⟩)) := fun w' hf => cellOf (hf.keep hpa (by decide))
  have p1 : ∀ w', Tf d w3 w' → w'.cell? ⟨d.PB i, 1, none⟩ = some (.int .i64 (d.lead i)) := fun w' hf => cellOf (hf.keep hpa (by decide))
  have q0 : ∀ w', Tf d w3 w' → w'.cell? ⟨d.QB i, 0, none⟩ = some (.int .i64 (1000 + i)) := fun w' hf => cellOf (hf.keep hqa (by decide))
  go_wp2
  go_region_held3 (fun w'' => Tf d w3 w'') (first | exact Tf.since Since.dr | exact (Tf.since Since.dr).trans hT5 | exact Tf.drew (by assumption)) (first | (go_at_call 7; refine (send_any d i _ _ _ _ _ _ _ (hst3.since Since.dr) ho).mono ?_; rintro r1 w5 ⟨rfl, hT5, hst5⟩))
  have hTf := HT3.out.trans ((Tf.since Since.dr).trans hT5)
  go_end0
  exact ⟨rfl, hTf, hst5⟩
end Go.Proofs.YbulkcvzqFmt
