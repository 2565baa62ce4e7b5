/- Permission sets; a grant is added (16). -/
import Derived.Test.YbulkcvxmGreatFmtAt
import Derived.Deep.RegionLaw
set_option linter.unusedSimpArgs false
set_option linter.unusedVariables false
namespace Go.Proofs.YbulkcvxmGreatFmt
open Go.RowKit

/-- All blocks stand but the two. -/
structure Bt (e p : Nat) (w w' : World) : Prop where
  os : w'.os = w.os
  tape : w'.tape = w.tape
  output : w'.output = w.output
  size : w.heap.size ≤ w'.heap.size
  block : ∀ i, i < w.heap.size → i ≠ e → i ≠ p → w'.heap[i]? = w.heap[i]?
section
variable {e p : Nat} {w w' w'' : World}
theorem Bt.refl (e p : Nat) (w : World) : Bt e p w w := ⟨rfl, rfl, rfl, Nat.le_refl _, fun _ _ _ _ => rfl⟩
theorem Bt.trans (h : Bt e p w w') (h' : Bt e p w' w'') : Bt e p w w'' :=
  ⟨h'.os.trans h.os, h'.tape.trans h.tape, h'.output.trans h.output, Nat.le_trans h.size h'.size, fun i hi h1 h2 => (h'.block i (Nat.lt_of_lt_of_le hi h.size) h1 h2).trans (h.block i hi h1 h2)⟩
theorem Bt.since (h : Bt e p w w') (hs : Since w' w'') : Bt e p w w'' :=
  ⟨hs.out.os.trans h.os, hs.out.tape.trans h.tape, hs.out.output.trans h.output, Nat.le_trans h.size hs.size, fun i hi h1 h2 => (hs.out.block i (Nat.lt_of_lt_of_le hi h.size)).trans (h.block i hi h1 h2)⟩
theorem Bt.of (hs : Since w w') : Bt e p w w' := (Bt.refl e p w).since hs
theorem Bt.turned (h : Bt e p w w') {m : Nat} (hm : m = e ∨ m = p) (ht : w'.mapTurned w'' m) : Bt e p w w'' := by
  have hg := ht.grown
  exact ⟨hg.os.trans h.os, hg.tape.trans h.tape, hg.output.trans h.output, Nat.le_trans h.size hg.size, fun i hi a1 a2 => (hg.block i (Nat.lt_of_lt_of_le hi h.size) (by simp; rcases hm with rfl | rfl <;> assumption)).trans (h.block i hi a1 a2)⟩
theorem Bt.keep (h : Bt e p w w') {i : Nat} {o : Obj} (hi : w.heap[i]? = some o) (h1 : i ≠ e) (h2 : i ≠ p) : w'.heap[i]? = some o := by
  rw [h.block i (sizeOf_block hi) h1 h2]; exact hi
end
/-- The exact rules; the rules by prefix. -/
def me (S : Nat → Nat) (i : Nat) : Nat := if i < 2 then S i else 0
def mp (S : Nat → Nat) (i : Nat) : Nat := if i < 2 then 0 else S i
structure PS (w : World) (e p gb : Nat) (S : Nat → Nat) : Prop where
  pe : PM w e gb (me S)
  pp : PM w p gb (mp S)
  ne : e ≠ p
section
variable {e p gb : Nat} {w w' : World} {S : Nat → Nat}
theorem PS.since (h : PS w e p gb S) (hs : Since w w') : PS w' e p gb S := ⟨h.pe.since hs, h.pp.since hs, h.ne⟩
theorem PS.kx {Ts Ms : List Nat} (h : PS w e p gb S) (hk : Kx Ts Ms w w') (hT : 27 ∉ Ts) (h1 : e ∉ Ms) (h2 : p ∉ Ms) : PS w' e p gb S := ⟨h.pe.kx hk hT h1, h.pp.kx hk hT h2, h.ne⟩
theorem Bt.kx {Ms : List Nat} (h : Bt e p w w') (hp : PS w e p gb S) (h1 : e ∈ Ms) (h2 : p ∈ Ms) : Kx [] Ms w w' := by
  refine ⟨h.size, fun i cs T fz hi _ => ?_, fun i es cl hi hM => ?_⟩
  · rw [h.block i (sizeOf_block hi) (fun q => ?_) (fun q => ?_)]
    · exact hi
    · subst q; obtain ⟨es, cl, h3⟩ := hp.pe.isMap; rw [hi] at h3; cases h3
    · subst q; obtain ⟨es, cl, h3⟩ := hp.pp.isMap; rw [hi] at h3; cases h3
  · rw [h.block i (sizeOf_block hi) (fun q => hM (q ▸ h1)) (fun q => hM (q ▸ h2))]
    exact hi
theorem PS.congr {S' : Nat → Nat} (h : PS w e p gb S) (he : ∀ i, i < 4 → S' i = S i) : PS w e p gb S' :=
  ⟨h.pe.congr (fun i hi => by unfold me; rw [he i hi]), h.pp.congr (fun i hi => by unfold mp; rw [he i hi]), h.ne⟩
theorem me_upd {k : Nat} (hk : k < 2) (s : Nat) (i : Nat) : me (upd S k s) i = upd (me S) k s i := by
  unfold me
  by_cases e : i = k
  · subst e; rw [upd_same, upd_same, if_pos hk]
  · rw [upd_ne _ _ e, upd_ne _ _ e]
theorem mp_upd {k : Nat} (hk : ¬ k < 2) (s : Nat) (i : Nat) : mp (upd S k s) i = upd (mp S) k s i := by
  unfold mp
  by_cases e : i = k
  · subst e; rw [upd_same, upd_same, if_neg hk]
  · rw [upd_ne _ _ e, upd_ne _ _ e]
theorem me_upd_no {k : Nat} (hk : ¬ k < 2) (s : Nat) (i : Nat) : me (upd S k s) i = me S i := by
  unfold me
  by_cases e : i < 2
  · rw [if_pos e, if_pos e, upd_ne _ _ (by omega)]
  · rw [if_neg e, if_neg e]
theorem mp_upd_no {k : Nat} (hk : k < 2) (s : Nat) (i : Nat) : mp (upd S k s) i = mp S i := by
  unfold mp
  by_cases e : i < 2
  · rw [if_pos e, if_pos e]
  · rw [if_neg e, if_neg e, upd_ne _ _ (by omega)]
/-- One rule is stored into one of the two maps. -/
theorem PS.turned (h : PS w e p gb S) {k s : Nat} (hk : k < 4) {m : Nat} (hm : m = if wildB k then p else e) (hpm : PM w' m gb (upd (if wildB k then mp S else me S) k s)) (ht : w.mapTurned w' m) : PS w' e p gb (upd S k s) := by
  by_cases hw : k < 2
  · have hwf : wildB k = false := by simp [wildB]; omega
    rw [hwf] at hm hpm
    simp at hm hpm
    subst hm
    exact ⟨hpm.congr (fun i _ => me_upd hw s i), (h.pp.kx (Kx.turned (Ts := []) (Ms := [m]) ht (by simp)) (by simp) (by simp; exact Ne.symm h.ne)).congr (fun i _ => mp_upd_no hw s i), h.ne⟩
  · have hwt : wildB k = true := by simp [wildB]; omega
    rw [hwt] at hm hpm
    simp at hm hpm
    subst hm
    exact ⟨(h.pe.kx (Kx.turned (Ts := []) (Ms := [m]) ht (by simp)) (by simp) (by simp; exact h.ne)).congr (fun i _ => me_upd_no hw s i), hpm.congr (fun i _ => mp_upd hw s i), h.ne⟩
theorem PS.at (h : PS w e p gb S) {k : Nat} (hk : k < 4) : PM w (if wildB k then p else e) gb (if wildB k then mp S else me S) ∧ (if wildB k then mp S else me S) k = S k := by
  by_cases hw : k < 2
  · have hwf : wildB k = false := by simp [wildB]; omega
    rw [hwf]
    exact ⟨h.pe, by simp [me, hw]⟩
  · have hwt : wildB k = true := by simp [wildB]; omega
    rw [hwt]
    exact ⟨h.pp, by simp [mp, hw]⟩
end
/-- The guard of a grant: none (2: always), or the one (1). -/
def gpv (gb t : Nat) : Value := if t = 2 then .pointer none else .pointer (some ⟨gb, 0, none⟩)
theorem ruleOf_any (gb t : Nat) (w : World) (ht : t = 1 ∨ t = 2) : Calls Ybaz.prog 30 #[gpv gb t] w fun r w' => ∃ v, r = .returned v ∧ RuleV w' gb t v ∧ Since w w' := by
  rcases ht with rfl | rfl
  · exact ruleOf_guard gb w
  · exact ruleOf_nil gb w
theorem gpv_form (gb t : Nat) : ∃ o, gpv gb t = .pointer o := by
  unfold gpv
  split
  · exact ⟨_, rfl⟩
  · exact ⟨_, rfl⟩

set_option maxRecDepth 100000 in
set_option maxHeartbeats 2000000 in
theorem add_any (k t e p gb : Nat) (S : Nat → Nat) (w : World) (hk : k < 4) (ht : t = 1 ∨ t = 2) (hP : PS w e p gb S) :
    Calls Ybaz.prog 16 #[.agg #[.map (some e), .map (some p)], .agg #[.string (codeB k), gpv gb t]] w fun r w' => r = .returned (.tuple #[]) ∧ Bt e p w w' ∧ PS w' e p gb (upd S k (max (S k) t)) := by
  obtain ⟨go, hgo⟩ := gpv_form gb t
  have hro := fun w => ruleOf_any gb t w ht
  rw [hgo] at hro ⊢
  have hS0 := (Since.new (w.alloc (.cells #[.map (some e), .map (some p)] 52)) (.cells #[.string (codeB k), .pointer go] 71)).then (Since.new w (.cells #[.map (some e), .map (some p)] 52))
  have hB := newBlock (w.alloc (.cells #[.map (some e), .map (some p)] 52)) (.cells #[.string (codeB k), .pointer go] 71)
  rw [show (w.alloc (.cells #[.map (some e), .map (some p)] 52)).heap.size = w.heap.size + 1 by simp] at hB
  have HRO0 := Hid.mk hro
  clear hro hgo
  go_enter Ybaz.func16, Ybaz.ntmps16
  go_wp2_with fail
  refine (at_any k e p _ hk).mono ?_
  rintro r w1 ⟨rfl, hS1⟩
  have hS2 := hS1.then hS0
  have hB1 := hS1.keep hB
  obtain ⟨m, hm⟩ : ∃ m, m = if wildB k then p else e := ⟨_, rfl⟩
  have hm2 : m = e ∨ m = p := by rw [hm]; split <;> simp
  rw [← hm]
  have hP1 := hP.since hS2
  obtain ⟨hpm, hSk⟩ := hP1.at hk
  rw [← hm] at hpm
  have d1 : w1.cell? ⟨w.heap.size + 1, 1, none⟩ = some (.pointer go) := cellOf hB1
  have ld := sizeOf_block hB1
  have HD : Hid (∀ w'', Since w1 w'' → w''.cell? ⟨w.heap.size + 1, 1, none⟩ = some (.pointer go)) := ⟨fun w'' hs => cellOf (hs.keep hB1)⟩
  have HRO : Hid (∀ w'', Since w1 w'' → Calls Ybaz.prog 30 #[.pointer go] w'' fun r w' => ∃ v, r = .returned v ∧ RuleV w' gb t v ∧ Since w1 w') := ⟨fun w'' hs => (HRO0.out w'').mono (fun r w' ⟨v, h1, h2, h3⟩ => ⟨v, h1, h2, h3.then hs⟩)⟩
  have HLK : Hid (∀ w'', Since w1 w'' → ∃ v, RuleV w'' gb (S k) v ∧ (Instr.lookup 50 (.map (some m)) (.string (keyB k)) false).run Ybaz.prog w'' = .ok v w'') := ⟨fun w'' hs => by
    obtain ⟨v, h1, h2, -⟩ := (hpm.since hs).look hk
    rw [hSk] at h1
    exact ⟨v, h1, h2⟩⟩
  have HST : Hid (∀ w'', Since w1 w'' → ∀ x, RuleV w'' gb (max (S k) t) x → ∃ w5, (Instr.mapUpdate 50 (.map (some m)) (.string (keyB k)) x).run Ybaz.prog w'' = .ok () w5 ∧ Bt e p w w5 ∧ PS w5 e p gb (upd S k (max (S k) t))) := ⟨fun w'' hs x hx => by
    obtain ⟨w5, h1, h2, h3⟩ := (hpm.since hs).store hk hx (by omega)
    exact ⟨w5, h1, (Bt.of (hs.then hS2)).turned hm2 h3, (hP1.since hs).turned hk hm h2 h3⟩⟩
  obtain ⟨v1, hv1, hl1⟩ := HLK.out w1.drew Since.dr
  have HT : Hid (t ≠ 0) := ⟨by omega⟩
  have HV1 : Hid (RuleV w1 gb (S k) v1) := ⟨⟨hv1.ex⟩⟩
  clear hm hm2 hS0 hB hS1 hS2 hB1 hP hP1 hpm hSk HRO0 hv1 ht
  go_wp2_with fail
  go_region_law (first | (go_simp; refine (HRO.out _ (by first | exact Since.dr | exact Since.refl _)).mono ?_; rintro r3 w3 ⟨u3, rfl, hu3, hS3⟩; dsimp only; obtain ⟨v3, hv3, hl3⟩ := HLK.out w3 hS3) | (go_simp; refine (or_any gb (S k) t _ u3 w3 (by first | exact hv3 | exact HV1.out.since hS3) hu3 HT.out).mono ?_; rintro r4 w4 ⟨x4, rfl, hx4, hS4⟩; dsimp only; obtain ⟨w5, hst, hbt, hps⟩ := HST.out w4 (hS4.then hS3) x4 hx4))
  all_goals
    go_end0
    exact ⟨rfl, hbt, hps⟩
end Go.Proofs.YbulkcvxmGreatFmt
