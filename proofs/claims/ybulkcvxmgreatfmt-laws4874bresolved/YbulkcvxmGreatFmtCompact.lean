/- Compact (35) at strings in interfaces. -/
import Derived.Test.YbulkcvxmGreatFmtConcat
import Derived.Test.YbulkcvxmGreatFmtUniq
import Derived.Lib.SliceRun
import Derived.Laws.IdiomCopy
set_option linter.unusedSimpArgs false
set_option linter.unusedVariables false
namespace Go.Proofs.YbulkcvxmGreatFmt
open Go.RowKit

theorem comp9 : (Ybaz.prog.info? 9).map (fun i => i.comparable) = some true := by kernel_rfl
theorem equal20 (d : Nat) (w : World) (a b : ByteArray) : (Op.equalIn (d + 2) 20 (.iface 9 (.string a)) (.iface 9 (.string b))).run Ybaz.prog w = .ok (a == b) w := by
  have h := comp9
  cases hi : Ybaz.prog.info? 9 with
  | none => rw [hi] at h; cases h
  | some i =>
    rw [hi] at h
    simp at h
    simp [Op.equalIn, run_underlying Ybaz.underlying20, run_underlying (show Ybaz.prog.underlying 9 = some .string by kernel_rfl), typeInfo, hi, h]
/-- Of two strings: are they one? Kept from simp's sight. -/
def sameS (a b : ByteArray) : Bool := a == b
theorem beqB (a b : ByteArray) : (a == b) = (a.data == b.data) := by cases a; cases b; rfl
theorem sameS_true {a b : ByteArray} (h : a = b) : sameS a b = true := by subst h; simp [sameS, beqB]
theorem sameS_false {a b : ByteArray} (h : a ≠ b) : sameS a b = false := by
  have h' : a.data ≠ b.data := fun e => h (by cases a; cases b; simp at e; rw [e])
  simp [sameS, beqB, h']
@[go_sem] theorem run_eql20 (w : World) (a b : ByteArray) : (binOp .eql 20 (.iface 9 (.string a)) (.iface 9 (.string b))).run Ybaz.prog w = .ok (.bool (sameS a b)) w := by
  simp only [binOp]
  simp [Op.equal, Op.maxDepth, equal20 9998, sameS]
@[go_sem] theorem run_neq20 (w : World) (a b : ByteArray) : (binOp .neq 20 (.iface 9 (.string a)) (.iface 9 (.string b))).run Ybaz.prog w = .ok (.bool (!(sameS a b))) w := by
  simp only [binOp]
  simp [Op.equal, Op.maxDepth, equal20 9998, sameS]

/-- The first m places of block g hold strings. -/
structure Strs (w : World) (g cap m : Nat) (A : Nat → ByteArray) : Prop where
  ex : ∃ cs, w.heap[g]? = some (.cells cs 20) ∧ cs.size = cap ∧ ∀ x, x < m → cs[x]? = some (.iface 9 (.string (A x)))
  mc : m ≤ cap
section
variable {w w' : World} {g cap m : Nat} {A : Nat → ByteArray}
theorem Strs.lt (h : Strs w g cap m A) : g < w.heap.size := by obtain ⟨cs, h1, _⟩ := h.ex; exact sizeOf_block h1
theorem Strs.keep (h : Strs w g cap m A) (he : w'.heap[g]? = w.heap[g]?) : Strs w' g cap m A := by
  obtain ⟨cs, h1, h2⟩ := h.ex
  exact ⟨⟨cs, he.trans h1, h2⟩, h.mc⟩
theorem Strs.cell (h : Strs w g cap m A) {x : Nat} (hx : x < m) : w.cell? ⟨g, x, none⟩ = some (.iface 9 (.string (A x))) := by
  obtain ⟨cs, h1, _, h3⟩ := h.ex
  rw [cellOf h1]; exact h3 x hx
theorem Strs.frozen (h : Strs w g cap m A) (x : Nat) : w.frozen? ⟨g, x, none⟩ = false := by
  obtain ⟨cs, h1, _⟩ := h.ex
  exact frozenOf h1
theorem Strs.set (h : Strs w g cap m A) {x : Nat} (hx : x < m) (s : ByteArray) : Strs (w.setCell ⟨g, x, none⟩ (.iface 9 (.string s))) g cap m (upd A x s) := by
  obtain ⟨cs, h1, h2, h3⟩ := h.ex
  refine ⟨⟨_, setOf h1, by simp [h2], fun y hy => ?_⟩, h.mc⟩
  have := h.mc
  by_cases e : y = x
  · subst e; rw [upd_same, Array.getElem?_setIfInBounds, if_pos rfl, if_pos (by omega)]
  · rw [upd_ne _ _ e, Array.getElem?_setIfInBounds, if_neg (Ne.symm e)]; exact h3 y hy
theorem setCells_other (b i : Nat) (hne : i ≠ b) : ∀ (vs : List Value) (o : Nat) (w : World), (w.setCells b o vs).heap[i]? = w.heap[i]?
  | [], o, w => rfl
  | v :: vs, o, w => by
    show ((w.setCell ⟨b, o, none⟩ v).setCells b (o + 1) vs).heap[i]? = _
    rw [setCells_other b i hne vs (o + 1), setFar hne]
theorem setCells_row (b : Nat) {T : TypeId} : ∀ (vs : List Value) (o : Nat) (w : World) (cs : Array Value), w.heap[b]? = some (.cells cs T) → ∃ cs', (w.setCells b o vs).heap[b]? = some (.cells cs' T) ∧ cs'.size = cs.size ∧ ∀ x, x < o → cs'[x]? = cs[x]?
  | [], o, w, cs, h => ⟨cs, h, rfl, fun _ _ => rfl⟩
  | v :: vs, o, w, cs, h => by
    obtain ⟨cs', h1, h2, h3⟩ := setCells_row b vs (o + 1) (w.setCell ⟨b, o, none⟩ v) _ (setOf h)
    refine ⟨cs', h1, by rw [h2]; simp, fun x hx => ?_⟩
    rw [h3 x (by omega), Array.getElem?_setIfInBounds, if_neg (by omega)]
theorem Strs.clear (h : Strs w g cap m A) {k : Nat} (hk : k ≤ m) (vs : List Value) : Strs (w.setCells g k vs) g cap k A := by
  obtain ⟨cs, h1, h2, h3⟩ := h.ex
  obtain ⟨cs', g1, g2, g3⟩ := setCells_row g vs k w cs h1
  have := h.mc
  exact ⟨⟨cs', g1, by omega, fun x hx => by rw [g3 x hx]; exact h3 x (by omega)⟩, by omega⟩
end
theorem butSetCells (b : Nat) : ∀ (vs : List Value) (o : Nat) (w : World), But b w (w.setCells b o vs)
  | [], o, w => But.refl _ _
  | v :: vs, o, w => (But.set b o v w).trans (butSetCells b vs (o + 1) (w.setCell ⟨b, o, none⟩ v))

def pre (A : Nat → ByteArray) (k : Nat) : List ByteArray := (List.range k).map A
theorem pre_succ (A : Nat → ByteArray) (k : Nat) : pre A (k + 1) = pre A k ++ [A k] := by simp [pre, List.range_succ]
theorem pre_congr {A B : Nat → ByteArray} {k : Nat} (h : ∀ x, x < k → A x = B x) : pre A k = pre B k := by
  unfold pre
  exact List.map_congr_left (fun x hx => h x (List.mem_range.1 hx))
theorem uniq_pre (A : Nat → ByteArray) (k : Nat) : uniq (pre A (k + 2)) = if A k = A (k + 1) then uniq (pre A (k + 1)) else uniq (pre A (k + 1)) ++ [A (k + 1)] := by
  rw [pre_succ A (k + 1), pre_succ A k, uniq_snoc]

theorem zero20 (w : World) : (zeroValue 20).run Ybaz.prog w = .ok .nilIface w := by kernel_rfl

set_option maxRecDepth 100000 in
set_option maxHeartbeats 4000000 in
theorem compact_any (g cap m : Nat) (A : Nat → ByteArray) (w : World) (h : Strs w g cap m A) (h1 : 1 ≤ m) (hm : m ≤ 1000000) (hcm : cap ≤ maxLen) :
    Calls Ybaz.prog 36 #[.slice (some ⟨g, 0, none⟩) m cap] w fun r w' => But g w w' ∧ ∃ m' B, r = .returned (.slice (some ⟨g, 0, none⟩) m' cap) ∧ 1 ≤ m' ∧ m' ≤ m ∧ Strs w' g cap m' B ∧ pre B m' = uniq (pre A m) := by
  have hmc := h.mc
  unfold maxLen at hcm
  by_cases h2 : m < 2
  · have hm1 : m = 1 := by omega
    subst hm1
    go_enter Ybaz.func36, Ybaz.ntmps36
    go_wp2
    go_ret
    exact ⟨But.refl _ _, 1, A, rfl, Nat.le_refl _, Nat.le_refl _, h, rfl⟩
  · go_enter Ybaz.func36, Ybaz.ntmps36
    go_wp2_with fail
    go_loopw [3] (fun iv wr => ∃ k : Nat, 1 ≤ k ∧ k ≤ m ∧ iv = .int .i64 k ∧ uniq (pre A k) = pre A k ∧ But g w wr ∧ Strs wr g cap m A) (fun iv _ => m - (intOf iv).toNat)
    case atStart => exact ⟨1, Nat.le_refl _, by omega, rfl, rfl, But.refl _ _, h⟩
    case round =>
      obtain ⟨k, hk1, hkm, rfl, hu, hBr, hSr⟩ := hrel
      have HU := Hid.mk hu
      clear hu
      by_cases hlt : k < m
      · obtain ⟨q, hq⟩ : ∃ q, k = q + 1 := ⟨k - 1, by omega⟩
        subst hq
        have c1 := hSr.cell hlt
        have c0 := hSr.cell (show q < m by omega)
        have lg := hSr.lt
        have hup := uniq_pre A q
        have HUP := Hid.mk hup
        clear hup
        by_cases heq : A q = A (q + 1)
        · have hsm := sameS_true heq.symm
          have HEQ := Hid.mk heq
          clear heq
          go_wp2_with fail
          go_quiet (fail)
          have hSq := Since.drewN nq (Since.refl wr)
          have hB2 := hBr.trans ⟨hSq.out.os, hSq.out.tape, hSq.out.output, hSq.size, fun i hi _ => hSq.out.block i hi⟩
          have hS2 := hSr.keep (hSq.out.block g hSr.lt)
          generalize hW2 : wr.drewN nq = W2 at *
          have hstart : pre A (q + 1) = uniq (pre A (q + 1 + 1)) := by rw [HUP.out, if_pos HEQ.out, HU.out]
          have HST := Hid.mk hstart
          clear hW2 hSq hBr hSr c1 c0 lg hsm hstart
          go_wp2_with fail
          go_loopw [3, 5] (fun kv iv wr => ∃ (kc k2 : Nat) (B : Nat → ByteArray), kv = .int .i64 kc ∧ iv = .int .i64 k2 ∧ 1 ≤ k2 ∧ k2 ≤ m - (q + 1) ∧ q + 1 ≤ kc ∧ kc + 1 ≤ q + 1 + k2 ∧ But g w wr ∧ Strs wr g cap m B ∧ (∀ x, q + k2 ≤ x → B x = A x) ∧ pre B kc = uniq (pre A (q + 1 + k2))) (fun _ iv _ => m - (intOf iv).toNat)
          case atStart => exact ⟨q + 1, 1, A, by go_num, rfl, Nat.le_refl _, by omega, Nat.le_refl _, by omega, hB2, hS2, fun x _ => rfl, HST.out⟩
          case round =>
            clear hB2 hS2 HST
            obtain ⟨kc, k2, B, rfl, rfl, hk2, hk2m, hkc, hkc2, hBr, hSr, hBA, hpre⟩ := hrel
            have HBA := Hid.mk hBA
            have HPR := Hid.mk hpre
            clear hBA hpre
            have lg := hSr.lt
            by_cases hl2 : k2 < m - (q + 1)
            · have c1 := hSr.cell (show q + 1 + k2 < m by omega)
              have c0 := hSr.cell (show q + k2 < m by omega)
              rw [HBA.out _ (by omega)] at c1 c0
              obtain ⟨p2, hp2⟩ : ∃ p2, k2 = p2 + 1 := ⟨k2 - 1, by omega⟩
              have c0' : wr.cell? ⟨g, q + 1 + p2, none⟩ = some (.iface 9 (.string (A (q + k2)))) := by rw [show q + 1 + p2 = q + k2 by omega]; exact c0
              subst hp2
              have hup := uniq_pre A (q + (p2 + 1))
              have HUP2 := Hid.mk hup
              clear hup
              by_cases heq : A (q + (p2 + 1)) = A (q + 1 + (p2 + 1))
              · have hsm := sameS_true heq.symm
                have HEQ2 := Hid.mk heq
                clear heq
                go_wp2_with fail
                go_quiet (fail)
                have hSq := Since.drewN nq (Since.refl wr)
                have hB3 := hBr.trans ⟨hSq.out.os, hSq.out.tape, hSq.out.output, hSq.size, fun i hi _ => hSq.out.block i hi⟩
                have hS3 := hSr.keep (hSq.out.block g hSr.lt)
                generalize hW3 : wr.drewN nq = W3 at *
                clear hW3 hSq hBr hSr c1 c0 c0' lg hsm
                go_wp2
                go_roundw
                case rel => exact ⟨kc, p2 + 1 + 1, B, rfl, by go_num, by omega, by omega, hkc, by omega, hB3, hS3, fun x hx => HBA.out x (by omega), by
                  rw [HPR.out, show q + 1 + (p2 + 1 + 1) = q + (p2 + 1) + 2 by omega, HUP2.out, if_pos (by rw [HEQ2.out]; congr 1; omega)]
                  congr 2; omega⟩
                case measure => simp [intOf]; omega
              · have hsm := sameS_false (Ne.symm heq)
                have HEQ2 := Hid.mk heq
                clear heq
                go_wp2_with fail
                go_quiet (fail)
                have hSq := Since.drewN nq (Since.refl wr)
                have hB3 := hBr.trans ⟨hSq.out.os, hSq.out.tape, hSq.out.output, hSq.size, fun i hi _ => hSq.out.block i hi⟩
                have hS3 := hSr.keep (hSq.out.block g hSr.lt)
                generalize hW3 : wr.drewN nq = W3 at *
                clear hW3 hSq hBr hSr c1 c0 c0' lg hsm
                have e1 := hS3.cell (show q + 1 + (p2 + 1) < m by omega)
                rw [HBA.out _ (by omega)] at e1
                have e2 := hS3.cell (show kc < m by omega)
                have ez := hS3.frozen kc
                have lg := hS3.lt
                have hS4 := hS3.set (show kc < m by omega) (A (q + 1 + (p2 + 1)))
                have hB4 := hB3.trans (But.set g kc (.iface 9 (.string (A (q + 1 + (p2 + 1))))) W3)
                go_wp2_with fail
                clear e1 e2 ez lg hS3 hB3
                go_wp2
                go_roundw
                case rel => exact ⟨kc + 1, p2 + 1 + 1, upd B kc (A (q + 1 + (p2 + 1))), by go_num, by go_num, by omega, by omega, by omega, by omega, hB4, hS4, fun x hx => by rw [upd_ne _ _ (by omega)]; exact HBA.out x (by omega), by
                  rw [pre_succ, upd_same, pre_congr (B := B) (fun x hx => upd_ne _ _ (by omega)), HPR.out, show q + 1 + (p2 + 1 + 1) = q + (p2 + 1) + 2 by omega, HUP2.out, if_neg (fun e => HEQ2.out (by rw [e]; congr 1; omega))]
                  congr 2
                  · congr 1; omega
                  · congr 1; omega⟩
                case measure => simp [intOf]; omega
            · have hk2e : q + 1 + k2 = m := by omega
              have hcl := fun ty => Go.Lib.run_clear_slice (P := Ybaz.prog) wr 53 20 ty Value.nilIface Ybaz.underlying53 zero20 rfl rfl g kc (m - kc) (cap - kc) (by omega) (fun j hj => by rw [hSr.cell (show kc + j < m by omega)]; rfl) (fun j hj => hSr.frozen _)
              have hS5 := hSr.clear (k := kc) (by omega) (List.replicate (m - kc) .nilIface)
              have hB5 := hBr.trans (butSetCells g (List.replicate (m - kc) .nilIface) kc wr)
              have hpre2 := HPR.out
              rw [hk2e] at hpre2
              have HP2 := Hid.mk hpre2
              clear hpre2 hk2e
              go_wp2_with fail
              generalize hW5 : wr.setCells g kc (List.replicate (m - kc) .nilIface) = W5 at *
              clear hcl hW5 hSr hBr
              go_wp2
              go_ret
              exact ⟨hB5, kc, B, rfl, by omega, by omega, hS5, HP2.out⟩
        · have hsm := sameS_false (Ne.symm heq)
          have HEQ := Hid.mk heq
          clear heq
          go_wp2_with fail
          go_quiet (fail)
          have hSq := Since.drewN nq (Since.refl wr)
          have hB2 := hBr.trans ⟨hSq.out.os, hSq.out.tape, hSq.out.output, hSq.size, fun i hi _ => hSq.out.block i hi⟩
          have hS2 := hSr.keep (hSq.out.block g hSr.lt)
          generalize hW2 : wr.drewN nq = W2 at *
          have hstart : uniq (pre A (q + 1 + 1)) = pre A (q + 1 + 1) := by rw [HUP.out, if_neg HEQ.out, HU.out, ← pre_succ]
          have HST := Hid.mk hstart
          clear hW2 hSq hBr hSr c1 c0 lg hsm hstart
          go_wp2
          go_roundw
          case rel => exact ⟨q + 1 + 1, by omega, by omega, by go_num, HST.out, hB2, hS2⟩
          case measure => simp [intOf]; omega
      · have hkm2 : k = m := by omega
        subst hkm2
        go_wp2
        go_ret
        exact ⟨hBr, k, A, rfl, hk1, Nat.le_refl _, hSr, HU.out.symm⟩
end Go.Proofs.YbulkcvxmGreatFmt
