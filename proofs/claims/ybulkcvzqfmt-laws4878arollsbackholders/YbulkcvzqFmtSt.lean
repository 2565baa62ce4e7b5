/- The shard's memory, as the law lays it. -/
import Derived.Test.YbulkcvzqFmtMp
set_option linter.unusedSimpArgs false
set_option linter.unusedVariables false
namespace Go.Proofs.YbulkcvzqFmt
open Go.RowKit

/-- What stays as it is. -/
structure Dat where
  base : Nat
  n : Nat
  k : Nat
  idx : Int
  own : Nat → Nat
  lead : Nat → Int
  wr : Nat → Bool
  sb : Nat
  am : Nat
  pm : Nat
  rm : Nat
  um : Nat
  AB : Nat → Nat
  MB : Nat → Nat
  PB : Nat → Nat
  QB : Nat → Nat
  TS : Nat → Value

def ptr (b : Nat) : Value := .pointer (some ⟨b, 0, none⟩)
def tcC (wr : Nat → Bool) (a : Nat) : List Value := [.int .i64 a, .bool (wr a)]
def msgC (idx : Int) (lead : Nat → Int) (i : Nat) : List Value := [.int .i64 idx, .int .i64 (lead i), .int .i64 8, .int .i64 (1000 + i), .int .u8 11, .pointer none]
def shC (idx : Int) (am pm rm um : Nat) (ov : Value) : Array Value :=
  #[.int .i64 idx, .pointer none, .int .i64 0, .string ⟨#[]⟩, .slice none 0 0, .map (some am), .map (some pm), .map (some rm), .map (some um), .slice none 0 0, .slice none 0 0, .slice none 0 0, .bool false,
    .int .i64 0, .map none, .slice none 0 0, .map none, .int .i64 0, .int .i64 0, .int .i64 0, .int .i64 0, ov, .slice none 0 0]
def paC (q : Nat) (lead : Int) (ts : Value) : Array Value := #[ptr q, .int .i64 lead, ts, .slice none 0 0, .slice none 0 0, .bool false, .bool false, .bool false]
def qaC (tx : Int) (idx : Int) : Array Value := #[.int .i64 tx, .int .i64 idx, .slice none 0 0]
def acC (a mb : Nat) (h : Option Addr) : Array Value := #[.int .i64 (a * 7 - 3), .int .u64 a, .map (some mb), .pointer h]
/-- The accounts that part i holds, of those below n. -/
def heldBy (own : Nat → Nat) (i n : Nat) : List Nat := (List.range n).filter (fun a => own a == i)
/-- Who holds account a. -/
def hv (d : Dat) (hol : Nat → Bool) (a : Nat) : Option Addr := if hol a then some ⟨d.PB (d.own a), 0, none⟩ else none
def accF (d : Dat) (n : Nat) (x : Int) : Option Value := if 0 ≤ x ∧ x < n then some (ptr (d.AB x.toNat)) else none
def partF (d : Dat) (k : Nat) (gp : Nat → Bool) (x : Int) : Option Value := if 1000 ≤ x ∧ x < 1000 + k ∧ gp (x - 1000).toNat = false then some (ptr (d.PB (x - 1000).toNat)) else none
def undF (d : Dat) (gu : Nat → Bool) (x : Int) : Option Value := if 1000 ≤ x ∧ x < 1000 + d.k ∧ gu (x - 1000).toNat = true then some (.bool true) else none

/-- An object that the calls leave alone. -/
def Kept (d : Dat) (i : Nat) : Obj → Prop
  | .cells _ T _ => T ≠ 41 ∧ T ≠ 56 ∧ T ≠ 63
  | .map _ _ => i ≠ d.pm ∧ i ≠ d.um
  | _ => True
/-- What the calls leave alone. -/
structure Tf (d : Dat) (w w' : World) : Prop where
  os : w'.os = w.os
  tape : w'.tape = w.tape
  output : w'.output = w.output
  size : w.heap.size ≤ w'.heap.size
  low : ∀ i, i < w.heap.size → i < d.base → w'.heap[i]? = w.heap[i]?
  typ : ∀ i o, w.heap[i]? = some o → Kept d i o → w'.heap[i]? = some o
section
variable {d : Dat} {w w' w'' : World}
theorem Tf.refl (d : Dat) (w : World) : Tf d w w := ⟨rfl, rfl, rfl, Nat.le_refl _, fun _ _ _ => rfl, fun _ _ h _ => h⟩
theorem Tf.trans (h : Tf d w w') (h' : Tf d w' w'') : Tf d w w'' :=
  ⟨h'.os.trans h.os, h'.tape.trans h.tape, h'.output.trans h.output, Nat.le_trans h.size h'.size, fun i hi hb => (h'.low i (Nat.lt_of_lt_of_le hi h.size) hb).trans (h.low i hi hb), fun i o ho hk => h'.typ i o (h.typ i o ho hk) hk⟩
theorem Tf.since (h : Since w w') : Tf d w w' :=
  ⟨h.out.os, h.out.tape, h.out.output, h.out.size, fun i hi _ => h.out.block i hi, fun i o ho _ => h.keep ho⟩
theorem Tf.thenS (h : Tf d w w') (h' : Since w' w'') : Tf d w w'' := h.trans (Tf.since h')
theorem Tf.set {b o : Nat} {v : Value} {cs : Array Value} {T : TypeId} {fz : Nat × Nat} (hb : w.heap[b]? = some (.cells cs T fz)) (hT : T = 41 ∨ T = 56 ∨ T = 63) (hl : d.base ≤ b) : Tf d w (w.setCell ⟨b, o, none⟩ v) := by
  refine ⟨rfl, rfl, rfl, by simp [World.setCell], fun i hi hb' => setFar (by omega), fun i o ho hk => ?_⟩
  by_cases e : i = b
  · subst e
    rw [hb] at ho
    cases ho
    simp only [Kept] at hk
    rcases hT with rfl | rfl | rfl <;> simp at hk
  · rw [setFar e]; exact ho
theorem Tf.turned {b : Nat} (h : w.mapTurned w' b) (hb : b = d.pm ∨ b = d.um) (hl : d.base ≤ b) : Tf d w w' := by
  have hg := h.grown
  refine ⟨hg.os, hg.tape, hg.output, hg.size, fun i hi hb' => hg.block i hi (by simp; omega), fun i o ho hk => ?_⟩
  by_cases e : i = b
  · subst e
    obtain ⟨es, cl, _, _, h1, _⟩ := h
    rw [h1] at ho
    cases ho
    simp only [Kept] at hk
    rcases hb with rfl | rfl <;> simp at hk
  · rw [hg.block i (sizeOf_block ho) (by simp [e])]; exact ho
theorem Tf.app {α : Type} {F : α → List Value} {v : Value} {l : List α} (h : w.grownBy w' v.ownBlock) (hr : RowL w d.base 63 6 F v l) : Tf d w w' := by
  refine ⟨h.os, h.tape, h.output, h.size, fun i hi hb' => h.block i hi (fun e => ?_), fun i o ho hk => ?_⟩
  · rcases hr.own.2 with ⟨rfl, _⟩ | ⟨g, cap, cur, rfl, hb, hg, _⟩
    · cases e
    · simp [Value.ownBlock] at e; omega
  · rw [h.block i (sizeOf_block ho) (fun e => ?_)]
    · exact ho
    · rcases hr.own.2 with ⟨rfl, _⟩ | ⟨g, cap, cur, rfl, hb, hg, _⟩
      · cases e
      · simp [Value.ownBlock] at e
        subst e
        rw [hg] at ho
        cases ho
        simp [Kept] at hk
theorem Tf.drew (h : Tf d w w') : Tf d w w'.drew := ⟨h.os, h.tape, h.output, h.size, h.low, h.typ⟩
theorem Tf.keep (h : Tf d w w') {i : Nat} {cs : Array Value} {T : TypeId} {fz : Nat × Nat} (hi : w.heap[i]? = some (.cells cs T fz)) (hT : T ≠ 41 ∧ T ≠ 56 ∧ T ≠ 63) : w'.heap[i]? = some (.cells cs T fz) := h.typ i _ hi hT
theorem Tf.mp (h : Tf d w w') {K b sz : Nat} {f : Int → Option Value} (hm : Mp w K b f sz) (h1 : b ≠ d.pm) (h2 : b ≠ d.um) : Mp w' K b f sz := by
  obtain ⟨es, cl, hb⟩ := hm.isMap
  exact hm.keep ((h.typ b _ hb ⟨h1, h2⟩).trans hb.symm)
theorem Tf.row (h : Tf d w w') {α : Type} {base e sz : Nat} {F : α → List Value} {v : Value} {l : List α} (hr : RowL w base e sz F v l) (hT : e ≠ 41 ∧ e ≠ 56 ∧ e ≠ 63) : RowL w' base e sz F v l :=
  hr.keep (fun g cs _ hg => h.typ g _ hg hT)
end

/-- What no call turns. -/
structure Fx (w : World) (d : Dat) : Prop where
  pa : ∀ i, i < d.k → w.heap[d.PB i]? = some (.cells (paC (d.QB i) (d.lead i) (d.TS i)) 52)
  qa : ∀ i, i < d.k → w.heap[d.QB i]? = some (.cells (qaC (1000 + i) d.idx) 47)
  ts : ∀ i, i < d.k → RowL w d.base 58 2 (tcC d.wr) (d.TS i) (heldBy d.own i d.n)
  mA : Mp w 3 d.am (accF d d.n) d.n
  mR : Mp w 2 d.rm (fun _ => none) 0
  mB : ∀ a, a < d.n → Mp w 2 (d.MB a) (fun _ => none) 0
  dis : d.am ≠ d.pm ∧ d.am ≠ d.um ∧ d.rm ≠ d.pm ∧ d.rm ≠ d.um ∧ d.pm ≠ d.um
  disB : ∀ a, a < d.n → d.MB a ≠ d.pm ∧ d.MB a ≠ d.um
  n10 : d.n ≤ 1024
  k10 : d.k ≤ 1024
  l1 : d.base ≤ d.sb
  l2 : d.base ≤ d.pm
  l3 : d.base ≤ d.um
  lA : ∀ a, a < d.n → d.base ≤ d.AB a
  lw : d.base ≤ w.heap.size
theorem Fx.tf {d : Dat} {w w' : World} (h : Fx w d) (t : Tf d w w') : Fx w' d where
  pa := fun i hi => t.keep (h.pa i hi) (by decide)
  qa := fun i hi => t.keep (h.qa i hi) (by decide)
  ts := fun i hi => t.row (h.ts i hi) (by decide)
  mA := t.mp h.mA h.dis.1 h.dis.2.1
  mR := t.mp h.mR h.dis.2.2.1 h.dis.2.2.2.1
  mB := fun a ha => t.mp (h.mB a ha) (h.disB a ha).1 (h.disB a ha).2
  dis := h.dis
  disB := h.disB
  n10 := h.n10
  k10 := h.k10
  l1 := h.l1
  l2 := h.l2
  l3 := h.l3
  lA := h.lA
  lw := Nat.le_trans h.lw t.size

/-- The whole: 'hol a': account a is held by its owner; 'gp', 'np': the parts' map and its size; 'gu', 'nu': the undone ones; 'ord': the messages. -/
structure St (w : World) (d : Dat) (hol gp : Nat → Bool) (np : Nat) (gu : Nat → Bool) (nu : Nat) (ord : List Nat) : Prop where
  fx : Fx w d
  sh : ∃ ov, w.heap[d.sb]? = some (.cells (shC d.idx d.am d.pm d.rm d.um ov) 41) ∧ RowL w d.base 63 6 (msgC d.idx d.lead) ov ord
  ac : ∀ a, a < d.n → w.heap[d.AB a]? = some (.cells (acC a (d.MB a) (hv d hol a)) 56)
  mP : Mp w 2 d.pm (partF d d.k gp) np
  mU : Mp w 2 d.um (undF d gu) nu
section
variable {d : Dat} {w w' : World} {hol gp : Nat → Bool} {np : Nat} {gu : Nat → Bool} {nu : Nat} {ord : List Nat}
theorem St.since (h : St w d hol gp np gu nu ord) (hs : Since w w') : St w' d hol gp np gu nu ord :=
  ⟨h.fx.tf (Tf.since hs), by obtain ⟨ov, h1, h2⟩ := h.sh; exact ⟨ov, hs.keep h1, h2.since hs⟩, fun a ha => hs.keep (h.ac a ha), h.mP.since hs, h.mU.since hs⟩
theorem St.inj (h : St w d hol gp np gu nu ord) {a b : Nat} (ha : a < d.n) (hb : b < d.n) (e : d.AB a = d.AB b) : a = b := by
  have h1 := h.ac a ha
  rw [e, h.ac b hb] at h1
  simp [acC] at h1
  omega
/-- The account that is written is not the shard. -/
theorem St.sbne (h : St w d hol gp np gu nu ord) {a : Nat} (ha : a < d.n) : d.sb ≠ d.AB a := fun e => by
  obtain ⟨ov, h1, _⟩ := h.sh
  rw [e, h.ac a ha] at h1
  simp at h1
end
end Go.Proofs.YbulkcvzqFmt
