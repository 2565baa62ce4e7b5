/- What the law's own walk uses. -/
import Derived.Test.YbulkcvzqFmtBd
set_option linter.unusedSimpArgs false
set_option linter.unusedVariables false
namespace Go.Proofs.YbulkcvzqFmt
open Go.RowKit

/-- A slice of whole numbers that came in. -/
def IsIn (q : IntKind) (lo hi : Int) (w : World) (a : Option Addr) (len cap : Nat) (Z : Nat → Int) : Prop :=
  len ≤ cap ∧ cap ≤ maxLen ∧ (len = 0 ∨ ∃ b off, a = some ⟨b, off, none⟩ ∧ ∀ j, j < len → lo ≤ Z j ∧ Z j ≤ hi ∧ w.cell? ⟨b, off + j, none⟩ = some (.int q (Z j)))

/-- What of d is fixed from the start. -/
structure Ctx (d : Dat) (base n k sb : Nat) (idx : Int) (own : Nat → Nat) (lead : Nat → Int) (wr : Nat → Bool) : Prop where
  b : d.base = base
  n : d.n = n
  k : d.k = k
  sb : d.sb = sb
  idx : d.idx = idx
  own : d.own = own
  lead : d.lead = lead
  wr : d.wr = wr

theorem Ybaf.info3 : (Ybaf.prog.info? 3).map (fun i => (i.zero, i.size, i.bytes)) = some (some (.int .i64 0), 1, 8) := by kernel_rfl
theorem Ybaf.info4 : (Ybaf.prog.info? 4).map (fun i => (i.zero, i.size, i.bytes)) = some (some (.bool false), 1, 1) := by kernel_rfl
theorem Ybaf.info43 : (Ybaf.prog.info? 43).map (fun i => (i.zero, i.size, i.bytes)) = some (some (.pointer none), 1, 8) := by kernel_rfl
theorem Ybaf.info58 : (Ybaf.prog.info? 58).map (fun i => (i.zero, i.size, i.bytes)) = some (some (.agg #[.int .i64 0, .bool false]), 2, 16) := by kernel_rfl

/-- The start. -/
theorem bd0 (w : World) (n k : Nat) (idx : Int) (own : Nat → Nat) (lead : Nat → Int) (wr : Nat → Bool) (hn : n ≤ 1024) (hk : k ≤ 1024) {W : World}
    (hW : W = (((((((w.alloc (.map #[] 0)).alloc (.map #[] 0)).alloc (.map #[] 0)).alloc (.map #[] 0)).alloc (.cells (shC idx w.heap.size (w.heap.size + 1) (w.heap.size + 1 + 1) (w.heap.size + 1 + 1 + 1) (.slice none 0 0)) 41)).alloc (.cells (madeCells #[Value.int .i64 0] n) 3)).alloc (.cells (madeCells #[Value.pointer none] k) 43))) :
    Bd w W { base := w.heap.size, n := n, k := k, idx := idx, own := own, lead := lead, wr := wr, sb := w.heap.size + 1 + 1 + 1 + 1, am := w.heap.size, pm := w.heap.size + 1, rm := w.heap.size + 1 + 1, um := w.heap.size + 1 + 1 + 1, AB := fun _ => 0, MB := fun _ => 0, PB := fun _ => 0, QB := fun _ => 0, TS := fun _ => .slice none 0 0 } 0 0 0 0 (w.heap.size + 1 + 1 + 1 + 1 + 1) (w.heap.size + 1 + 1 + 1 + 1 + 1 + 1) := by
  subst hW
  have s1 := Since.new w (.map #[] 0)
  have m1 := Mp.made w und3
  generalize hw1 : w.alloc (.map #[] 0) = w1 at *
  have z1 : w1.heap.size = w.heap.size + 1 := by rw [← hw1]; simp
  have s2 := Since.new w1 (.map #[] 0)
  have m2 := Mp.made w1 (K := 2) Ybaf.underlying2
  generalize hw2 : w1.alloc (.map #[] 0) = w2 at *
  have z2 : w2.heap.size = w.heap.size + 1 + 1 := by rw [← hw2]; simp [z1]
  have s3 := Since.new w2 (.map #[] 0)
  have m3 := Mp.made w2 (K := 2) Ybaf.underlying2
  generalize hw3 : w2.alloc (.map #[] 0) = w3 at *
  have z3 : w3.heap.size = w.heap.size + 1 + 1 + 1 := by rw [← hw3]; simp [z2]
  have s4 := Since.new w3 (.map #[] 0)
  have m4 := Mp.made w3 (K := 2) Ybaf.underlying2
  generalize hw4 : w3.alloc (.map #[] 0) = w4 at *
  have z4 : w4.heap.size = w.heap.size + 1 + 1 + 1 + 1 := by rw [← hw4]; simp [z3]
  have s5 := Since.new w4 (.cells (shC idx w.heap.size (w.heap.size + 1) (w.heap.size + 1 + 1) (w.heap.size + 1 + 1 + 1) (.slice none 0 0)) 41)
  have b5 := newBlock w4 (.cells (shC idx w.heap.size (w.heap.size + 1) (w.heap.size + 1 + 1) (w.heap.size + 1 + 1 + 1) (.slice none 0 0)) 41)
  generalize hw5 : w4.alloc _ = w5 at *
  have z5 : w5.heap.size = w.heap.size + 1 + 1 + 1 + 1 + 1 := by rw [← hw5]; simp [z4]
  have s6 := Since.new w5 (.cells (madeCells #[Value.int .i64 0] n) 3)
  have b6 := Cells.made w5 3 n (.int .i64 0) rfl
  have hc6 : (Value.int .i64 0).cells = #[Value.int .i64 0] := rfl
  rw [hc6] at b6
  generalize hw6 : w5.alloc _ = w6 at *
  have z6 : w6.heap.size = w.heap.size + 1 + 1 + 1 + 1 + 1 + 1 := by rw [← hw6]; simp [z5]
  have s7 := Since.new w6 (.cells (madeCells #[Value.pointer none] k) 43)
  have b7 := Cells.made w6 43 k (.pointer none) rfl
  have hc7 : (Value.pointer none).cells = #[Value.pointer none] := rfl
  rw [hc7] at b7
  generalize hw7 : w6.alloc _ = w7 at *
  rw [z1] at m2
  rw [z2] at m3
  rw [z3] at m4
  rw [z4] at b5
  rw [z5] at b6
  rw [z6] at b7
  have s57 := s7.then s6
  have s47 := s57.then s5
  have s37 := s47.then s4
  have s27 := s37.then s3
  have s17 := s27.then s2
  exact {
    sc := s17.then s1
    bs := rfl
    sh := s57.keep b5
    pa := fun j hj => absurd hj (Nat.not_lt_zero _)
    qa := fun j hj => absurd hj (Nat.not_lt_zero _)
    ts := fun j hj => absurd hj (Nat.not_lt_zero _)
    tsd := fun j j' hj => absurd hj (Nat.not_lt_zero _)
    mA := (m1.since s17).congr (fun x hx => by simp only [accF]; rw [if_neg (by omega)])
    mP := (m2.since s27).congr (fun x hx => by simp only [partF]; rw [if_neg (by omega)])
    mR := m3.since s37
    mU := m4.since s47
    mB := fun j hj => absurd hj (Nat.not_lt_zero _)
    ac := fun j hj => absurd hj (Nat.not_lt_zero _)
    obr := (b6.since s7).congr (fun x hx => by rw [if_neg (Nat.not_lt_zero _)])
    pbr := b7.congr (fun x hx => by rw [if_neg (Nat.not_lt_zero _)])
    dis := by refine ⟨?_, ?_, ?_, ?_, ?_, ?_⟩ <;> simp <;> omega
    disB := fun j hj => absurd hj (Nat.not_lt_zero _)
    n10 := hn
    k10 := hk
    ik := Nat.zero_le _
    an := Nat.zero_le _
    l1 := by simp; omega
    l2 := by simp
    l3 := by simp; omega
    l4 := Nat.le_refl _
    l5 := by simp; omega
    l6 := by simp; omega
    lA := fun j hj => absurd hj (Nat.not_lt_zero _)
    lP := fun j hj => absurd hj (Nat.not_lt_zero _) }

theorem Bd.partW1 {w0 w : World} {d : Dat} {i c ob pb : Nat} {W1 : World} (h : Bd w0 w d i 0 c 0 ob pb) (hi : i < d.k)
    (hW1 : W1 = ((w.setCell ⟨pb, i, none⟩ (ptr (w.heap.size + 1))).alloc (.cells (qaC (1000 + i) d.idx) 47)).alloc (.cells (paC w.heap.size (d.lead i) (.slice none 0 0)) 52)) :
    Mp W1 2 d.pm (partF d i (fun _ => false)) i ∧ W1.cell? ⟨pb, i, none⟩ = some (.pointer (some ⟨w.heap.size + 1, 0, none⟩)) ∧ W1.cell? ⟨d.sb, 6, none⟩ = some (.map (some d.pm)) ∧ pb < W1.heap.size ∧ d.sb < W1.heap.size := by
  have hpX := h.pbr.set hi (ptr (w.heap.size + 1))
  have kX : Kx [43] [] w (w.setCell ⟨pb, i, none⟩ (ptr (w.heap.size + 1))) := h.pbr.kxset (by simp)
  generalize hX : w.setCell ⟨pb, i, none⟩ (ptr (w.heap.size + 1)) = X at *
  have hS := (Since.new (X.alloc (.cells (qaC (1000 + i) d.idx) 47)) (.cells (paC w.heap.size (d.lead i) (.slice none 0 0)) 52)).then (Since.new X (.cells (qaC (1000 + i) d.idx) 47))
  rw [← hW1] at hS
  have k1 : Kx [43] [] w W1 := kX.trans (Kx.since hS)
  have hp1 := hpX.since hS
  have c1 := hp1.cell hi
  rw [upd_same] at c1
  have hs1 := k1.cell _ _ _ _ h.sh (by simp)
  exact ⟨k1.mp h.mP (by simp), c1, cellOf hs1, hp1.lt, sizeOf_block hs1⟩
end Go.Proofs.YbulkcvzqFmt
namespace Go.Proofs.YbulkcvzqFmt
open Go.RowKit
theorem Bd.accW {w0 w : World} {d : Dat} {i a t ob pb : Nat} {W : World} (h : Bd w0 w d i a a t ob pb) (ha : a < d.n) {o : Nat} (ho : d.own a = o) (hh : Option Addr)
    (hW : W = ((w.setCell ⟨ob, a, none⟩ (.int .i64 o)).alloc (.map #[] 0)).alloc (.cells (acC a w.heap.size hh) 56)) :
    Bd w0 W d i a (a + 1) t ob pb ∧ W.heap[w.heap.size + 1]? = some (.cells (acC a w.heap.size hh) 56) ∧ Mp W 2 w.heap.size (fun _ => none) 0 ∧ (w.heap.size ≠ d.pm ∧ w.heap.size ≠ d.um ∧ w.heap.size ≠ d.am) ∧ d.base ≤ w.heap.size + 1 := by
  have h1 := h.owner ha
  rw [ho] at h1
  have eX : (w.setCell ⟨ob, a, none⟩ (.int .i64 o)).heap.size = w.heap.size := by simp [World.setCell]
  generalize hX : w.setCell ⟨ob, a, none⟩ (.int .i64 o) = X at *
  have s1 := Since.new X (.map #[] 0)
  have m1 := Mp.made X (K := 2) Ybaf.underlying2
  rw [eX] at m1
  have s2 := Since.new (X.alloc (.map #[] 0)) (.cells (acC a w.heap.size hh) 56)
  have b2 := newBlock (X.alloc (.map #[] 0)) (.cells (acC a w.heap.size hh) 56)
  have e1 : (X.alloc (.map #[] 0)).heap.size = w.heap.size + 1 := by simp [eX]
  rw [e1] at b2
  rw [← hW] at s2 b2
  have q1 := h.mP.lt
  have q2 := h.mU.lt
  have q3 := h.mA.lt
  have q4 := h.sc.size
  have q5 := h.bs
  exact ⟨h1.since (s2.then s1), b2, m1.since s2, ⟨by omega, by omega, by omega⟩, by omega⟩
/-- A store of an account into the map. -/
theorem Bd.accM {w0 w : World} {d : Dat} {i a c t ob pb : Nat} (h : Bd w0 w d i a c t ob pb) (v : Value) :
    ∃ w', (Instr.mapUpdate 26 (.map (some d.am)) (.int .i64 a) v).run Ybaf.prog w = .ok () w' ∧ Mp w' 3 d.am (updI (accF d a) a (some v)) (a + 1) ∧ w.mapTurned w' d.am := by
  have := h.n10
  have := h.an
  obtain ⟨w', hr, hm, ht⟩ := h.mA.store Ybaf.underlying26 (x := a) (w64 (by omega) (by omega)) v (by omega)
  refine ⟨w', hr, ?_, ht⟩
  have e : (accF d a a).isSome = false := by
    simp only [accF]
    rw [if_neg (by omega)]
    rfl
  rw [e] at hm
  simp only [Bool.false_eq_true, if_false] at hm
  exact hm
theorem tc_one (u : Int) (b : Bool) : ∀ v ∈ [Value.int .i64 u, .bool b], v.oneCell' = true := by
  intro u hu
  simp at hu
  rcases hu with rfl | rfl <;> rfl
end Go.Proofs.YbulkcvzqFmt
