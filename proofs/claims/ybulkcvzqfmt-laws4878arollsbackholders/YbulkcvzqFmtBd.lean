/- The shard in building. -/
import Derived.Test.YbulkcvzqFmtSeize
set_option linter.unusedSimpArgs false
set_option linter.unusedVariables false
namespace Go.Proofs.YbulkcvzqFmt
open Go.RowKit

/-- All blocks of cells stand but those of the types Ts, all maps but those of Ms. -/
structure Kx (Ts Ms : List Nat) (w w' : World) : Prop where
  size : w.heap.size ≤ w'.heap.size
  cell : ∀ (i : Nat) cs T fz, w.heap[i]? = some (.cells cs T fz) → T ∉ Ts → w'.heap[i]? = some (.cells cs T fz)
  map : ∀ (i : Nat) es cl, w.heap[i]? = some (.map es cl) → i ∉ Ms → w'.heap[i]? = some (.map es cl)
section
variable {Ts Ms : List Nat} {w w' w'' : World}
theorem Kx.refl (Ts Ms : List Nat) (w : World) : Kx Ts Ms w w := ⟨Nat.le_refl _, fun _ _ _ _ h _ => h, fun _ _ _ h _ => h⟩
theorem Kx.trans (h : Kx Ts Ms w w') (h' : Kx Ts Ms w' w'') : Kx Ts Ms w w'' := ⟨Nat.le_trans h.size h'.size, fun i cs T fz hi hT => h'.cell i cs T fz (h.cell i cs T fz hi hT) hT, fun i es cl hi hM => h'.map i es cl (h.map i es cl hi hM) hM⟩
theorem Kx.since (h : Since w w') : Kx Ts Ms w w' := ⟨h.size, fun i cs T fz hi _ => h.keep hi, fun i es cl hi _ => h.keep hi⟩
theorem Kx.set {b o : Nat} {v : Value} {cs : Array Value} {T : TypeId} {fz : Nat × Nat} (hb : w.heap[b]? = some (.cells cs T fz)) (hT : T ∈ Ts) : Kx Ts Ms w (w.setCell ⟨b, o, none⟩ v) := by
  refine ⟨by simp [World.setCell], fun i cs' T' fz' hi hn => ?_, fun i es cl hi hn => ?_⟩
  · rw [setFar (fun e => ?_)]
    · exact hi
    · subst e; rw [hb] at hi; cases hi; exact hn hT
  · rw [setFar (fun e => ?_)]
    · exact hi
    · subst e; rw [hb] at hi; cases hi
theorem Kx.turned {b : Nat} (h : w.mapTurned w' b) (hb : b ∈ Ms) : Kx Ts Ms w w' := by
  have hg := h.grown
  obtain ⟨es0, cl0, _, _, h1, _⟩ := h
  refine ⟨hg.size, fun i cs' T' fz' hi hn => ?_, fun i es cl hi hn => ?_⟩
  · rw [hg.block i (sizeOf_block hi) (fun e => ?_)]
    · exact hi
    · cases e; rw [h1] at hi; cases hi
  · rw [hg.block i (sizeOf_block hi) (fun e => ?_)]
    · exact hi
    · cases e; exact hn hb
theorem Kx.app {α : Type} {base e sz : Nat} {F : α → List Value} {v : Value} {l : List α} (h : w.grownBy w' v.ownBlock) (hr : RowL w base e sz F v l) (he : e ∈ Ts) : Kx Ts Ms w w' := by
  have key : ∀ (i : Nat) (o : Obj), w.heap[i]? = some o → (∀ cs fz, o ≠ .cells cs e fz) → w'.heap[i]? = some o := fun i o ho hne => by
    rw [h.block i (sizeOf_block ho) (fun e' => ?_)]
    · exact ho
    · rcases hr.own.2 with ⟨rfl, _⟩ | ⟨g', cap', cur, rfl, hb, hg', _⟩
      · cases e'
      · simp [Value.ownBlock] at e'
        subst e'
        rw [hg'] at ho
        cases ho
        exact hne _ _ rfl
  refine ⟨h.size, fun i cs' T' fz' hi hn => key i _ hi (fun cs fz e' => ?_), fun i es cl hi hn => key i _ hi (fun cs fz e' => by cases e')⟩
  cases e'
  exact hn he
theorem Kx.mp (h : Kx Ts Ms w w') {K b sz : Nat} {f : Int → Option Value} (hm : Mp w K b f sz) (h1 : b ∉ Ms) : Mp w' K b f sz := by
  obtain ⟨es, cl, hb⟩ := hm.isMap
  exact hm.keep ((h.map b _ _ hb h1).trans hb.symm)
theorem Kx.row (h : Kx Ts Ms w w') {α : Type} {base e sz : Nat} {F : α → List Value} {v : Value} {l : List α} (hr : RowL w base e sz F v l) (hT : e ∉ Ts) : RowL w' base e sz F v l :=
  hr.keep (fun g cs _ hg => h.cell g cs e _ hg hT)
end

theorem Since.set {w0 w : World} {b o : Nat} {v : Value} (h : Since w0 w) (hb : w0.heap.size ≤ b) : Since w0 (w.setCell ⟨b, o, none⟩ v) := Below.setCell h.out hb _
theorem Since.grown {w0 w w' : World} {row : Option Nat} (h : Since w0 w) (hg : w.grownBy w' row) (hb : ∀ b, row = some b → w0.heap.size ≤ b) : Since w0 w' :=
  ⟨hg.os.trans h.out.os, hg.tape.trans h.out.tape, hg.output.trans h.out.output, Nat.le_trans h.size hg.size, fun i hi => (hg.block i (Nat.lt_of_lt_of_le hi h.size) (fun e => by have := hb i e.symm; omega)).trans (h.out.block i hi)⟩
theorem Since.turned {w0 w w' : World} {b : Nat} (h : Since w0 w) (ht : w.mapTurned w' b) (hb : w0.heap.size ≤ b) : Since w0 w' := h.grown ht.grown (fun b' e => by cases e; exact hb)
theorem Since.tf {d : Dat} {w0 w w' : World} (h : Since w0 w) (ht : Tf d w w') (hb : w0.heap.size ≤ d.base) : Since w0 w' :=
  ⟨ht.os.trans h.out.os, ht.tape.trans h.out.tape, ht.output.trans h.out.output, Nat.le_trans h.size ht.size, fun i hi => (ht.low i (Nat.lt_of_lt_of_le hi h.size) (by omega)).trans (h.out.block i hi)⟩
theorem RowL.base_ge {α : Type} {w : World} {base e sz : Nat} {F : α → List Value} {v : Value} {l : List α} (h : RowL w base e sz F v l) : ∀ b, v.ownBlock = some b → base ≤ b ∧ b < w.heap.size := by
  intro b e
  rcases h.own.2 with ⟨rfl, _⟩ | ⟨g', cap', cur, rfl, hb, hg', _⟩
  · cases e
  · simp [Value.ownBlock] at e
    subst e
    exact ⟨hb, sizeOf_block hg'⟩
theorem RowL.lower {α : Type} {w : World} {base base' e sz : Nat} {F : α → List Value} {v : Value} {l : List α} (h : RowL w base e sz F v l) (hb : base' ≤ base) : RowL w base' e sz F v l := by
  obtain ⟨⟨h1, h2⟩⟩ := h
  refine ⟨⟨h1, ?_⟩⟩
  rcases h2 with h2 | ⟨g, cap, cur, h3, h4, h5⟩
  · exact .inl h2
  · exact .inr ⟨g, cap, cur, h3, Nat.le_trans hb h4, h5⟩

/-- A row of n cells, by place. -/
structure Cells (w : World) (b T n : Nat) (F : Nat → Value) : Prop where
  ex : ∃ cs, w.heap[b]? = some (.cells cs T) ∧ cs.size = n ∧ ∀ x, x < n → cs[x]? = some (F x)
section
variable {w w' : World} {b T n : Nat} {F : Nat → Value}
theorem Cells.lt (h : Cells w b T n F) : b < w.heap.size := by obtain ⟨cs, h1, _⟩ := h.ex; exact sizeOf_block h1
theorem Cells.since (h : Cells w b T n F) (hs : Since w w') : Cells w' b T n F := by
  obtain ⟨cs, h1, h2⟩ := h.ex
  exact ⟨cs, hs.keep h1, h2⟩
theorem Cells.kx {Ts Ms : List Nat} (h : Cells w b T n F) (hk : Kx Ts Ms w w') (hT : T ∉ Ts) : Cells w' b T n F := by
  obtain ⟨cs, h1, h2⟩ := h.ex
  exact ⟨cs, hk.cell b _ _ _ h1 hT, h2⟩
theorem Cells.tf {d : Dat} (h : Cells w b T n F) (hk : Tf d w w') (hT : T ≠ 41 ∧ T ≠ 56 ∧ T ≠ 63) : Cells w' b T n F := by
  obtain ⟨cs, h1, h2⟩ := h.ex
  exact ⟨cs, hk.keep h1 hT, h2⟩
theorem Cells.cell (h : Cells w b T n F) {x : Nat} (hx : x < n) : w.cell? ⟨b, x, none⟩ = some (F x) := by
  obtain ⟨cs, h1, h2, h3⟩ := h.ex
  rw [cellOf h1]; exact h3 x hx
theorem Cells.frozen (h : Cells w b T n F) (x : Nat) : w.frozen? ⟨b, x, none⟩ = false := by
  obtain ⟨cs, h1, h2, h3⟩ := h.ex
  exact frozenOf h1
theorem Cells.set (h : Cells w b T n F) {x : Nat} (hx : x < n) (v : Value) : Cells (w.setCell ⟨b, x, none⟩ v) b T n (upd F x v) := by
  obtain ⟨cs, h1, h2, h3⟩ := h.ex
  refine ⟨_, setOf h1, by simp [h2], fun y hy => ?_⟩
  by_cases e : y = x
  · subst e; rw [upd_same, Array.getElem?_setIfInBounds, if_pos rfl, if_pos (by omega)]
  · rw [upd_ne _ _ e, Array.getElem?_setIfInBounds, if_neg (Ne.symm e)]; exact h3 y hy
theorem Cells.kxset {Ts Ms : List Nat} {x : Nat} {v : Value} (h : Cells w b T n F) (hT : T ∈ Ts) : Kx Ts Ms w (w.setCell ⟨b, x, none⟩ v) := by
  obtain ⟨cs, h1, h2⟩ := h.ex
  exact Kx.set h1 hT
theorem Cells.congr {G : Nat → Value} (h : Cells w b T n F) (he : ∀ x, x < n → G x = F x) : Cells w b T n G := by
  obtain ⟨cs, h1, h2, h3⟩ := h.ex
  exact ⟨cs, h1, h2, fun x hx => by rw [he x hx]; exact h3 x hx⟩
theorem Cells.made (w : World) (T n : Nat) (z : Value) (hz : z.cells = #[z]) : Cells (w.alloc (.cells (madeCells z.cells n) T)) w.heap.size T n (fun _ => z) := by
  refine ⟨_, newBlock _ _, by simp [size_madeCells], fun v hv => ?_⟩
  rw [hz]
  simp [madeCells, hv, Nat.mod_one]
end

/-- The shard in building: i parts and a accounts are there, c owners noted, the touches of t accounts laid. -/
structure Bd (w0 w : World) (d : Dat) (i a c t ob pb : Nat) : Prop where
  sc : Since w0 w
  bs : d.base = w0.heap.size
  sh : w.heap[d.sb]? = some (.cells (shC d.idx d.am d.pm d.rm d.um (.slice none 0 0)) 41)
  pa : ∀ j, j < i → w.heap[d.PB j]? = some (.cells (paC (d.QB j) (d.lead j) (d.TS j)) 52)
  qa : ∀ j, j < i → w.heap[d.QB j]? = some (.cells (qaC (1000 + j) d.idx) 47)
  ts : ∀ j, j < i → RowL w d.base 58 2 (tcC d.wr) (d.TS j) (heldBy d.own j t)
  tsd : ∀ j j', j < i → j' < i → j ≠ j' → ∀ g, (d.TS j).ownBlock = some g → (d.TS j').ownBlock ≠ some g
  mA : Mp w 3 d.am (accF d a) a
  mP : Mp w 2 d.pm (partF d i (fun _ => false)) i
  mR : Mp w 2 d.rm (fun _ => none) 0
  mU : Mp w 2 d.um (fun _ => none) 0
  mB : ∀ x, x < a → Mp w 2 (d.MB x) (fun _ => none) 0
  ac : ∀ x, x < a → w.heap[d.AB x]? = some (.cells (acC x (d.MB x) (hv d (holOf d (fun _ => false)) x)) 56)
  obr : Cells w ob 3 d.n (fun x => if x < c then .int .i64 (d.own x) else .int .i64 0)
  pbr : Cells w pb 43 d.k (fun x => if x < i then ptr (d.PB x) else .pointer none)
  dis : d.am ≠ d.pm ∧ d.am ≠ d.um ∧ d.rm ≠ d.pm ∧ d.rm ≠ d.um ∧ d.pm ≠ d.um ∧ d.am ≠ d.rm
  disB : ∀ x, x < a → d.MB x ≠ d.pm ∧ d.MB x ≠ d.um ∧ d.MB x ≠ d.am
  n10 : d.n ≤ 1024
  k10 : d.k ≤ 1024
  ik : i ≤ d.k
  an : a ≤ d.n
  l1 : d.base ≤ d.sb
  l2 : d.base ≤ d.pm
  l3 : d.base ≤ d.um
  l4 : d.base ≤ d.am
  l5 : d.base ≤ ob
  l6 : d.base ≤ pb
  lA : ∀ x, x < a → d.base ≤ d.AB x
  lP : ∀ j, j < i → d.base ≤ d.PB j

section
variable {w0 w w' : World} {d : Dat} {i a c t ob pb : Nat}
theorem Bd.inj (h : Bd w0 w d i a c t ob pb) {j j' : Nat} (hj : j < i) (hj' : j' < i) (e : d.PB j = d.PB j') : j = j' := by
  have h1 := h.pa j hj
  rw [e, h.pa j' hj'] at h1
  simp [paC, ptr] at h1
  have h2 := h.qa j hj
  rw [← h1.1, h.qa j' hj'] at h2
  simp [qaC] at h2
  omega
theorem Bd.since (h : Bd w0 w d i a c t ob pb) (hs : Since w w') : Bd w0 w' d i a c t ob pb where
  sc := hs.then h.sc
  bs := h.bs
  sh := hs.keep h.sh
  pa := fun j hj => hs.keep (h.pa j hj)
  qa := fun j hj => hs.keep (h.qa j hj)
  ts := fun j hj => (h.ts j hj).since hs
  tsd := h.tsd
  mA := h.mA.since hs
  mP := h.mP.since hs
  mR := h.mR.since hs
  mU := h.mU.since hs
  mB := fun x hx => (h.mB x hx).since hs
  ac := fun x hx => hs.keep (h.ac x hx)
  obr := h.obr.since hs
  pbr := h.pbr.since hs
  dis := h.dis
  disB := h.disB
  n10 := h.n10
  k10 := h.k10
  ik := h.ik
  an := h.an
  l1 := h.l1
  l2 := h.l2
  l3 := h.l3
  l4 := h.l4
  l5 := h.l5
  l6 := h.l6
  lA := h.lA
  lP := h.lP
/-- All is there. -/
theorem Bd.st (h : Bd w0 w d d.k d.n c d.n ob pb) : St w d (holOf d (fun _ => false)) (fun _ => false) d.k (fun _ => false) 0 [] where
  fx := { pa := h.pa, qa := h.qa, ts := h.ts, mA := h.mA, mR := h.mR, mB := h.mB, dis := ⟨h.dis.1, h.dis.2.1, h.dis.2.2.1, h.dis.2.2.2.1, h.dis.2.2.2.2.1⟩, disB := fun x hx => ⟨(h.disB x hx).1, (h.disB x hx).2.1⟩, n10 := h.n10, k10 := h.k10, l1 := h.l1, l2 := h.l2, l3 := h.l3, lA := h.lA, lw := by rw [h.bs]; exact h.sc.size }
  sh := ⟨_, h.sh, RowL.nil _ _ _ _ _⟩
  ac := h.ac
  mP := h.mP
  mU := h.mU.congr (fun x hx => by simp [undF])
end

section
variable {w0 w w' : World} {d : Dat} {i a c t ob pb : Nat}
theorem Kx.setNew {Ts Ms : List Nat} {b o : Nat} {v : Value} (h : Kx Ts Ms w w') (hb : w.heap.size ≤ b) : Kx Ts Ms w (w'.setCell ⟨b, o, none⟩ v) :=
  ⟨by simp only [World.setCell, Array.size_modify]; exact h.size, fun i cs T fz hi hT => by rw [setFar (by have := sizeOf_block hi; omega)]; exact h.cell i cs T fz hi hT, fun i es cl hi hM => by rw [setFar (by have := sizeOf_block hi; omega)]; exact h.map i es cl hi hM⟩
theorem heldBy_succ (own : Nat → Nat) (j t : Nat) : heldBy own j (t + 1) = heldBy own j t ++ (if own t = j then [t] else []) := by
  unfold heldBy
  rw [List.range_succ, List.filter_append]
  congr 1
  by_cases e : own t = j
  · simp [e]
  · simp [e]

/-- What a touch's laying leaves alone. -/
structure Tq (w0 w w' : World) : Prop where
  k : Kx [58, 52] [] w w'
  s : Since w0 w'
theorem Tq.dr {w0 w : World} (h : Since w0 w) : Tq w0 w w.drew := ⟨Kx.since Since.dr, Since.drew h⟩
theorem Tq.drew {w0 w w' : World} (h : Tq w0 w w') : Tq w0 w w'.drew := ⟨h.k.trans (Kx.since Since.dr), Since.drew h.s⟩
theorem Tq.alloc {w0 w w' : World} {o : Obj} (h : Tq w0 w w') : Tq w0 w (w'.alloc o) := ⟨h.k.trans (Kx.since (Since.new _ _)), Since.alloc h.s⟩

/-- One more part. -/
theorem Bd.part {W1 W2 : World} (h : Bd w0 w d i 0 c 0 ob pb) (hi : i < d.k) (hTS : ∀ j, d.TS j = .slice none 0 0)
    (hW1 : W1 = ((w.setCell ⟨pb, i, none⟩ (ptr (w.heap.size + 1))).alloc (.cells (qaC (1000 + i) d.idx) 47)).alloc (.cells (paC w.heap.size (d.lead i) (.slice none 0 0)) 52))
    (ht : W1.drew.mapTurned W2 d.pm) (hm : Mp W2 2 d.pm (updI (partF d i (fun _ => false)) (1000 + i) (some (ptr (w.heap.size + 1)))) (i + 1)) :
    Bd w0 W2 { d with PB := upd d.PB i (w.heap.size + 1), QB := upd d.QB i w.heap.size } (i + 1) 0 c 0 ob pb := by
  have lpb := h.pbr.lt
  have hpX := h.pbr.set hi (ptr (w.heap.size + 1))
  have kX : Kx [43] [d.pm] w (w.setCell ⟨pb, i, none⟩ (ptr (w.heap.size + 1))) := h.pbr.kxset (by simp)
  have sX : Since w0 (w.setCell ⟨pb, i, none⟩ (ptr (w.heap.size + 1))) := h.sc.set (by rw [← h.bs]; exact h.l6)
  have eX : (w.setCell ⟨pb, i, none⟩ (ptr (w.heap.size + 1))).heap.size = w.heap.size := by simp [World.setCell]
  generalize hX : w.setCell ⟨pb, i, none⟩ (ptr (w.heap.size + 1)) = X at *
  have hS1 := Since.new X (.cells (qaC (1000 + i) d.idx) 47)
  have hS2 := Since.new (X.alloc (.cells (qaC (1000 + i) d.idx) 47)) (.cells (paC w.heap.size (d.lead i) (.slice none 0 0)) 52)
  have b1 := hS2.keep (newBlock X (.cells (qaC (1000 + i) d.idx) 47))
  have b2 := newBlock (X.alloc (.cells (qaC (1000 + i) d.idx) 47)) (.cells (paC w.heap.size (d.lead i) (.slice none 0 0)) 52)
  have e1 : (X.alloc (.cells (qaC (1000 + i) d.idx) 47)).heap.size = w.heap.size + 1 := by simp [eX]
  rw [e1] at b2
  rw [eX] at b1
  have hS := hS2.then hS1
  rw [← hW1] at b1 b2 hS
  have hk : Kx [43] [d.pm] w W2 := (kX.trans (Kx.since hS)).trans ((Kx.since Since.dr).trans (Kx.turned ht (by simp)))
  have key : ∀ (b : Nat) (o : Obj), W1.heap[b]? = some o → (∀ es cl, o ≠ .map es cl) → W2.heap[b]? = some o := fun b o hb hnm => by
    have h1 : W1.drew.heap[b]? = some o := drewH hb
    rw [turned_block ht (sizeOf_block h1) (fun e => ?_)]
    · exact h1
    · obtain ⟨es, cl, _, _, h2, _⟩ := ht
      rw [← e, h1] at h2
      cases h2
      exact hnm _ _ rfl
  have sc' : Since w0 W2 := Since.turned (Since.drew (hS.then sX)) ht (by rw [← h.bs]; exact h.l2)
  have hpb2 : Cells W2 pb 43 d.k (upd (fun x => if x < i then ptr (d.PB x) else .pointer none) i (ptr (w.heap.size + 1))) :=
    ((hpX.since hS).since Since.dr).kx (Kx.turned (Ts := []) (Ms := [d.pm]) ht (by simp)) (by simp)
  exact {
  sc := sc'
  bs := h.bs
  sh := hk.cell _ _ _ _ h.sh (by simp)
  pa := fun j hj => by
    by_cases e : j = i
    · subst e
      simp only [upd_same, hTS j]
      exact key _ _ b2 (by simp)
    · simp only [upd_ne _ _ e]
      exact hk.cell _ _ _ _ (h.pa j (by omega)) (by simp)
  qa := fun j hj => by
    by_cases e : j = i
    · subst e
      simp only [upd_same]
      exact key _ _ b1 (by simp)
    · simp only [upd_ne _ _ e]
      exact hk.cell _ _ _ _ (h.qa j (by omega)) (by simp)
  ts := fun j hj => by
    show RowL W2 d.base 58 2 (tcC d.wr) (d.TS j) (heldBy d.own j 0)
    rw [hTS j]
    exact RowL.nil _ _ _ _ _
  tsd := fun j j' _ _ _ g hg => by rw [show ({ d with PB := upd d.PB i (w.heap.size + 1), QB := upd d.QB i w.heap.size } : Dat).TS j = d.TS j from rfl, hTS j] at hg; cases hg
  mA := hk.mp h.mA (by simp [h.dis])
  mP := hm.congr (fun x hx => by
    by_cases e : x = 1000 + i
    · subst e
      rw [updI_same]
      simp only [partF]
      rw [if_pos ⟨by omega, by omega, by simp⟩, show ((1000 : Int) + i - 1000).toNat = i by omega, upd_same]
    · rw [updI_ne _ _ e]
      simp only [partF]
      by_cases e3 : 1000 ≤ x ∧ x < 1000 + i
      · rw [if_pos ⟨e3.1, by omega, by simp⟩, if_pos ⟨e3.1, e3.2, by simp⟩, upd_ne _ _ (by omega)]
      · rw [if_neg (fun h => e3 ⟨h.1, by omega⟩), if_neg (fun h => e3 ⟨h.1, h.2.1⟩)])
  mR := hk.mp h.mR (by simp [h.dis])
  mU := hk.mp h.mU (by simp [Ne.symm h.dis.2.2.2.2.1])
  mB := fun x hx => absurd hx (Nat.not_lt_zero _)
  ac := fun x hx => absurd hx (Nat.not_lt_zero _)
  obr := h.obr.kx hk (by simp)
  pbr := hpb2.congr (fun x hx => by
    by_cases e : x = i
    · subst e
      simp only [upd_same]
      rw [if_pos (by omega)]
    · simp only [upd_ne _ _ e]
      by_cases e2 : x < i
      · rw [if_pos e2, if_pos (by omega)]
      · rw [if_neg e2, if_neg (by omega)])
  dis := h.dis
  disB := fun x hx => absurd hx (Nat.not_lt_zero _)
  n10 := h.n10
  k10 := h.k10
  ik := hi
  an := h.an
  l1 := h.l1
  l2 := h.l2
  l3 := h.l3
  l4 := h.l4
  l5 := h.l5
  l6 := h.l6
  lA := fun x hx => absurd hx (Nat.not_lt_zero _)
  lP := fun j hj => by
    by_cases e : j = i
    · subst e
      simp only [upd_same]
      have := h.sc.size
      have := h.bs
      show d.base ≤ w.heap.size + 1
      omega
    · simp only [upd_ne _ _ e]
      exact h.lP j (by omega)
  }

/-- An owner is noted. -/
theorem Bd.owner (h : Bd w0 w d i a c t ob pb) (hc : c < d.n) : Bd w0 (w.setCell ⟨ob, c, none⟩ (.int .i64 (d.own c))) d i a (c + 1) t ob pb := by
  have hk : Kx [3] [] w (w.setCell ⟨ob, c, none⟩ (.int .i64 (d.own c))) := h.obr.kxset (by simp)
  have sc' : Since w0 (w.setCell ⟨ob, c, none⟩ (.int .i64 (d.own c))) := h.sc.set (by rw [← h.bs]; exact h.l5)
  exact {
  sc := sc'
  bs := h.bs
  sh := hk.cell _ _ _ _ h.sh (by simp)
  pa := fun j hj => hk.cell _ _ _ _ (h.pa j hj) (by simp)
  qa := fun j hj => hk.cell _ _ _ _ (h.qa j hj) (by simp)
  ts := fun j hj => hk.row (h.ts j hj) (by simp)
  tsd := h.tsd
  mA := hk.mp h.mA (by simp)
  mP := hk.mp h.mP (by simp [h.dis])
  mR := hk.mp h.mR (by simp [h.dis])
  mU := hk.mp h.mU (by simp [Ne.symm h.dis.2.2.2.2.1])
  mB := fun x hx => hk.mp (h.mB x hx) (by simp [h.disB x hx])
  ac := fun x hx => hk.cell _ _ _ _ (h.ac x hx) (by simp)
  obr := (h.obr.set hc _).congr (fun x hx => by
    by_cases e : x = c
    · subst e; rw [upd_same, if_pos (by omega)]
    · rw [upd_ne _ _ e]
      by_cases e2 : x < c
      · rw [if_pos e2, if_pos (by omega)]
      · rw [if_neg e2, if_neg (by omega)])
  pbr := h.pbr.kx hk (by simp)
  dis := h.dis
  disB := h.disB
  n10 := h.n10
  k10 := h.k10
  ik := h.ik
  an := h.an
  l1 := h.l1
  l2 := h.l2
  l3 := h.l3
  l4 := h.l4
  l5 := h.l5
  l6 := h.l6
  lA := h.lA
  lP := h.lP
  }

/-- A touch is laid: the part's row, then the part. -/
theorem Bd.touch {W1 w5 : World} {g cap o : Nat} (h : Bd w0 w d i a c t ob pb) (ho : o < i) (hot : d.own t = o) (hs : Since w W1) (hg : W1.grownBy w5 (d.TS o).ownBlock)
    (hown : w5.ownsRow d.base 58 2 (.slice (some ⟨g, 0, none⟩) ((heldBy d.own o t).length + 1) cap) ((heldBy d.own o t).length + 1) ((heldBy d.own o t).flatMap (tcC d.wr) ++ tcC d.wr t)) (hloc : some g = (d.TS o).ownBlock ∨ g = W1.heap.size) (hbg : d.base ≤ g) :
    Bd w0 (w5.setCell ⟨d.PB o, 2, none⟩ (.slice (some ⟨g, 0, none⟩) ((heldBy d.own o t).length + 1) cap)) { d with TS := upd d.TS o (.slice (some ⟨g, 0, none⟩) ((heldBy d.own o t).length + 1) cap) } i a c (t + 1) ob pb ∧
    w5.cell? ⟨d.PB o, 2, none⟩ = some (d.TS o) ∧ w5.frozen? ⟨d.PB o, 2, none⟩ = false ∧ d.PB o < w5.heap.size ∧ Tq w0 w w5 ∧ Tq w0 w (w5.setCell ⟨d.PB o, 2, none⟩ (.slice (some ⟨g, 0, none⟩) ((heldBy d.own o t).length + 1) cap)) := by
  have h1 := h.since hs
  have kg : Kx [58, 52] [] W1 w5 := Kx.app hg (h1.ts o ho) (by simp)
  have kg58 : Kx [58] [] W1 w5 := Kx.app hg (h1.ts o ho) (by simp)
  have hpo := kg58.cell _ _ _ _ (h1.pa o ho) (by simp)
  have ks : Kx [58, 52] [] w5 (w5.setCell ⟨d.PB o, 2, none⟩ (.slice (some ⟨g, 0, none⟩) ((heldBy d.own o t).length + 1) cap)) := Kx.set hpo (by simp)
  have ks52 : Kx [52] [] w5 (w5.setCell ⟨d.PB o, 2, none⟩ (.slice (some ⟨g, 0, none⟩) ((heldBy d.own o t).length + 1) cap)) := Kx.set hpo (by simp)
  have hk : Kx [58, 52] [] w (w5.setCell ⟨d.PB o, 2, none⟩ (.slice (some ⟨g, 0, none⟩) ((heldBy d.own o t).length + 1) cap)) := (Kx.since hs).trans (kg.trans ks)
  have sc' : Since w0 (w5.setCell ⟨d.PB o, 2, none⟩ (.slice (some ⟨g, 0, none⟩) ((heldBy d.own o t).length + 1) cap)) :=
    (h1.sc.grown hg (fun b hb => by have := ((h1.ts o ho).base_ge b hb).1; rw [h.bs] at this; exact this)).set (by rw [← h.bs]; exact h.lP o ho)
  refine ⟨?_, cellOf hpo, frozenOf hpo, sizeOf_block hpo, ⟨(Kx.since hs).trans kg, h1.sc.grown hg (fun b hb => by have := ((h1.ts o ho).base_ge b hb).1; rw [h.bs] at this; exact this)⟩, ⟨hk, sc'⟩⟩
  exact {
  sc := sc'
  bs := h.bs
  sh := hk.cell _ _ _ _ h.sh (by simp)
  pa := fun j hj => by
    by_cases e : j = o
    · subst e
      simp only [upd_same]
      rw [setOf hpo]
      rfl
    · simp only [upd_ne _ _ e]
      rw [setFar (fun e' => e (h.inj hj ho e'))]
      exact kg58.cell _ _ _ _ (h1.pa j hj) (by simp)
  qa := fun j hj => hk.cell _ _ _ _ (h.qa j hj) (by simp)
  ts := fun j hj => by
    by_cases e : j = o
    · subst e
      simp only [upd_same]
      refine ks52.row (e := 58) ⟨?_⟩ (by simp)
      rw [heldBy_succ, if_pos hot, List.length_append, List.flatMap_append]
      simpa using hown
    · simp only [upd_ne _ _ e]
      rw [heldBy_succ, if_neg (fun e' => e (by omega)), List.append_nil]
      refine ks52.row (e := 58) ((h1.ts j hj).keep (fun g' cs hg' hgc => ?_)) (by simp)
      rw [hg.block g' (sizeOf_block hgc) (fun e' => h.tsd j o hj ho e g' hg' e'.symm)]
      exact hgc
  tsd := fun j j' hj hj' hne g' hg' => by
    by_cases e : j = o
    · subst e
      simp only [upd_same] at hg'
      simp only [upd_ne _ _ (Ne.symm hne)]
      simp [Value.ownBlock] at hg'
      subst hg'
      rcases hloc with hl | hl
      · exact h.tsd j j' hj hj' hne g hl.symm
      · intro e2
        have := ((h1.ts j' hj').base_ge g e2).2
        omega
    · simp only [upd_ne _ _ e] at hg'
      by_cases e3 : j' = o
      · subst e3
        simp only [upd_same]
        intro e4
        simp [Value.ownBlock] at e4
        subst e4
        rcases hloc with hl | hl
        · exact h.tsd j j' hj hj' hne g hg' hl.symm
        · have := ((h1.ts j hj).base_ge g hg').2
          omega
      · simp only [upd_ne _ _ e3]
        exact h.tsd j j' hj hj' hne g' hg'
  mA := hk.mp h.mA (by simp)
  mP := hk.mp h.mP (by simp [h.dis])
  mR := hk.mp h.mR (by simp [h.dis])
  mU := hk.mp h.mU (by simp [Ne.symm h.dis.2.2.2.2.1])
  mB := fun x hx => hk.mp (h.mB x hx) (by simp [h.disB x hx])
  ac := fun x hx => hk.cell _ _ _ _ (h.ac x hx) (by simp)
  obr := h.obr.kx hk (by simp)
  pbr := h.pbr.kx hk (by simp)
  dis := h.dis
  disB := h.disB
  n10 := h.n10
  k10 := h.k10
  ik := h.ik
  an := h.an
  l1 := h.l1
  l2 := h.l2
  l3 := h.l3
  l4 := h.l4
  l5 := h.l5
  l6 := h.l6
  lA := h.lA
  lP := h.lP
  }
theorem Bd.tnone (h : Bd w0 w d i a c t ob pb) (ho : i ≤ d.own t) : Bd w0 w d i a c (t + 1) ob pb :=
  { h with ts := fun j hj => by rw [heldBy_succ, if_neg (by omega), List.append_nil]; exact h.ts j hj }

/-- One more account. -/
theorem Bd.acc {w7 : World} {ab mb : Nat} (h : Bd w0 w d i a c t ob pb) (ha : a < d.n) (hac : w.heap[ab]? = some (.cells (acC a mb (hv d (holOf d (fun _ => false)) a)) 56)) (hmb : Mp w 2 mb (fun _ => none) 0) (hmd : mb ≠ d.pm ∧ mb ≠ d.um ∧ mb ≠ d.am) (hlb : d.base ≤ ab)
    (ht : w.mapTurned w7 d.am) (hm : Mp w7 3 d.am (updI (accF d a) a (some (ptr ab))) (a + 1)) :
    Bd w0 w7 { d with AB := upd d.AB a ab, MB := upd d.MB a mb } i (a + 1) c t ob pb := by
  have hk : Kx [] [d.am] w w7 := Kx.turned ht (by simp)
  have sc' : Since w0 w7 := h.sc.turned ht (by rw [← h.bs]; exact h.l4)
  exact {
  sc := sc'
  bs := h.bs
  sh := hk.cell _ _ _ _ h.sh (by simp)
  pa := fun j hj => hk.cell _ _ _ _ (h.pa j hj) (by simp)
  qa := fun j hj => hk.cell _ _ _ _ (h.qa j hj) (by simp)
  ts := fun j hj => hk.row (h.ts j hj) (by simp)
  tsd := h.tsd
  mA := hm.congr (fun x hx => by
    by_cases e : x = a
    · subst e
      rw [updI_same]
      simp only [accF]
      rw [if_pos ⟨by omega, by omega⟩, Int.toNat_natCast, upd_same]
    · rw [updI_ne _ _ e]
      simp only [accF]
      by_cases e3 : 0 ≤ x ∧ x < a
      · rw [if_pos ⟨e3.1, by omega⟩, if_pos e3, upd_ne _ _ (by omega)]
      · rw [if_neg (fun h => e3 ⟨h.1, by omega⟩), if_neg e3])
  mP := hk.mp h.mP (by simp [Ne.symm h.dis.1])
  mR := hk.mp h.mR (by simp [Ne.symm h.dis.2.2.2.2.2])
  mU := hk.mp h.mU (by simp [Ne.symm h.dis.2.1])
  mB := fun x hx => by
    by_cases e : x = a
    · subst e
      simp only [upd_same]
      exact hk.mp hmb (by simp [hmd])
    · simp only [upd_ne _ _ e]
      exact hk.mp (h.mB x (by omega)) (by simp [h.disB x (by omega)])
  ac := fun x hx => by
    by_cases e : x = a
    · subst e
      simp only [upd_same]
      exact hk.cell _ _ _ _ hac (by simp)
    · simp only [upd_ne _ _ e]
      exact hk.cell _ _ _ _ (h.ac x (by omega)) (by simp)
  obr := h.obr.kx hk (by simp)
  pbr := h.pbr.kx hk (by simp)
  dis := h.dis
  disB := fun x hx => by
    by_cases e : x = a
    · subst e
      simp only [upd_same]
      exact hmd
    · simp only [upd_ne _ _ e]
      exact h.disB x (by omega)
  n10 := h.n10
  k10 := h.k10
  ik := h.ik
  an := ha
  l1 := h.l1
  l2 := h.l2
  l3 := h.l3
  l4 := h.l4
  l5 := h.l5
  l6 := h.l6
  lA := fun x hx => by
    by_cases e : x = a
    · subst e
      simp only [upd_same]
      exact hlb
    · simp only [upd_ne _ _ e]
      exact h.lA x (by omega)
  lP := h.lP
  }
end
end Go.Proofs.YbulkcvzqFmt
