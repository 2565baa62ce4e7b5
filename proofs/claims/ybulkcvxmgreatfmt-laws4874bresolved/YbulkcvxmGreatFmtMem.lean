/- Memory: what every walk of this seat uses. -/
import Derived.Test.YbulkcvxmGreatFmtRows
import Derived.Test.YbulkcvxmGreatFmtPlain
import Derived.WalkKit
import Derived.WalkSpells
import Derived.WalkLawsBesides
import Derived.Below
import Derived.OpenShut
import Derived.BigQuiet
import Derived.BigRegion
import Derived.Deep.RegionHeld3
import Derived.Deep.RegionLaw
import Derived.Deep.RegionLawGrows
import Derived.Laws.AppendOwn
import Derived.Laws.OwnMore
import Derived.Maps.AppendAt
import Derived.Maps.OwnSet
set_option linter.unusedSimpArgs false
set_option linter.unusedVariables false
namespace Go.Proofs.YbulkcvxmGreatFmt
open Go.RowKit

theorem newBlock (x : World) (o : Obj) : (x.alloc o).heap[x.heap.size]? = some o := by
  show (x.heap.push o)[x.heap.size]? = _
  simp
theorem belowAlloc (x : World) (o : Obj) : Below x.heap.size x (x.alloc o) := (Below.refl _ _).alloc (Nat.le_refl _) o
theorem keepB {x y : World} {b : Nat} {o : Obj} (h : x.heap[b]? = some o) (hb : Below x.heap.size x y) : y.heap[b]? = some o := by
  rw [hb.block b (Array.getElem?_eq_some_iff.1 h).1]; exact h
theorem cellOf {w : World} {b o : Nat} {cs : Array Value} {T : TypeId} {fz : Nat × Nat} (h : w.heap[b]? = some (.cells cs T fz)) : w.cell? ⟨b, o, none⟩ = cs[o]? := by
  simp [World.cell?, h]
theorem frozenOf {w : World} {b o : Nat} {cs : Array Value} {T : TypeId} (h : w.heap[b]? = some (.cells cs T (0, 0))) : w.frozen? ⟨b, o, none⟩ = false := by
  simp [World.frozen?, h]
theorem sizeOf_block {w : World} {b : Nat} {o : Obj} (h : w.heap[b]? = some o) : b < w.heap.size := (Array.getElem?_eq_some_iff.1 h).1
theorem sizeOf_cell {w : World} {p : Addr} {v : Value} (h : w.cell? p = some v) : p.block < w.heap.size := World.block_lt_of_cell? _ _ h
theorem setOf {w : World} {b o : Nat} {cs : Array Value} {T : TypeId} {fz : Nat × Nat} {v : Value} (h : w.heap[b]? = some (.cells cs T fz)) : (w.setCell ⟨b, o, none⟩ v).heap[b]? = some (.cells (cs.setIfInBounds o v) T fz) := by
  simp [World.setCell, Array.getElem?_modify, h]
theorem setFar {w : World} {b k o : Nat} {v : Value} (h : b ≠ k) : (w.setCell ⟨k, o, none⟩ v).heap[b]? = w.heap[b]? := Below.heap_setCell _ _ _ _ h

/-- Nothing that lay in x has turned: 'Below' under one name, so that the walk's simp leaves it as it stands. -/
def Since (x y : World) : Prop := Below x.heap.size x y
theorem Since.of {x y : World} (h : Below x.heap.size x y) : Since x y := h
theorem Since.out {x y : World} (h : Since x y) : Below x.heap.size x y := h
theorem Since.refl (x : World) : Since x x := Below.refl _ _
theorem Since.dr {x : World} : Since x x.drew := (Below.refl _ _).drew
theorem Since.drew {x y : World} (h : Since x y) : Since x y.drew := Below.drew h
theorem Since.then {x y z : World} (h' : Since y z) (h : Since x y) : Since x z := Below.trans h (Below.mono h' (Below.size h))
theorem Since.alloc {x y : World} {o : Obj} (h : Since x y) : Since x (y.alloc o) := Below.alloc h (Below.size h) o
theorem Since.new (x : World) (o : Obj) : Since x (x.alloc o) := belowAlloc x o
theorem Since.keep {x y : World} {b : Nat} {o : Obj} (h : Since x y) (hx : x.heap[b]? = some o) : y.heap[b]? = some o := keepB hx h
theorem Since.size {x y : World} (h : Since x y) : x.heap.size ≤ y.heap.size := Below.size h
theorem Since.cell {x y : World} {p : Addr} {v : Value} (h : Since x y) (hx : x.cell? p = some v) : y.cell? p = some v := (Below.cell h (sizeOf_cell hx)).trans hx
theorem drewH {w : World} {b : Nat} {o : Obj} (h : w.heap[b]? = some o) : w.drew.heap[b]? = some o := h

/-- An equation kept out of simp's sight. -/
structure Hid (p : Prop) : Prop where
  out : p

theorem info_parts {t : TypeId} {z : Value} {s b : Nat} (h : (Ybaz.prog.info? t).map (fun i => (i.zero, i.size, i.bytes)) = some (some z, s, b)) : ∃ i, Ybaz.prog.info? t = some i ∧ i.zero = some z ∧ i.size = s ∧ i.bytes = b := by
  cases hi : Ybaz.prog.info? t with
  | none => rw [hi] at h; cases h
  | some i =>
    rw [hi] at h
    simp at h
    exact ⟨i, rfl, h.1, h.2.1, h.2.2⟩

/-- 'make([]T, n)', n at most 1024. -/
theorem mkN (w : World) {ops : Array Oper} {rest : List Oper} {o : Oper} {a : Act} {Q : Exit → Act → World → Prop} (hgd : o.guard = none) (l c : Operand) (t : TypeId) (ho : o.op = Op.makeSlice t l c)
    (e : TypeId) (i : TypeInfo) (z : Value) (ht : Ybaz.prog.underlying t = some (.slice e)) (hi : Ybaz.prog.info? e = some i) (hz : i.zero = some z) (n : Nat) (hl : a.eval l = .int .i64 n) (hc : a.eval c = .int .i64 n) (hb : i.bytes ≤ 100) (hn : n ≤ 1024)
    (h : wpList Ybaz.prog ops Q rest (a.put o.dst (.slice (some ⟨w.heap.size, 0, none⟩) n n)) (w.alloc (.cells (madeCells z.cells (n * i.size)) e))) : wpList Ybaz.prog ops Q (o :: rest) a w := by
  refine wpList_plain hgd fun K hK' => ?_
  have hb' : (i.bytes : Int) * (n : Int) ≤ 281474976710656 := by
    have h1 : i.bytes * n ≤ 100 * 1024 := Nat.mul_le_mul hb hn
    have h : ((i.bytes * n : Nat) : Int) ≤ 281474976710656 := by omega
    rwa [Int.natCast_mul] at h
  have hr := run_make (P := Ybaz.prog) w t e i z ht hi hz .i64 .i64 n n (by omega) (Int.le_refl _) hb' (by omega)
  simp only [Int.toNat_natCast] at hr
  unfold Oper.wp
  simp [execOp, ho, hl, hc, hr, Result.andThen]
  exact hK' _ _ h

/-- 'append(s, x)' as a step of a region that draws. -/
theorem stepApp {ops : Array Oper} {o : Oper} {a : Act} {w : World} {K : Act → World → Prop} {Q : Exit → Act → World → Prop} {E : Prop} (hgd : o.guard = none) (s x : Operand) (t : TypeId)
    (ho : o.op = .call { callee := .builtin .append, args := #[s, x], argTypes := #[t, t] })
    (base : Nat) (e : TypeId) (i : TypeInfo) (z : Value) (size bytes : Nat) (ht : Ybaz.prog.underlying t = some (.slice e)) (hi : Ybaz.prog.info? e = some i) (hz : i.zero = some z)
    (hsize : i.size = size) (hby : i.bytes = bytes) (hzs : z.cells.size = size) (hsz : 0 < size)
    (v : Value) (n : Nat) (xs : List Value) (hs : a.eval s = v) (hown : w.ownsRow base e size v n xs)
    (ad : Addr) (m c : Nat) (news : List Value) (hx : a.eval x = .slice (some ad) m c) (hl : news.length = m * size) (hnews : ∀ j u, news[j]? = some u → w.cell? (ad.add j) = some u) (h1 : ∀ u ∈ news, u.oneCell' = true)
    (h63 : n + m ≤ maxLen) (hbytes : (n + m) * bytes ≤ 140737488355328) (hbase : base ≤ w.heap.size) (hm : 0 < m)
    (h : ∀ g cap w', base ≤ g → w'.ownsRow base e size (.slice (some ⟨g, 0, none⟩) (n + m) cap) (n + m) (xs ++ news) → w.grownBy w' v.ownBlock → (some g = v.ownBlock ∨ g = w.heap.size) → K (a.put o.dst (.slice (some ⟨g, 0, none⟩) (n + m) cap)) w') :
    if Region.wanted o (yielded ops a.tmps) = true then Oper.wp Ybaz.prog o a w K Q else E := by
  have hw : Region.wanted o (yielded ops a.tmps) = true := by simp [Region.wanted, hgd]
  rw [if_pos hw]
  obtain ⟨v', w', hr, h2, h3, h4, h5⟩ := run_append_own_at (P := Ybaz.prog) w base t o.type e i z size bytes ht hi hz hsize hby hzs hsz v n xs hown ad m c news hl hnews h1 h63 hbytes hbase
  have h2' := h2
  rcases h2'.2 with ⟨rfl, h0⟩ | ⟨g, cap, cur, rfl, hbg, _⟩
  · omega
  unfold Oper.wp
  simp [execOp, ho, resolve, invoke, builtin, hs, hx, hr, Result.andThen]
  refine h g cap w' hbg h2 h3 ?_
  rcases h5 with h5 | h5
  · exact .inl h5
  · exact .inr (by simpa [Value.ownBlock] using h5)

/-- .. and of a plain list of operations. -/
theorem listApp {ops : Array Oper} {rest : List Oper} {o : Oper} {a : Act} {w : World} {Q : Exit → Act → World → Prop} (hgd : o.guard = none) (s x : Operand) (t : TypeId)
    (ho : o.op = .call { callee := .builtin .append, args := #[s, x], argTypes := #[t, t] })
    (base : Nat) (e : TypeId) (i : TypeInfo) (z : Value) (size bytes : Nat) (ht : Ybaz.prog.underlying t = some (.slice e)) (hi : Ybaz.prog.info? e = some i) (hz : i.zero = some z)
    (hsize : i.size = size) (hby : i.bytes = bytes) (hzs : z.cells.size = size) (hsz : 0 < size)
    (v : Value) (n : Nat) (xs : List Value) (hs : a.eval s = v) (hown : w.ownsRow base e size v n xs)
    (ad : Addr) (m c : Nat) (news : List Value) (hx : a.eval x = .slice (some ad) m c) (hl : news.length = m * size) (hnews : ∀ j u, news[j]? = some u → w.cell? (ad.add j) = some u) (h1 : ∀ u ∈ news, u.oneCell' = true)
    (h63 : n + m ≤ maxLen) (hbytes : (n + m) * bytes ≤ 140737488355328) (hbase : base ≤ w.heap.size) (hm : 0 < m)
    (h : ∀ g cap w', base ≤ g → w'.ownsRow base e size (.slice (some ⟨g, 0, none⟩) (n + m) cap) (n + m) (xs ++ news) → w.grownBy w' v.ownBlock → (some g = v.ownBlock ∨ g = w.heap.size) → wpList Ybaz.prog ops Q rest (a.put o.dst (.slice (some ⟨g, 0, none⟩) (n + m) cap)) w') :
    wpList Ybaz.prog ops Q (o :: rest) a w := by
  refine wpList_plain hgd fun K hK => ?_
  obtain ⟨v', w', hr, h2, h3, h4, h5⟩ := run_append_own_at (P := Ybaz.prog) w base t o.type e i z size bytes ht hi hz hsize hby hzs hsz v n xs hown ad m c news hl hnews h1 h63 hbytes hbase
  have h2' := h2
  rcases h2'.2 with ⟨rfl, h0⟩ | ⟨g, cap, cur, rfl, hbg, _⟩
  · omega
  unfold Oper.wp
  simp [execOp, ho, resolve, invoke, builtin, hs, hx, hr, Result.andThen]
  refine hK _ _ (h g cap w' hbg h2 h3 ?_)
  rcases h5 with h5 | h5
  · exact .inl h5
  · exact .inr (by simpa [Value.ownBlock] using h5)

/-- The place of an element in a row. -/
theorem flat_at {α : Type} {F : α → List Value} {sz : Nat} (hF : ∀ x, (F x).length = sz) : ∀ (l : List α) (j i : Nat) (x : α), l[j]? = some x → i < sz → (l.flatMap F)[j * sz + i]? = (F x)[i]?
  | [], j, i, x, h, _ => by simp at h
  | y :: l, 0, i, x, h, hi => by
    simp at h
    subst h
    rw [List.flatMap_cons, Nat.zero_mul, Nat.zero_add, List.getElem?_append_left (by rw [hF]; exact hi)]
  | y :: l, j + 1, i, x, h, hi => by
    rw [List.flatMap_cons, List.getElem?_append_right (by rw [hF, Nat.succ_mul]; omega), hF, show (j + 1) * sz + i - sz = j * sz + i by rw [Nat.succ_mul]; omega]
    exact flat_at hF l j i x (by simpa using h) hi
theorem flat_len {α : Type} {F : α → List Value} {sz : Nat} (hF : ∀ x, (F x).length = sz) (l : List α) : (l.flatMap F).length = l.length * sz := by
  induction l with
  | nil => simp
  | cons x l ih => simp [hF, ih, Nat.succ_mul, Nat.add_comm]

/-- A row as the list of its elements: nil, or a block from its start on. -/
structure RowL {α : Type} (w : World) (base : Nat) (e : TypeId) (sz : Nat) (F : α → List Value) (v : Value) (l : List α) : Prop where
  own : w.ownsRow base e sz v l.length (l.flatMap F)
section
variable {α : Type} {w w' : World} {base e sz : Nat} {F : α → List Value} {v : Value} {l : List α}
theorem RowL.nil (w : World) (base e sz : Nat) (F : α → List Value) : RowL w base e sz F (.slice none 0 0) [] := ⟨⟨by simp, .inl ⟨rfl, rfl⟩⟩⟩
theorem RowL.form (h : RowL w base e sz F v l) : ∃ a cap, v = .slice a l.length cap ∧ (l ≠ [] → ∃ g, a = some ⟨g, 0, none⟩ ∧ base ≤ g ∧ g < w.heap.size) ∧ (a = none → l = []) ∧ (∀ g, a = some g → g.block < w.heap.size ∧ base ≤ g.block) := by
  rcases h.own.2 with ⟨rfl, h0⟩ | ⟨g, cap, cur, rfl, hb, hg, _⟩
  · have : l = [] := List.eq_nil_of_length_eq_zero h0
    subst this
    exact ⟨none, 0, rfl, fun h => absurd rfl h, fun _ => rfl, fun g h => by cases h⟩
  · exact ⟨_, cap, rfl, fun _ => ⟨g, rfl, hb, sizeOf_block hg⟩, (by intro h; cases h), fun g' h => by cases h; exact ⟨sizeOf_block hg, hb⟩⟩
theorem RowL.keep (h : RowL w base e sz F v l) (he : ∀ g cs, v.ownBlock = some g → w.heap[g]? = some (.cells cs e) → w'.heap[g]? = some (.cells cs e)) : RowL w' base e sz F v l := by
  obtain ⟨⟨h1, h2⟩⟩ := h
  refine ⟨⟨h1, ?_⟩⟩
  rcases h2 with h2 | ⟨g, cap, cur, rfl, hb, hg, h3⟩
  · exact .inl h2
  · exact .inr ⟨g, cap, cur, rfl, hb, he g cur rfl hg, h3⟩
theorem RowL.since (h : RowL w base e sz F v l) (hs : Since w w') : RowL w' base e sz F v l := h.keep (fun g cs _ hg => hs.keep hg)
theorem RowL.cell (h : RowL w base e sz F v l) (hF : ∀ x, (F x).length = sz) {j i : Nat} {x : α} {u : Value} (hj : l[j]? = some x) (hi : i < sz) (hu : (F x)[i]? = some u) {g cap : Nat} (hv : v = .slice (some ⟨g, 0, none⟩) l.length cap) :
    w.cell? ⟨g, j * sz + i, none⟩ = some u ∧ w.frozen? ⟨g, j * sz + i, none⟩ = false := by
  subst hv
  rcases h.own.2 with ⟨h0, _⟩ | ⟨g', cap', cur, hv, hb, hg, hnc, hcm, hcs, ht⟩
  · cases h0
  · simp at hv
    obtain ⟨rfl, rfl⟩ := hv
    refine ⟨?_, frozenOf hg⟩
    rw [cellOf hg, ← hu, ← flat_at hF l j i x hj hi, ← ht, List.getElem?_take, if_pos, Array.getElem?_toList]
    have hjl : j < l.length := (List.getElem?_eq_some_iff.1 hj).1
    have : (j + 1) * sz ≤ l.length * sz := Nat.mul_le_mul_right _ hjl
    rw [Nat.succ_mul] at this
    omega
end
/-- All blocks of cells stand but those of the types Ts, all maps but those of Ms. -/
structure Kx (Ts Ms : List Nat) (w w' : World) : Prop where
  size : w.heap.size ≤ w'.heap.size
  cell : ∀ (i : Nat) cs T fz, w.heap[i]? = some (.cells cs T fz) → T ∉ Ts → w'.heap[i]? = some (.cells cs T fz)
  map : ∀ (i : Nat) es cl, w.heap[i]? = some (.map es cl) → i ∉ Ms → w'.heap[i]? = some (.map es cl)
section
variable {Ts Ms : List Nat} {w w' w'' : World}
theorem Kx.refl (Ts Ms : List Nat) (w : World) : Kx Ts Ms w w := ⟨Nat.le_refl _, fun _ _ _ _ h _ => h, fun _ _ _ h _ => h⟩
theorem Kx.trans (h : Kx Ts Ms w w') (h' : Kx Ts Ms w' w'') : Kx Ts Ms w w'' := ⟨Nat.le_trans h.size h'.size, fun i cs T fz hi hT => h'.cell i cs T fz (h.cell i cs T fz hi hT) hT, fun i es cl hi hM => h'.map i es cl (h.map i es cl hi hM) hM⟩
theorem Kx.since (h : Since w w') : Kx Ts Ms w w' := ⟨h.size, fun i cs T fz hi _ => h.keep hi, fun i es cl hi _ => h.keep hi⟩
theorem Kx.set {b o : Nat} {v : Value} {cs : Array Value} {T : TypeId} {fz : Nat × Nat} (hb : w.heap[b]? = some (.cells cs T fz)) (hT : T ∈ Ts) : Kx Ts Ms w (w.setCell ⟨b, o, none⟩ v) := by
  refine ⟨by simp [World.setCell], fun i cs' T' fz' hi hn => ?_, fun i es cl hi hn => ?_⟩
  · rw [setFar (fun e => ?_)]
    · exact hi
    · subst e; rw [hb] at hi; cases hi; exact hn hT
  · rw [setFar (fun e => ?_)]
    · exact hi
    · subst e; rw [hb] at hi; cases hi
theorem Kx.turned {b : Nat} (h : w.mapTurned w' b) (hb : b ∈ Ms) : Kx Ts Ms w w' := by
  have hg := h.grown
  obtain ⟨es0, cl0, _, _, h1, _⟩ := h
  refine ⟨hg.size, fun i cs' T' fz' hi hn => ?_, fun i es cl hi hn => ?_⟩
  · rw [hg.block i (sizeOf_block hi) (fun e => ?_)]
    · exact hi
    · cases e; rw [h1] at hi; cases hi
  · rw [hg.block i (sizeOf_block hi) (fun e => ?_)]
    · exact hi
    · cases e; exact hn hb
theorem Kx.app {α : Type} {base e sz : Nat} {F : α → List Value} {v : Value} {l : List α} (h : w.grownBy w' v.ownBlock) (hr : RowL w base e sz F v l) (he : e ∈ Ts) : Kx Ts Ms w w' := by
  have key : ∀ (i : Nat) (o : Obj), w.heap[i]? = some o → (∀ cs fz, o ≠ .cells cs e fz) → w'.heap[i]? = some o := fun i o ho hne => by
    rw [h.block i (sizeOf_block ho) (fun e' => ?_)]
    · exact ho
    · rcases hr.own.2 with ⟨rfl, _⟩ | ⟨g', cap', cur, rfl, hb, hg', _⟩
      · cases e'
      · simp [Value.ownBlock] at e'
        subst e'
        rw [hg'] at ho
        cases ho
        exact hne _ _ rfl
  refine ⟨h.size, fun i cs' T' fz' hi hn => key i _ hi (fun cs fz e' => ?_), fun i es cl hi hn => key i _ hi (fun cs fz e' => by cases e')⟩
  cases e'
  exact hn he
theorem Kx.row (h : Kx Ts Ms w w') {α : Type} {base e sz : Nat} {F : α → List Value} {v : Value} {l : List α} (hr : RowL w base e sz F v l) (hT : e ∉ Ts) : RowL w' base e sz F v l :=
  hr.keep (fun g cs _ hg => h.cell g cs e _ hg hT)
end

theorem Since.set {w0 w : World} {b o : Nat} {v : Value} (h : Since w0 w) (hb : w0.heap.size ≤ b) : Since w0 (w.setCell ⟨b, o, none⟩ v) := Below.setCell h.out hb _
theorem Since.grown {w0 w w' : World} {row : Option Nat} (h : Since w0 w) (hg : w.grownBy w' row) (hb : ∀ b, row = some b → w0.heap.size ≤ b) : Since w0 w' :=
  ⟨hg.os.trans h.out.os, hg.tape.trans h.out.tape, hg.output.trans h.out.output, Nat.le_trans h.size hg.size, fun i hi => (hg.block i (Nat.lt_of_lt_of_le hi h.size) (fun e => by have := hb i e.symm; omega)).trans (h.out.block i hi)⟩
theorem Since.turned {w0 w w' : World} {b : Nat} (h : Since w0 w) (ht : w.mapTurned w' b) (hb : w0.heap.size ≤ b) : Since w0 w' := h.grown ht.grown (fun b' e => by cases e; exact hb)
theorem RowL.base_ge {α : Type} {w : World} {base e sz : Nat} {F : α → List Value} {v : Value} {l : List α} (h : RowL w base e sz F v l) : ∀ b, v.ownBlock = some b → base ≤ b ∧ b < w.heap.size := by
  intro b e
  rcases h.own.2 with ⟨rfl, _⟩ | ⟨g', cap', cur, rfl, hb, hg', _⟩
  · cases e
  · simp [Value.ownBlock] at e
    subst e
    exact ⟨hb, sizeOf_block hg'⟩
theorem RowL.lower {α : Type} {w : World} {base base' e sz : Nat} {F : α → List Value} {v : Value} {l : List α} (h : RowL w base e sz F v l) (hb : base' ≤ base) : RowL w base' e sz F v l := by
  obtain ⟨⟨h1, h2⟩⟩ := h
  refine ⟨⟨h1, ?_⟩⟩
  rcases h2 with h2 | ⟨g, cap, cur, h3, h4, h5⟩
  · exact .inl h2
  · exact .inr ⟨g, cap, cur, h3, Nat.le_trans hb h4, h5⟩

/-- A row of n cells, by place. -/
structure Cells (w : World) (b T n : Nat) (F : Nat → Value) : Prop where
  ex : ∃ cs, w.heap[b]? = some (.cells cs T) ∧ cs.size = n ∧ ∀ x, x < n → cs[x]? = some (F x)
section
variable {w w' : World} {b T n : Nat} {F : Nat → Value}
theorem Cells.lt (h : Cells w b T n F) : b < w.heap.size := by obtain ⟨cs, h1, _⟩ := h.ex; exact sizeOf_block h1
theorem Cells.since (h : Cells w b T n F) (hs : Since w w') : Cells w' b T n F := by
  obtain ⟨cs, h1, h2⟩ := h.ex
  exact ⟨cs, hs.keep h1, h2⟩
theorem Cells.kx {Ts Ms : List Nat} (h : Cells w b T n F) (hk : Kx Ts Ms w w') (hT : T ∉ Ts) : Cells w' b T n F := by
  obtain ⟨cs, h1, h2⟩ := h.ex
  exact ⟨cs, hk.cell b _ _ _ h1 hT, h2⟩
theorem Cells.cell (h : Cells w b T n F) {x : Nat} (hx : x < n) : w.cell? ⟨b, x, none⟩ = some (F x) := by
  obtain ⟨cs, h1, h2, h3⟩ := h.ex
  rw [cellOf h1]; exact h3 x hx
theorem Cells.frozen (h : Cells w b T n F) (x : Nat) : w.frozen? ⟨b, x, none⟩ = false := by
  obtain ⟨cs, h1, h2, h3⟩ := h.ex
  exact frozenOf h1
theorem Cells.set (h : Cells w b T n F) {x : Nat} (hx : x < n) (v : Value) : Cells (w.setCell ⟨b, x, none⟩ v) b T n (upd F x v) := by
  obtain ⟨cs, h1, h2, h3⟩ := h.ex
  refine ⟨_, setOf h1, by simp [h2], fun y hy => ?_⟩
  by_cases e : y = x
  · subst e; rw [upd_same, Array.getElem?_setIfInBounds, if_pos rfl, if_pos (by omega)]
  · rw [upd_ne _ _ e, Array.getElem?_setIfInBounds, if_neg (Ne.symm e)]; exact h3 y hy
theorem Cells.kxset {Ts Ms : List Nat} {x : Nat} {v : Value} (h : Cells w b T n F) (hT : T ∈ Ts) : Kx Ts Ms w (w.setCell ⟨b, x, none⟩ v) := by
  obtain ⟨cs, h1, h2⟩ := h.ex
  exact Kx.set h1 hT
theorem Cells.congr {G : Nat → Value} (h : Cells w b T n F) (he : ∀ x, x < n → G x = F x) : Cells w b T n G := by
  obtain ⟨cs, h1, h2, h3⟩ := h.ex
  exact ⟨cs, h1, h2, fun x hx => by rw [he x hx]; exact h3 x hx⟩
theorem Cells.made (w : World) (T n : Nat) (z : Value) (hz : z.cells = #[z]) : Cells (w.alloc (.cells (madeCells z.cells n) T)) w.heap.size T n (fun _ => z) := by
  refine ⟨_, newBlock _ _, by simp [size_madeCells], fun v hv => ?_⟩
  rw [hz]
  simp [madeCells, hv, Nat.mod_one]
end

theorem Since.drewN {x y : World} (n : Nat) (h : Since x y) : Since x (y.drewN n) := ⟨h.out.os, h.out.tape, h.out.output, h.out.size, h.out.block⟩
theorem Kx.setNew {Ts Ms : List Nat} {w w' : World} {b o : Nat} {v : Value} (h : Kx Ts Ms w w') (hb : w.heap.size ≤ b) : Kx Ts Ms w (w'.setCell ⟨b, o, none⟩ v) :=
  ⟨by simp only [World.setCell, Array.size_modify]; exact h.size, fun i cs T fz hi hT => by rw [setFar (by have := sizeOf_block hi; omega)]; exact h.cell i cs T fz hi hT, fun i es cl hi hM => by rw [setFar (by have := sizeOf_block hi; omega)]; exact h.map i es cl hi hM⟩
end Go.Proofs.YbulkcvxmGreatFmt
