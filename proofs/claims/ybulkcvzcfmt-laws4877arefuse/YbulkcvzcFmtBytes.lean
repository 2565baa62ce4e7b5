import Derived.Test.YbulkcvzcFmtRows
import Derived.WalkKit
import Derived.WalkSpells
import Derived.WalkLawsBesides
import Derived.Below
import Derived.OpenShut
set_option linter.unusedSimpArgs false
set_option linter.unusedVariables false
namespace Go.Proofs.YbulkcvzcFmt
open Go.RowKit

/-! ### memory -/
theorem newBlock (x : World) (o : Obj) : (x.alloc o).heap[x.heap.size]? = some o := by
  show (x.heap.push o)[x.heap.size]? = _
  simp
theorem belowAlloc (x : World) (o : Obj) : Below x.heap.size x (x.alloc o) := (Below.refl _ _).alloc (Nat.le_refl _) o
theorem keepB {x y : World} {b : Nat} {o : Obj} (h : x.heap[b]? = some o) (hb : Below x.heap.size x y) : y.heap[b]? = some o := by
  rw [hb.block b (Array.getElem?_eq_some_iff.1 h).1]; exact h
theorem cellOf {w : World} {b o : Nat} {cs : Array Value} {T : TypeId} {fz : Nat × Nat} (h : w.heap[b]? = some (.cells cs T fz)) : w.cell? ⟨b, o, none⟩ = cs[o]? := by
  simp [World.cell?, h]
theorem frozenOf {w : World} {b o : Nat} {cs : Array Value} {T : TypeId} (h : w.heap[b]? = some (.cells cs T (0, 0))) : w.frozen? ⟨b, o, none⟩ = false := by
  simp [World.frozen?, h]
theorem sizeOf_block {w : World} {b : Nat} {o : Obj} (h : w.heap[b]? = some o) : b < w.heap.size := (Array.getElem?_eq_some_iff.1 h).1

/-! ### a row of bytes -/
/-- v is a slice of the bytes l, in memory of the call's own from block B on. -/
def Row (w : World) (B : Nat) (v : Value) (l : List Int) : Prop := w.ownsRow B 5 1 v l.length (l.map (Value.int .u8))

theorem Row.nil (w : World) (B : Nat) : Row w B (.slice none 0 0) [] := World.ownsRow_nil _ _ _ _
theorem Row.keep {w w' : World} {B : Nat} {v : Value} {l : List Int} (h : Row w B v l) (hb : Below w.heap.size w w') : Row w' B v l := by
  obtain ⟨h1, h2⟩ := h
  refine ⟨h1, ?_⟩
  rcases h2 with h2 | ⟨g, cap, cur, hv, hg, hh, r⟩
  · exact .inl h2
  · exact .inr ⟨g, cap, cur, hv, hg, keepB hh hb, r⟩
theorem Row.mono {w : World} {B B' : Nat} {v : Value} {l : List Int} (h : Row w B v l) (hB : B' ≤ B) : Row w B' v l := by
  obtain ⟨h1, h2⟩ := h
  refine ⟨h1, ?_⟩
  rcases h2 with h2 | ⟨g, cap, cur, hv, hg, hh, r⟩
  · exact .inl h2
  · exact .inr ⟨g, cap, cur, hv, by omega, hh, r⟩
/-- What a row that is not empty looks like. -/
theorem Row.form {w : World} {B : Nat} {v : Value} {l : List Int} (h : Row w B v l) (hl : l ≠ []) :
    ∃ g cap, v = .slice (some ⟨g, 0, none⟩) l.length cap ∧ B ≤ g ∧ g < w.heap.size ∧ l.length ≤ cap ∧ cap ≤ maxLen ∧ (∀ j, j < l.length → w.cell? ⟨g, j, none⟩ = some (.int .u8 (l.getD j 0))) ∧ (∀ j, w.frozen? ⟨g, j, none⟩ = false) ∧ ∃ cur, w.heap[g]? = some (.cells cur 5 (0, 0)) ∧ cur.toList.take l.length = l.map (Value.int .u8) := by
  obtain ⟨h1, h2⟩ := h
  rcases h2 with ⟨_, h0⟩ | ⟨g, cap, cur, hv, hg, hh, hn, hm, hs, ht⟩
  · exact absurd (List.length_eq_zero_iff.1 h0) hl
  · refine ⟨g, cap, hv, hg, sizeOf_block hh, hn, hm, ?_, fun j => frozenOf hh, cur, hh, by simpa using ht⟩
    intro j hj
    rw [cellOf hh]
    have e : cur.toList[j]? = (l.map (Value.int .u8))[j]? := by
      rw [← ht, List.getElem?_take]
      simp [hj]
    rw [← Array.getElem?_toList, e]
    simp [hj]

theorem Ybaf.info5 : (Ybaf.prog.info? 5).map (fun i => (i.zero, i.size, i.bytes)) = some (some (.int .u8 0), 1, 1) := by kernel_rfl

theorem oneU8 (zs : List Int) : ∀ u ∈ zs.map (Value.int .u8), u.oneCell' = true := by
  intro u hu
  obtain ⟨n, _, rfl⟩ := List.mem_map.1 hu
  rfl

/-- 'append(s, x...)' at bytes: s a row of the call's own, x whatever row of bytes. -/
theorem app (w : World) {ops : Array Oper} {rest : List Oper} {o : Oper} {a : Act} {Q : Exit → Act → World → Prop} (hgd : o.guard = none) (s x : Operand)
    (ho : o.op = .call { callee := .builtin .append, args := #[s, x], argTypes := #[23, 23] })
    (B : Nat) (v : Value) (l : List Int) (hs : a.eval s = v) (hown : Row w B v l)
    (ad : Addr) (m c : Nat) (news : List Int) (hx : a.eval x = .slice (some ad) m c) (hl : news.length = m) (hnews : ∀ j, j < m → w.cell? (ad.add j) = some (.int .u8 (news.getD j 0)))
    (hlen : l.length + m ≤ 1000000) (hB : B ≤ w.heap.size)
    (h : ∀ v' w', Row w' B v' (l ++ news) → Below B w w' → wpList Ybaf.prog ops Q rest (a.put o.dst v') w') : wpList Ybaf.prog ops Q (o :: rest) a w := by
  obtain ⟨i, hi, hz0, hz1, hz2⟩ := info_parts Ybaf.info5
  refine wpList_append_own w hgd s x 23 ho B 5 i (.int .u8 0) 1 1 Ybaf.underlying23 hi hz0 hz1 hz2 rfl (by omega) v l.length (l.map (Value.int .u8)) hs hown ad m c (news.map (Value.int .u8)) hx (by simp [hl]) ?_ (oneU8 _) (by unfold maxLen; omega) (by omega) hB ?_
  · intro j u hu
    have hj : j < news.length := by
      have := (List.getElem?_eq_some_iff.1 hu).1
      simpa using this
    rw [hnews j (by omega), ← hu]
    simp [hj]
  · intro v' w' h1 h2 _
    refine h v' w' ?_ ?_
    · unfold Row
      rw [List.length_append, hl, List.map_append]
      exact h1
    · refine (Below.refl B w).grown h2 hB ?_
      intro k hk
      obtain ⟨_, h3 | ⟨g, cap, cur, hv, hg, _⟩⟩ := hown
      · rw [h3.1] at hk; cases hk
      · rw [hv] at hk; cases hk; exact hg

/-- The same where nothing is appended (x nil, or empty). -/
theorem app0 (w : World) {ops : Array Oper} {rest : List Oper} {o : Oper} {a : Act} {Q : Exit → Act → World → Prop} (hgd : o.guard = none) (s x : Operand)
    (ho : o.op = .call { callee := .builtin .append, args := #[s, x], argTypes := #[23, 23] })
    (B : Nat) (v : Value) (l : List Int) (hs : a.eval s = v) (hown : Row w B v l) (hx : a.eval x = .slice none 0 0)
    (h : wpList Ybaf.prog ops Q rest (a.put o.dst v) w) : wpList Ybaf.prog ops Q (o :: rest) a w := by
  obtain ⟨i, hi, hz0, hz1, hz2⟩ := info_parts Ybaf.info5
  refine wpList_plain hgd fun K hK' => ?_
  have hrun := run_append_owned_none (P := Ybaf.prog) w B 23 o.type 5 i 1 Ybaf.underlying23 hi v l.length _ hown
  unfold Oper.wp
  simp [execOp, ho, resolve, invoke, builtin, hs, hx, hrun, Result.andThen]
  exact hK' _ _ h
end Go.Proofs.YbulkcvzcFmt
