import Derived.Test.YbulkcvzqFmtLawA
set_option linter.unusedSimpArgs false
set_option linter.unusedVariables false
namespace Go.Proofs.YbulkcvzqFmt
open Go.RowKit
theorem allocTop2 (w : World) (A o : Obj) : ((w.alloc A).alloc o).heap[w.heap.size + 1]? = some o := by
  have := newBlock (w.alloc A) o
  rw [show (w.alloc A).heap.size = w.heap.size + 1 by simp] at this
  exact this
theorem allocTop1 (w : World) (A o : Obj) : ((w.alloc A).alloc o).heap[w.heap.size]? = some A := (Since.new _ _).keep (newBlock w A)
theorem since2 (w : World) (A o : Obj) : Since w ((w.alloc A).alloc o) := (Since.new _ _).then (Since.new w A)
end Go.Proofs.YbulkcvzqFmt
namespace Go.Proofs.YbulkcvzqFmt
open Go.RowKit
def orC (i : Nat) : List Value := [.int .i64 i]
theorem orC_len (i : Nat) : (orC i).length = 1 := rfl
theorem or_one (i : Int) : ∀ v ∈ [Value.int .i64 i], v.oneCell' = true := by
  intro u hu
  simp at hu
  subst hu
  rfl
/-- A row that holds something lies somewhere. -/
theorem RowL.at {α : Type} {w : World} {base e sz : Nat} {F : α → List Value} {a : Option Addr} {m cap : Nat} {l : List α} (h : RowL w base e sz F (.slice a m cap) l) {j : Nat} (hj : j < l.length) : ∃ g, a = some ⟨g, 0, none⟩ ∧ m = l.length := by
  rcases h.own.2 with ⟨h0, h1⟩ | ⟨g', cap', cur, hv, _⟩
  · omega
  · simp at hv
    exact ⟨g', hv.1, hv.2.1⟩
end Go.Proofs.YbulkcvzqFmt
namespace Go.Proofs.YbulkcvzqFmt
open Go.RowKit
theorem allocTop2s (w : World) (a : Addr) (v : Value) (A o : Obj) : (((w.setCell a v).alloc A).alloc o).heap[w.heap.size + 1]? = some o := by
  have := allocTop2 (w.setCell a v) A o
  rw [show (w.setCell a v).heap.size = w.heap.size by simp [World.setCell]] at this
  exact this
end Go.Proofs.YbulkcvzqFmt
namespace Go.Proofs.YbulkcvzqFmt
open Go.RowKit
section
variable {d : Dat} {w : World} {hol gp : Nat → Bool} {np : Nat} {gu : Nat → Bool} {nu : Nat} {ord : List Nat}
theorem St.lookU (h : St w d hol gp np gu nu ord) {i : Nat} (hi : i < d.k) : (Instr.lookup 28 (.map (some d.um)) (.int .i64 (1000 + i)) false).run Ybaf.prog w = .ok (.bool (gu i)) w := by
  have k10 := h.fx.k10
  rw [h.mU.look Ybaf.underlying28 (zero4 w) (w64 (by omega) (by omega))]
  have e : ((1000 : Int) + i - 1000).toNat = i := by omega
  cases hg : gu i with
  | true =>
    simp only [undF]
    rw [if_pos ⟨by omega, by omega, by rw [e]; exact hg⟩]
    rfl
  | false =>
    simp only [undF]
    rw [if_neg (by rw [e, hg]; simp)]
    rfl
theorem St.lookP (h : St w d hol gp np gu nu ord) {i : Nat} (hi : i < d.k) : ∃ v, (Instr.lookup 27 (.map (some d.pm)) (.int .i64 (1000 + i)) true).run Ybaf.prog w = .ok (.tuple #[v, .bool (!(gp i))]) w := by
  have k10 := h.fx.k10
  rw [h.mP.look_ok Ybaf.underlying27 (zero43 w) (w64 (by omega) (by omega))]
  refine ⟨(partF d d.k gp (1000 + i)).getD (.pointer none), ?_⟩
  have e : ((1000 : Int) + i - 1000).toNat = i := by omega
  have e2 : (partF d d.k gp (1000 + i)).isSome = !(gp i) := by
    cases hg : gp i with
    | true =>
      simp only [partF]
      rw [if_neg (by rw [e, hg]; simp)]
      rfl
    | false =>
      simp only [partF]
      rw [if_pos ⟨by omega, by omega, by rw [e]; exact hg⟩]
      rfl
  rw [e2]
end
end Go.Proofs.YbulkcvzqFmt
