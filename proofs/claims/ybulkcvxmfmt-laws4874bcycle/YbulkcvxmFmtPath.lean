/- A path grows by one role: in its own block, or in a new one; the old path stands. -/
import Derived.Test.YbulkcvxmFmtRes0
set_option linter.unusedSimpArgs false
set_option linter.unusedVariables false
namespace Go.Proofs.YbulkcvxmFmt
open Go.RowKit

theorem info35 : (Ybaf.prog.info? 35).map (fun i => (i.zero, i.size, i.bytes)) = some (some (.pointer none), 1, 8) := by kernel_rfl
theorem pt_one (r : Nat) : ∀ u ∈ ptC r, u.oneCell' = true := by
  intro u hu
  simp [ptC] at hu
  subst hu
  rfl
theorem run_path (w : World) (pv : Value) (bs : List Nat) (r : Nat) (ty : TypeId) (hP : RowL w 0 35 1 ptC pv bs) (hl : bs.length ≤ 1000) (ad : Addr) (c : Nat) (hnews : ∀ j u, (ptC r)[j]? = some u → w.cell? (ad.add j) = some u) :
    ∃ g1 cap1 w', (Builtin.append_ #[29, 29] ty #[pv, .slice (some ad) 1 c]).run Ybaf.prog w = .ok (.slice (some ⟨g1, 0, none⟩) (bs.length + 1) cap1) w' ∧ RowL w' 0 35 1 ptC (.slice (some ⟨g1, 0, none⟩) (bs.length + 1) cap1) (bs ++ [r]) ∧ w.grownBy w' pv.ownBlock ∧
      (pv = .slice (some ⟨g1, 0, none⟩) bs.length cap1 ∨ (g1 = w.heap.size ∧ RowL w' 0 35 1 ptC pv bs)) := by
  obtain ⟨i35, hi35, hz35, hs35, hy35⟩ := info_parts info35
  obtain ⟨v', w', hr, h2, h3, h4, h5⟩ := run_append_own_at (P := Ybaf.prog) w 0 29 ty 35 i35 _ 1 8 Ybaf.underlying29 hi35 hz35 hs35 hy35 rfl (by decide) pv bs.length (bs.flatMap ptC) hP.own ad 1 c (ptC r) rfl hnews (pt_one r) (by unfold maxLen; omega) (by omega) (Nat.zero_le _)
  have h2' := h2
  rcases h2'.2 with ⟨rfl, h0⟩ | ⟨g, cap, cur, rfl, hbg, hg, _⟩
  · omega
  have hR : RowL w' 0 35 1 ptC (.slice (some ⟨g, 0, none⟩) (bs.length + 1) cap) (bs ++ [r]) := ⟨by
    rw [List.length_append, List.flatMap_append]
    simpa [ptC] using h2⟩
  refine ⟨g, cap, w', hr, hR, h3, ?_⟩
  rcases hP.own.2 with ⟨rfl, h0⟩ | ⟨b, pcap, cur', rfl, _, hb, hnc, hcm, _, _⟩
  · refine .inr ⟨by simpa [Value.ownBlock] using h5, ?_⟩
    have : bs = [] := List.eq_nil_of_length_eq_zero h0
    subst this
    exact RowL.nil _ _ _ _ _
  · by_cases hroom : bs.length + 1 ≤ pcap
    · left
      obtain ⟨w2, hr2, _⟩ := run_append_fits (P := Ybaf.prog) w 0 29 ty 35 i35 1 Ybaf.underlying29 hi35 hs35 b bs.length pcap (bs.flatMap ptC) hP.own ad 1 c (ptC r) rfl hnews (pt_one r) hroom
      rw [hr] at hr2
      simp at hr2
      obtain ⟨⟨rfl, rfl⟩, _⟩ := hr2
      rfl
    · right
      have hr2 := run_append_grow (P := Ybaf.prog) w 29 ty 35 i35 _ Ybaf.underlying29 hi35 hz35 ⟨b, 0, none⟩ bs.length pcap (bs.flatMap ptC) (by rw [hs35]; exact hP.own.1) (World.ownsRow.cells hP.own (g := b) rfl) ad 1 c (ptC r) (by rw [hs35]; rfl) hnews (by omega) (by omega) (by rw [hy35]; exact growslice_fits (by omega) (by omega))
      rw [hr] at hr2
      simp only [Result.ok.injEq, Value.slice.injEq, Option.some.injEq, Addr.mk.injEq, and_true, true_and] at hr2
      obtain ⟨⟨rfl, _⟩, rfl⟩ := hr2
      refine ⟨rfl, hP.keep (fun g' cs _ hg' => ?_)⟩
      exact ((Since.dr (x := w)).alloc).keep hg'
theorem listPath {ops : Array Oper} {rest : List Oper} {o : Oper} {a : Act} {w : World} {Q : Exit → Act → World → Prop} (hgd : o.guard = none) (s x : Operand)
    (ho : o.op = .call { callee := .builtin .append, args := #[s, x], argTypes := #[29, 29] }) (pv : Value) (bs : List Nat) (r : Nat) (hs : a.eval s = pv) (hP : RowL w 0 35 1 ptC pv bs) (hl : bs.length ≤ 1000) (ad : Addr) (c : Nat) (hx : a.eval x = .slice (some ad) 1 c) (hnews : ∀ j u, (ptC r)[j]? = some u → w.cell? (ad.add j) = some u)
    (h : ∀ g1 cap1 w', RowL w' 0 35 1 ptC (.slice (some ⟨g1, 0, none⟩) (bs.length + 1) cap1) (bs ++ [r]) → w.grownBy w' pv.ownBlock → (pv = .slice (some ⟨g1, 0, none⟩) bs.length cap1 ∨ (g1 = w.heap.size ∧ RowL w' 0 35 1 ptC pv bs)) → wpList Ybaf.prog ops Q rest (a.put o.dst (.slice (some ⟨g1, 0, none⟩) (bs.length + 1) cap1)) w') :
    wpList Ybaf.prog ops Q (o :: rest) a w := by
  refine wpList_plain hgd fun K hK => ?_
  obtain ⟨g1, cap1, w', hr, h2, h3, h4⟩ := run_path w pv bs r o.type hP hl ad c hnews
  unfold Oper.wp
  simp [execOp, ho, resolve, invoke, builtin, hs, hx, hr, Result.andThen]
  exact hK _ _ (h g1 cap1 w' h2 h3 h4)
end Go.Proofs.YbulkcvxmFmt
