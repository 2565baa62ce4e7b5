/-
  'Rows.LawS4878ARollsBackHoldersToldSaid' proved: the frame; the walks lie in YbulkcvzqFmtLawP.lean, YbulkcvzqFmtLawZ.lean, YbulkcvzqFmtBig.lean.
-/
import Derived.Test.YbulkcvzqFmtCards
import Derived.Test.YbulkcvzqFmtLawP
import Derived.Test.YbulkcvzqFmtLawZ
import Derived.Test.YbulkcvzqFmtBig
import Derived.ProofKit
import Derived.WalkKit
import Derived.Stop.JoinedTold
import Derived.SevenToldRow
import Derived.OpenShut
import Derived.Carry
import Derived.ChangeOld
import Derived.Below
set_option linter.unusedSimpArgs false
set_option linter.unusedVariables false
namespace Go.Proofs.YbulkcvzqFmt.lawS4878ARollsBackHolders
open Go.ChangeShapes Go.WideShapes Go.ChangeAt Go.RowKit

theorem own : ownKnob Ybaf.prog.godebug = none := by kernel_rfl
theorem laidOut : laidOutB Ybaf.prog = true := by kernel_rfl

/-- A slice of whole numbers, opened. -/
theorem rowOf {q : IntKind} {lo hi : Int} {W : World} {a : Option Addr} {len cap : Nat} (zs : List Int)
    (h : (a = none ∧ len = 0 ∧ cap = 0) ∨ ∃ x, a = some x ∧ len ≤ cap ∧ cap ≤ maxLen ∧ zs.length = cap ∧ (∀ i, i < zs.length → W.cell? (x.add i) = some (.int q (zs.getD i 0))) ∧ ∀ n ∈ zs, lo ≤ n ∧ n ≤ hi) : ∃ Z, IsIn q lo hi W a len cap Z := by
  rcases h with ⟨rfl, rfl, rfl⟩ | ⟨x, rfl, hl, hm, hz, hc, hwf⟩
  · exact ⟨fun _ => 0, Nat.le_refl _, Nat.zero_le _, .inl rfl⟩
  · refine ⟨fun i => zs.getD i 0, hl, hm, ?_⟩
    rcases Nat.eq_zero_or_pos len with h0 | h0
    · exact .inl h0
    · right
      obtain ⟨b, off, sp⟩ := x
      have e0 := hc 0 (by omega)
      obtain rfl : sp = none := by
        cases sp with
        | none => rfl
        | some y =>
          simp only [World.cell?, Addr.add] at e0
          split at e0 <;> simp at e0
      refine ⟨b, off, rfl, fun j hj => ?_⟩
      have e := hc j (by omega)
      rw [add_plain] at e
      have hj' : j < zs.length := by omega
      have hm : zs.getD j 0 ∈ zs := by
        rw [List.getD_eq_getElem?_getD, List.getElem?_eq_getElem hj']
        exact List.getElem_mem hj'
      exact ⟨(hwf _ hm).1, (hwf _ hm).2, e⟩

theorem walk (a0 a1 a2 : Option Addr) (n c0 k c1 t c2 : Nat) (idx : Int) (Z0 Z1 Z2 : Nat → Int) (w : World)
    (h0 : IsIn .u8 0 255 w a0 n c0 Z0) (h1 : IsIn .i8 (-128) 127 w a1 k c1 Z1) (h2 : IsIn .u16 0 65535 w a2 t c2 Z2) :
    Calls Ybaf.prog 3 #[.slice a0 n c0, .slice a1 k c1, .slice a2 t c2, .int .i64 idx] w fun r w' => r = .returned (.bool true) ∧ Since w w' := by
  by_cases hs : n ≤ 1024 ∧ k ≤ 1024 ∧ t ≤ 1024
  · rcases Nat.eq_zero_or_pos n with hz | hz
    · exact law_zero a0 a1 a2 n c0 k c1 t c2 idx Z0 Z1 Z2 w hs.1 hs.2.1 hs.2.2 h0 h1 h2 ⟨hz⟩
    · exact law_pos a0 a1 a2 n c0 k c1 t c2 idx Z0 Z1 Z2 w hs.1 hs.2.1 hs.2.2 h0 h1 h2 hz
  · exact law_big a0 a1 a2 n c0 k c1 t c2 idx w (by omega)

set_option maxRecDepth 1000000 in
theorem lifted (os : Os) (started : os.Started) (H : Type) (enc : TypeId × Value → H) :
    ReturnsInTold none {} Ybaf.checked os 3 .any Input.okWide ((OpenSpec.ofChange Rows.lawS4878ARollsBackHoldersSpec).preRow enc Ybaf.prog Ybaf.f3 Rows.lawS4878ARollsBackHoldersRow.domain false Rows.lawS4878ARollsBackHoldersRow.laid) (fun F => ((OpenSpec.ofChange Rows.lawS4878ARollsBackHoldersSpec).at F).post enc Ybaf.prog Ybaf.f3 false true false false) (aloneAtReturn Ybaf.prog) nothingAlways := by
  refine returnsInTold_of_row (C := Ybaf.checked) (s := OpenSpec.ofChange Rows.lawS4878ARollsBackHoldersSpec) (by kernel_rfl) own started (by kernel_rfl) Ybaf.func3
    (OpenSpec.witness_stopped (enc := enc) (C := Ybaf.checked) false ⟨#[], #[.slice none 0 0, .slice none 0 0, .slice none 0 0, .int .i64 0], []⟩ 8 (by kernel_rfl) (by kernel_rfl) (by kernel_rfl) (by kernel_rfl)) ?_
  intro F W base args ds gs before _ hF hval0 hW _ _ _ _ _
  have hval : ∀ (j : Nat) t v, Ybaf.f3.params[j]? = some t → args[j]? = some v → Value.okWide Ybaf.prog W .any base t v := hval0
  have hW' := hW
  obtain ⟨p, q, hA0, hV, rfl, hfz, hnd⟩ := hW
  have hA : DataW.TrodAll enc Ybaf.prog W 0 (fun _ => true) true Ybaf.f3.params.toList args.toList ds p := hA0
  rw [Ybaf.params3] at hA hval
  obtain ⟨v0, vs0, d0, ds0, p0, q0, hargs, rfl, rfl, h0, r0⟩ := trodAll_cons hA
  obtain ⟨v1, vs1, d1, ds1, p1, q1, rfl, rfl, rfl, h1, r1⟩ := trodAll_cons r0
  obtain ⟨v2, vs2, d2, ds2, p2, q2, rfl, rfl, rfl, h2, r2⟩ := trodAll_cons r1
  obtain ⟨v3, vs3, d3, ds3, p3, q3, rfl, rfl, rfl, h3, r3⟩ := trodAll_cons r2
  obtain ⟨rfl, rfl, rfl⟩ := trodAll_nil r3
  obtain rfl : args = #[v0, v1, v2, v3] := by cases args; simp_all
  obtain ⟨rfl, rfl⟩ := trodVars_none hV
  obtain ⟨a0, len0, cap0, rfl⟩ := okWide_slice Ybaf.underlying22 (hval 0 22 v0 rfl rfl)
  obtain ⟨a1, len1, cap1, rfl⟩ := okWide_slice Ybaf.underlying23 (hval 1 23 v1 rfl rfl)
  obtain ⟨a2, len2, cap2, rfl⟩ := okWide_slice Ybaf.underlying24 (hval 2 24 v2 rfl rfl)
  have k0 := h0
  have k1 := h1
  have k2 := h2
  have lt0 : ∀ x ∈ p0, x.block < W.heap.size := by obtain ⟨m, hm⟩ := k0; exact DataW.trod_lt m _ _ _ hm
  have lt1 : ∀ x ∈ p1, x.block < W.heap.size := by obtain ⟨m, hm⟩ := k1; exact DataW.trod_lt m _ _ _ hm
  have lt2 : ∀ x ∈ p2, x.block < W.heap.size := by obtain ⟨m, hm⟩ := k2; exact DataW.trod_lt m _ _ _ hm
  obtain ⟨Z0, w0⟩ : ∃ Z, IsIn .u8 0 255 W a0 len0 cap0 Z := by
    obtain ⟨fuel, hf⟩ := h0
    rcases open_ints Ybaf.underlying22 Ybaf.underlying5 (by kernel_rfl) hf with ⟨hcs, _⟩ | ⟨x, l, c, zs, hcs, _, hl, hm, hz, _, hcell, hwz⟩
    · simp [Value.cells] at hcs
      obtain ⟨rfl, rfl, rfl⟩ := hcs
      exact rowOf [] (.inl ⟨rfl, rfl, rfl⟩)
    · simp [Value.cells] at hcs
      obtain ⟨rfl, rfl, rfl⟩ := hcs
      exact rowOf zs (.inr ⟨_, rfl, hl, hm, by simpa using hz, hcell, fun n hn => bounds_u8 (hwz n hn)⟩)
  obtain ⟨Z1, w1⟩ : ∃ Z, IsIn .i8 (-128) 127 W a1 len1 cap1 Z := by
    obtain ⟨fuel, hf⟩ := h1
    rcases open_ints Ybaf.underlying23 Ybaf.underlying48 (by kernel_rfl) hf with ⟨hcs, _⟩ | ⟨x, l, c, zs, hcs, _, hl, hm, hz, _, hcell, hwz⟩
    · simp [Value.cells] at hcs
      obtain ⟨rfl, rfl, rfl⟩ := hcs
      exact rowOf [] (.inl ⟨rfl, rfl, rfl⟩)
    · simp [Value.cells] at hcs
      obtain ⟨rfl, rfl, rfl⟩ := hcs
      exact rowOf zs (.inr ⟨_, rfl, hl, hm, by simpa using hz, hcell, fun n hn => bounds_i8 (hwz n hn)⟩)
  obtain ⟨Z2, w2⟩ : ∃ Z, IsIn .u16 0 65535 W a2 len2 cap2 Z := by
    obtain ⟨fuel, hf⟩ := h2
    rcases open_ints Ybaf.underlying24 Ybaf.underlying59 (by kernel_rfl) hf with ⟨hcs, _⟩ | ⟨x, l, c, zs, hcs, _, hl, hm, hz, _, hcell, hwz⟩
    · simp [Value.cells] at hcs
      obtain ⟨rfl, rfl, rfl⟩ := hcs
      exact rowOf [] (.inl ⟨rfl, rfl, rfl⟩)
    · simp [Value.cells] at hcs
      obtain ⟨rfl, rfl, rfl⟩ := hcs
      exact rowOf zs (.inr ⟨_, rfl, hl, hm, by simpa using hz, hcell, fun n hn => bounds_u16 (hwz n hn)⟩)
  obtain ⟨a3, rfl, rfl, rfl, w3⟩ := open_int und3 (hval 3 3 v3 rfl rfl) h3
  clear hA0 hval0
  refine (walk a0 a1 a2 len0 cap0 len1 cap1 len2 cap2 a3 Z0 Z1 Z2 W w0 w1 w2).mono fun e W' ⟨he, bel0⟩ => ?_
  have bel := bel0.out
  subst he
  exact ⟨_, rfl, _, _, _, [], _, [], hW', trodAll_mk1 (shut_bool Ybaf.underlying4 _), (trodAll_cons_mk (Below.trod laidOut (by kernel_rfl) (of_decide_eq_true (by kernel_rfl)) k0 bel lt0) (trodAll_cons_mk (Below.trod laidOut (by kernel_rfl) (of_decide_eq_true (by kernel_rfl)) k1 bel lt1) (trodAll_cons_mk (Below.trod laidOut (by kernel_rfl) (of_decide_eq_true (by kernel_rfl)) k2 bel lt2) (trodAll_cons_mk (shut_int und3 w3) trodAll_mk0)))), rfl, bel.frame _, fun h => by cases h⟩

theorem stops : Ybaf.pinned.checked.prog.stops = ["fmt.Sprintf"] := by kernel_rfl
theorem stopKnobs : Ybaf.pinned.checked.prog.stopKnobs = [] := by kernel_rfl
theorem quiet (os : Os) : Stop.quiet Ybaf.pinned.checked.prog os := by
  intro k hk
  rw [stopKnobs] at hk
  cases hk

set_option maxRecDepth 1000000 in
theorem over : Rows.LawS4878ARollsBackHoldersToldSaid :=
  Claim7.holds_of_told_any 3 Ybaf.f3 "fmt.Sprintf" [] [] _ _ _ (by kernel_rfl) rfl rfl rfl laidOut (by kernel_rfl) rfl ⟨rfl, rfl, rfl, rfl, rfl, rfl, rfl⟩ rfl rfl (by kernel_rfl) (by kernel_rfl) Ybaf.func3 (by kernel_rfl)
    (of_decide_eq_true (by kernel_rfl)) (by unfold Func.isWrapper; first | (rw [if_pos (by decide +kernel)]; kernel_rfl) | (rw [if_neg (by decide +kernel)]; exact ⟨rfl, rfl⟩)) stops.symm rfl stopKnobs.symm (by kernel_rfl)
    (by kernel_rfl) (by kernel_rfl) (by kernel_rfl) (by kernel_rfl) (by kernel_rfl) (by kernel_rfl) (by kernel_rfl) (by kernel_rfl) (by kernel_rfl) rfl (by kernel_rfl) rfl rfl
    rfl rfl
    rfl (by kernel_rfl) (by kernel_rfl) (by kernel_rfl) (by decide) (by kernel_rfl)
    (OpenClaim.moreEntering_of (by kernel_rfl) (by kernel_rfl) (by kernel_rfl) (by kernel_rfl) (by kernel_rfl) (by kernel_rfl) (by kernel_rfl) (by kernel_rfl) (by kernel_rfl) (by kernel_rfl))
    ⟨_, WideRow.started_initial, quiet _⟩
    (fun os started _ H enc _ => lifted os started H enc)

end Go.Proofs.YbulkcvzqFmt.lawS4878ARollsBackHolders
namespace Go.Proofs.YbulkcvzqFmt
theorem lawS4878ARollsBackHolders_proved : Rows.LawS4878ARollsBackHoldersToldSaid := lawS4878ARollsBackHolders.over
end Go.Proofs.YbulkcvzqFmt
