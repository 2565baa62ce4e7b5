/-
  'Rows.LawS4880CQueueSaid' proved: the frame is the skeleton tool's, the walk lies in YbulkcwasLaw.lean.
-/
import Derived.Test.YbulkcwasRows
import Derived.Test.YbulkcwasLaw
import Derived.WalkKit
import Derived.ProofKit
import Derived.OpenShut
import Derived.ShutString
import Derived.ChangeOld
import Derived.Below
import Derived.Deep.Slices
namespace Go.Proofs.Ybulkcwas.lawS4880CQueue
open Go.ChangeShapes Go.WideShapes Go.ChangeAt Go.RowKit
open Go.ChangeMaps (open_string shut_string)
set_option linter.unusedVariables false

theorem own : ownKnob Yba.prog.godebug = none := by kernel_rfl
theorem laidOut : laidOutB Yba.prog = true := by kernel_rfl
theorem cells31 : Yba.prog.cellsOf 31 = 5 := by kernel_rfl
theorem cells5 : Yba.prog.cellsOf 5 = 1 := by kernel_rfl
theorem cells29 : Yba.prog.cellsOf 29 = 1 := by kernel_rfl

/-- One step of the script, out of its five cells. -/
theorem opOf {H : Type} {enc : TypeId × Value → H} {W : World} {base : Nat} {sp : Nat → Bool} {held : Bool} {n : Nat} {a : Addr} {x : DataW H × List MemPlace} {cs : List Value}
    (h1 : W.cells? base a 5 = some cs) (h2 : DataW.trod enc Yba.prog W base sp held n 31 cs = some x) :
    ∃ o : Op5, o.ok ∧ W.cell? (a.add 0) = some (.int .u8 o.op) ∧ W.cell? (a.add 1) = some (.int .i8 o.time) ∧ W.cell? (a.add 2) = some (.int .i8 o.fr) ∧ W.cell? (a.add 3) = some (.int .u8 o.to) ∧ W.cell? (a.add 4) = some (.int .i8 o.tt) := by
  obtain ⟨_, hlen, hcell⟩ := World.cells?_some h1
  obtain ⟨xs, k, hk, hxy, _, hxl, hf⟩ := DataW.trod_struct Yba.underlying31 h2
  match xs, hxl, cs, hlen with
  | [y0, y1, y2, y3, y4], _, [v0, v1, v2, v3, v4], _ =>
    have g0 := hf 0 _ rfl
    have g1 := hf 1 _ rfl
    have g2 := hf 2 _ rfl
    have g3 := hf 3 _ rfl
    have g4 := hf 4 _ rfl
    simp [cells5, cells29] at g0 g1 g2 g3 g4
    have e0 := hcell 0 (by omega)
    have e1 := hcell 1 (by omega)
    have e2 := hcell 2 (by omega)
    have e3 := hcell 3 (by omega)
    have e4 := hcell 4 (by omega)
    obtain ⟨a0, ha0, _, w0⟩ := DataW.trod_int Yba.underlying5 g0
    obtain ⟨a1, ha1, _, w1⟩ := DataW.trod_int Yba.underlying29 g1
    obtain ⟨a2, ha2, _, w2⟩ := DataW.trod_int Yba.underlying29 g2
    obtain ⟨a3, ha3, _, w3⟩ := DataW.trod_int Yba.underlying5 g3
    obtain ⟨a4, ha4, _, w4⟩ := DataW.trod_int Yba.underlying29 g4
    have b0 := bounds_u8 w0
    have b1 := bounds_i8 w1
    have b2 := bounds_i8 w2
    have b3 := bounds_u8 w3
    have b4 := bounds_i8 w4
    simp only [List.cons.injEq, and_true] at ha0 ha1 ha2 ha3 ha4
    subst ha0 ha1 ha2 ha3 ha4
    exact ⟨⟨a0, a1, a2, a3, a4⟩, ⟨b0.1, by show a0 < 256; omega, b1.1, by show a1 < 128; omega, b2.1, by show a2 < 128; omega, b3.1, by show a3 < 256; omega, b4.1, by show a4 < 128; omega⟩, by simpa using e0, by simpa using e1, by simpa using e2, by simpa using e3, by simpa using e4⟩

instance : Inhabited Op5 := ⟨⟨0, 0, 0, 0, 0⟩⟩
/-- The script opened. -/
theorem opsOf {H : Type} {enc : TypeId × Value → H} {W : World} {base : Nat} {sp : Nat → Bool} {held : Bool} {fuel : Nat} {a : Option Addr} {len cap : Nat} {x : DataW H × List MemPlace}
    (h : DataW.trod enc Yba.prog W base sp held fuel 22 [.slice a len cap] = some x) : ∃ O, IsOps W a len cap O := by
  rcases Go.Deep.open_slice Yba.underlying22 h with ⟨hcs, _⟩ | ⟨ad, l, c, m, n, D, Pl, hcs, hb, hl, hm, hmm, _, hx⟩
  · simp at hcs
    obtain ⟨rfl, rfl, rfl⟩ := hcs
    exact ⟨fun _ => ⟨0, 0, 0, 0, 0⟩, Nat.le_refl _, Nat.zero_le _, .inl rfl⟩
  · simp at hcs
    obtain ⟨rfl, rfl, rfl⟩ := hcs
    have hlm : len ≤ m := by rw [hmm]; split <;> omega
    obtain ⟨O, hO⟩ := Go.Deep.choose_lt (α := Op5) (p := fun i o => o.ok ∧ W.cell? ((ad.add (i * 5)).add 0) = some (.int .u8 o.op) ∧ W.cell? ((ad.add (i * 5)).add 1) = some (.int .i8 o.time) ∧ W.cell? ((ad.add (i * 5)).add 2) = some (.int .i8 o.fr) ∧ W.cell? ((ad.add (i * 5)).add 3) = some (.int .u8 o.to) ∧ W.cell? ((ad.add (i * 5)).add 4) = some (.int .i8 o.tt)) (n := m) (fun i hi => by
      obtain ⟨cs', h1, h2⟩ := hx i hi
      rw [cells31] at h1
      exact opOf h1 h2)
    refine ⟨O, hl, hm, ?_⟩
    rcases Nat.eq_zero_or_pos len with h0 | h0
    · exact .inl h0
    · right
      obtain ⟨b, off, sp'⟩ := ad
      have e0 := (hO 0 (by omega)).2.1
      obtain rfl : sp' = none := by
        cases sp' with
        | none => rfl
        | some y =>
          simp only [World.cell?, Addr.add] at e0
          split at e0 <;> simp at e0
      refine ⟨b, off, rfl, fun k hk => ?_⟩
      have := hO k (by omega)
      simp only [add_plain, Nat.add_zero] at this
      exact this

theorem walk (nodes : Int) (a : Option Addr) (len cap : Nat) (O : Nat → Op5) (w : World) (h0 : (Lit.int .u8 nodes).wf = true) (hO : IsOps w a len cap O) :
    Calls Yba.prog 3 #[.int .u8 nodes, .slice a len cap] w fun r w' => r = .returned (.bool true) ∧ Below w.heap.size w w' := by
  have hn := bounds_u8 h0
  by_cases hl : len ≤ 1024
  · refine (law_small nodes a len cap O w (by omega) (by omega) hO hl).mono ?_
    rintro r w' ⟨hr, hs⟩
    exact ⟨hr, hs.out⟩
  · have := hO.1
    have := hO.2.1
    refine (law_big nodes a len cap w (by omega) (by unfold maxLen at *; omega)).mono ?_
    rintro r w' ⟨hr, hs⟩
    exact ⟨hr, hs.out⟩

set_option maxRecDepth 100000 in
theorem lifted (os : Os) (started : os.Started) (H : Type) (enc : TypeId × Value → H) :
    ReturnsInHanded {} Yba.checked os 3 .any (Rows.lawS4880CQueueSpec.pre6 enc Yba.prog Yba.f3 Rows.lawS4880CQueueRow.domain false) (Rows.lawS4880CQueueSpec.post enc Yba.prog Yba.f3 false true false false) := by
  refine returnsInHanded_of_change (C := Yba.checked) own started (by kernel_rfl) Yba.func3
    (ChangeSpec.witness6 (enc := enc) (C := Yba.checked) false ⟨#[], #[.int .u8 0, .slice none 0 0], []⟩ 8 (by kernel_rfl) (by kernel_rfl) (by kernel_rfl) (by kernel_rfl)) ?_
  intro W base args ds gs before hval0 hW hcnd _
  have hval : ∀ (j : Nat) t v, Yba.f3.params[j]? = some t → args[j]? = some v → Value.okWide Yba.prog W .any base t v := hval0
  have hW' := hW
  obtain ⟨p, q, hA0, hV, rfl, hfz, hnd⟩ := hW
  have hA : DataW.TrodAll enc Yba.prog W 0 (fun _ => true) true Yba.f3.params.toList args.toList ds p := hA0
  rw [Yba.params3] at hA hval
  obtain ⟨v0, vs0, d0, ds0, p0, q0, hargs, rfl, rfl, h0, r0⟩ := trodAll_cons hA
  obtain ⟨v1, vs1, d1, ds1, p1, q1, rfl, rfl, rfl, h1, r1⟩ := trodAll_cons r0
  obtain ⟨rfl, rfl, rfl⟩ := trodAll_nil r1
  obtain rfl : args = #[v0, v1] := by cases args; simp_all
  obtain ⟨rfl, rfl⟩ := trodVars_none hV
  obtain ⟨a0, rfl, rfl, rfl, w0⟩ := open_int Yba.underlying5 (hval 0 5 v0 rfl rfl) h0
  obtain ⟨a1, len1, cap1, rfl⟩ := okWide_slice Yba.underlying22 (hval 1 22 v1 rfl rfl)
  have k1 := h1
  have lt1 : ∀ x ∈ p1, x.block < W.heap.size := by obtain ⟨m, hm⟩ := k1; exact DataW.trod_lt m _ _ _ hm
  obtain ⟨O, hO⟩ : ∃ O, IsOps W a1 len1 cap1 O := by
    obtain ⟨fuel, hf⟩ := h1
    exact opsOf hf
  clear hA0 hval0
  refine (walk a0 a1 len1 cap1 O W w0 hO).mono fun e W' ⟨he, bel⟩ => ?_
  subst he
  exact ⟨_, rfl, _, _, _, [], _, [], hW', trodAll_mk1 (shut_bool Yba.underlying4 _), (trodAll_cons_mk (shut_int Yba.underlying5 w0) (trodAll_cons_mk (Below.trod laidOut (by kernel_rfl) (of_decide_eq_true (by kernel_rfl)) k1 bel lt1) trodAll_mk0)), rfl, bel.frame _, fun h => by cases h⟩

theorem over : Rows.lawS4880CQueueRow.holds Yba.pinned (OpenSpec.ofChange Rows.lawS4880CQueueSpec) :=
  OpenClaim.holds_of_wide 3 Yba.f3 rfl rfl rfl rfl rfl rfl rfl ⟨rfl, rfl, rfl, rfl, rfl⟩ rfl rfl rfl rfl rfl (by kernel_rfl) Yba.func3 (by kernel_rfl)
    (of_decide_eq_true (by kernel_rfl)) (by unfold Func.isWrapper; first | (rw [if_pos (by decide +kernel)]; kernel_rfl) | (rw [if_neg (by decide +kernel)]; exact ⟨rfl, rfl⟩))
    (fun os started H enc _ => lifted os started H enc)

end Go.Proofs.Ybulkcwas.lawS4880CQueue
namespace Go.Proofs.Ybulkcwas
theorem lawS4880CQueue_proved : Rows.LawS4880CQueueSaid := lawS4880CQueue.over
end Go.Proofs.Ybulkcwas
