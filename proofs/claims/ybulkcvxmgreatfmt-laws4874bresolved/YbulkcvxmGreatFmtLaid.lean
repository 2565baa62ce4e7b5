/-
  The start that fits: a world in which the four listed variables hold what their initialisers lay; what the row's condition gives; the argument opened.
-/
import Derived.Test.YbulkcvxmGreatFmtRows
import Derived.Test.YbulkcvxmGreatFmtBld0
import Derived.Lib.LaidIn
import Derived.Lib.LaidTab
import Derived.Stop.LaidErr
import Derived.Deep.DeepWitnessRef
import Derived.Deep.Slices
import Derived.Deep.Strs
import Derived.ProofKit
import Derived.Stop.JoinedTold
import Derived.SevenTiedAt
import Derived.OpenVars
import Derived.OpenShut
import Derived.Carry
set_option linter.unusedSimpArgs false
set_option linter.unusedVariables false
namespace Go.Proofs.YbulkcvxmGreatFmt
open Go.RowKit

theorem own : ownKnob Ybaz.prog.godebug = none := by kernel_rfl
theorem laidOut : laidOutB Ybaz.prog = true := by kernel_rfl

noncomputable def laidWorld (os : Os) : World :=
  let w0 := World.holding Ybaz.prog os ⟨#[.cells #[.string ⟨#[99, 111, 110, 102, 108, 105, 99, 116, 105, 110, 103, 32, 99, 104, 97, 110, 103, 101]⟩] 121], #[], []⟩
  let put (h : Array Obj) (g : Nat) (cs : Array Value) : Array Obj := h.modify g fun
    | .cells _ t frozen => .cells cs t frozen
    | o => o
  let h0 := put w0.heap 0 #[.iface 119 (.pointer (some ⟨w0.heap.size - 1, 0, none⟩))]
  let h1 := put h0 2 #[.int .u64 1, .int .u64 10, .int .u64 100, .int .u64 1000, .int .u64 10000, .int .u64 100000, .int .u64 1000000, .int .u64 10000000, .int .u64 100000000, .int .u64 1000000000, .int .u64 10000000000, .int .u64 100000000000, .int .u64 1000000000000, .int .u64 10000000000000, .int .u64 100000000000000, .int .u64 1000000000000000, .int .u64 10000000000000000, .int .u64 100000000000000000, .int .u64 1000000000000000000, .int .u64 10000000000000000000]
  let h2 := put h1 3 #[.int .u8 0, .int .u8 1, .int .u8 28, .int .u8 2, .int .u8 29, .int .u8 14, .int .u8 24, .int .u8 3, .int .u8 30, .int .u8 22, .int .u8 20, .int .u8 15, .int .u8 25, .int .u8 17, .int .u8 4, .int .u8 8, .int .u8 31, .int .u8 27, .int .u8 13, .int .u8 23, .int .u8 21, .int .u8 19, .int .u8 16, .int .u8 7, .int .u8 26, .int .u8 12, .int .u8 18, .int .u8 6, .int .u8 11, .int .u8 5, .int .u8 10, .int .u8 9]
  let h3 := put h2 4 #[.int .u8 0, .int .u8 1, .int .u8 56, .int .u8 2, .int .u8 57, .int .u8 49, .int .u8 28, .int .u8 3, .int .u8 61, .int .u8 58, .int .u8 42, .int .u8 50, .int .u8 38, .int .u8 29, .int .u8 17, .int .u8 4, .int .u8 62, .int .u8 47, .int .u8 59, .int .u8 36, .int .u8 45, .int .u8 43, .int .u8 51, .int .u8 22, .int .u8 53, .int .u8 39, .int .u8 33, .int .u8 30, .int .u8 24, .int .u8 18, .int .u8 12, .int .u8 5, .int .u8 63, .int .u8 55, .int .u8 48, .int .u8 27, .int .u8 60, .int .u8 41, .int .u8 37, .int .u8 16, .int .u8 46, .int .u8 35, .int .u8 44, .int .u8 21, .int .u8 52, .int .u8 32, .int .u8 23, .int .u8 11, .int .u8 54, .int .u8 26, .int .u8 40, .int .u8 15, .int .u8 34, .int .u8 20, .int .u8 31, .int .u8 10, .int .u8 25, .int .u8 14, .int .u8 19, .int .u8 9, .int .u8 13, .int .u8 8, .int .u8 7, .int .u8 6]
  { w0 with heap := h3 }

def laid4 : List (String × DataW Unit) := [("math/bits.deBruijn32tab", Rows.laid_math_bits_deBruijn32tab), ("math/bits.deBruijn64tab", Rows.laid_math_bits_deBruijn64tab), ("internal/strconv.uint64pow10", Rows.laid_internal_strconv_uint64pow10), ("example.com/cordon/cordon/internal/model.ErrConflict", Rows.laid_example_com_cordon_cordon_internal_model_ErrConflict)]

theorem g0 : Ybaz.prog.globalNamed "example.com/cordon/cordon/internal/model.ErrConflict" = some 0 := by kernel_rfl
theorem g2 : Ybaz.prog.globalNamed "internal/strconv.uint64pow10" = some 2 := by kernel_rfl
theorem g3 : Ybaz.prog.globalNamed "math/bits.deBruijn32tab" = some 3 := by kernel_rfl
theorem g4 : Ybaz.prog.globalNamed "math/bits.deBruijn64tab" = some 4 := by kernel_rfl
theorem t0 : (Ybaz.prog.globals[0]?).map (·.type) = some 46 := by kernel_rfl

set_option maxRecDepth 1000000 in
theorem laid_met (os : Os) (args : Array Value) : laidMet Ybaz.prog laid4 ((laidWorld os).forCall (fun _ _ => 0) ⟨#[], args, []⟩).memory :=
  (LaidIn.of_run [3, 4, 2, 0, (laidWorld os).heap.size - 1] 10 (by kernel_rfl) (by kernel_rfl) (by kernel_rfl) (by kernel_rfl)).met

/-! ### what the condition gives -/
theorem star : "*" ++ "errors.errorString" = "*errors.errorString" := by decide
theorem row119 (u : TypeId) (h : Ybaz.prog.typeName? 3 u = some "*errors.errorString") : u = 119 :=
  typeName_ptr_named (nm := "errors.errorString") (by rw [star]; kernel_rfl) (by kernel_rfl) (by decide) u (by rw [star]; exact h)
theorem err_of {W : World} (h : laidMet Ybaz.prog laid4 W) : ∃ ea T0, W.heap[0]? = some (.cells #[.iface 119 (.pointer (some ea))] T0) := by
  have h3 := h.tail.tail.tail
  obtain ⟨ea, s, hv, -⟩ := laid_sentinel h3 g0 t0 Ybaz.underlying46 row119 Ybaz.underlying119 Ybaz.underlying121 rfl rfl und9 (by kernel_rfl) (by kernel_rfl)
  obtain ⟨ps, ⟨g, t, cs, f, p, q, hg, ht, hv0, hd, _, e0⟩, _, hrows⟩ := h3
  obtain rfl := Option.some.inj (g0.symm.trans hg)
  rw [hv] at hv0
  cases hv0
  obtain ⟨c, t', hh⟩ := (hrows 0 0 (by rw [e0]; simp [MemPlace.row])).1
  refine ⟨ea, t', ?_⟩
  unfold World.var? at hv
  rw [g0] at hv
  simp only [Option.bind_some, hh, Option.some.injEq] at hv
  rw [hh, hv]
theorem tab_of {W : World} (h : laidMet Ybaz.prog laid4 W) : Tab W :=
  Lib.tabIs_of_head (t := 150) (e := 30) (n := 20) g2 (by kernel_rfl) (by kernel_rfl) (by kernel_rfl) (by kernel_rfl) (by kernel_rfl) h.tail.tail

/-! ### the argument -/
section
variable {H : Type} {enc : TypeId × Value → H} {W : World} {sp : Nat → Bool} {held : Bool}
theorem addr_cell {x : Addr} {v : Value} {k : Nat} (h : W.cell? (x.add k) = some v) : W.cell? ⟨x.block, x.off + k, none⟩ = some v := by
  obtain ⟨b, o, sq⟩ := x
  by_cases hk : k = 0
  · subst hk
    simp only [Addr.add, if_true] at h
    cases sq with
    | none => exact h
    | some y =>
      simp only [World.cell?] at h
      split at h <;> simp at h
  · simp only [Addr.add, if_neg hk] at h
    exact h
theorem addr_plain {x : Addr} {v : Value} (h : W.cell? x = some v) : x = ⟨x.block, x.off, none⟩ := by
  obtain ⟨b, o, sq⟩ := x
  cases sq with
  | none => rfl
  | some y =>
    simp only [World.cell?] at h
    split at h <;> simp at h
theorem sl_of {t e : TypeId} {q : IntKind} {lo hi : Int} {fuel : Nat} {c : Value} {y : DataW H × List MemPlace} (ht : Ybaz.prog.underlying t = some (.slice e)) (he : Ybaz.prog.underlying e = some (.int q)) (hc : Ybaz.prog.cellsOf e = 1)
    (hb : ∀ n, (Lit.int q n).wf = true → lo ≤ n ∧ n ≤ hi) (h : DataW.trod enc Ybaz.prog W 0 (fun _ => true) held fuel t [c] = some y) : ∃ l, SlIn q lo hi W c l := by
  rcases ChangeShapes.open_ints ht he hc h with ⟨hcs, _⟩ | ⟨x, l, cap, zs, hcs, _, hl, hm, hz, _, hcell, hwz⟩
  · simp at hcs
    subst hcs
    exact ⟨[], none, 0, rfl, Nat.le_refl _, Nat.zero_le _, .inl rfl⟩
  · simp at hcs
    subst hcs
    simp only [if_true] at hz
    have hll : (zs.take l).length = l := by rw [List.length_take]; omega
    refine ⟨zs.take l, some x, cap, by rw [hll], by omega, hm, ?_⟩
    rcases Nat.eq_zero_or_pos l with h0 | h0
    · left; subst h0; rfl
    · right
      have e0 := hcell 0 (by omega)
      have hx : x.add 0 = x := by simp [Addr.add]
      rw [hx] at e0
      refine ⟨x.block, x.off, congrArg some (addr_plain e0), fun j z hj => ?_⟩
      have hjl : j < l := by
        have := (List.getElem?_eq_some_iff.1 hj).1
        omega
      rw [List.getElem?_take, if_pos hjl] at hj
      have hd : zs.getD j 0 = z := by rw [List.getD_eq_getElem?_getD, hj]; rfl
      have e1 := addr_cell (hcell j (by omega))
      rw [hd] at e1
      exact ⟨e1, hb z (hwz z (List.mem_of_getElem? hj))⟩
theorem b16 (n : Int) (h : (Lit.int .u16 n).wf = true) : 0 ≤ n ∧ n ≤ 65535 := by
  simp [Lit.wf, IntKind.min, IntKind.max, IntKind.signed, IntKind.bits] at h
  omega
theorem b8 (n : Int) (h : (Lit.int .u8 n).wf = true) : 0 ≤ n ∧ n ≤ 255 := by
  simp [Lit.wf, IntKind.min, IntKind.max, IntKind.signed, IntKind.bits] at h
  omega
theorem b64 (n : Int) (h : (Lit.int .i64 n).wf = true) : -9223372036854775808 ≤ n ∧ n ≤ 9223372036854775807 := by
  have e1 : IntKind.min .i64 = -9223372036854775808 := by kernel_rfl
  have e2 : IntKind.max .i64 = 9223372036854775807 := by kernel_rfl
  have h' : (decide (IntKind.min .i64 ≤ n) && decide (n ≤ IntKind.max .i64)) = true := h
  rw [e1, e2] at h'
  simpa using h'
set_option maxRecDepth 100000 in
theorem role_of {fuel k : Nat} {x : Addr} {cs : List Value} {y : DataW H × List MemPlace} (hc : W.cells? 0 (x.add k) 3 = some cs) (h : DataW.trod enc Ybaz.prog W 0 (fun _ => true) held fuel 26 cs = some y) : ∃ r, RoleIn W x.block (x.off + k) r := by
  obtain ⟨-, hl, hcell⟩ := World.cells?_some hc
  obtain ⟨y0, y1, y2, n, -, -, h0, h1, h2⟩ := Deep.trod_struct3 Ybaz.underlying26 h
  have e23 : Ybaz.prog.cellsOf 23 = 1 := by kernel_rfl
  have e24 : Ybaz.prog.cellsOf 24 = 1 := by kernel_rfl
  have e3 : Ybaz.prog.cellsOf 3 = 1 := by kernel_rfl
  match cs, hl with
  | [c0, c1, c2], _ =>
    simp only [e23, e24, e3, List.drop_zero, List.drop_succ_cons, List.take_succ_cons, List.take_zero] at h0 h1 h2
    obtain ⟨l0, s0⟩ := sl_of Ybaz.underlying23 Ybaz.underlying68 (by kernel_rfl) b16 h0
    obtain ⟨l1, s1⟩ := sl_of Ybaz.underlying24 Ybaz.underlying5 (by kernel_rfl) b8 h1
    obtain ⟨z, hz, -, hw⟩ := DataW.trod_int und3' h2
    simp at hz
    subst hz
    have a0 := hcell 0 (by omega)
    have a1 := hcell 1 (by omega)
    have a2 := hcell 2 (by omega)
    rw [Deep.add_add] at a0 a1 a2
    exact ⟨⟨c0, c1, l0, l1, z⟩, addr_cell a0, addr_cell a1, addr_cell a2, s0, s1, (b64 z hw).1, (b64 z hw).2⟩
set_option maxRecDepth 100000 in
theorem ins_of {fuel : Nat} {a : Option Addr} {len cap : Nat} {y : DataW H × List MemPlace} (h : DataW.trod enc Ybaz.prog W 0 (fun _ => true) held fuel 22 [.slice a len cap] = some y) : ∃ I, Ins W a len cap I := by
  have dr : Rin := ⟨.nilIface, .nilIface, [], [], 0⟩
  rcases Deep.open_slice Ybaz.underlying22 h with ⟨hcs, _⟩ | ⟨x, l, c, m, n, D, Pl, hcs, _, hl, hm, hmm, _, hel⟩
  · simp at hcs
    obtain ⟨rfl, rfl, rfl⟩ := hcs
    exact ⟨fun _ => dr, Nat.le_refl _, Nat.zero_le _, .inl rfl⟩
  · simp at hcs
    obtain ⟨rfl, rfl, rfl⟩ := hcs
    simp only [if_true] at hmm
    have e26 : Ybaz.prog.cellsOf 26 = 3 := by kernel_rfl
    rw [e26] at hel
    have each : ∀ i, i < len → ∃ r, RoleIn W x.block (x.off + i * 3) r := fun i hi => by
      obtain ⟨cs', h1, h2⟩ := hel i (by omega)
      exact role_of h1 h2
    rcases Nat.eq_zero_or_pos len with h0 | h0
    · exact ⟨fun _ => dr, hl, hm, .inl h0⟩
    · obtain ⟨cs', h1, h2⟩ := hel 0 (by omega)
      obtain ⟨-, hcl, hcell⟩ := World.cells?_some h1
      have hx : x = ⟨x.block, x.off, none⟩ := by
        have q := hcell 0 (by omega)
        have hx0 : (x.add (0 * 3)).add 0 = x := by simp [Addr.add]
        rw [hx0, List.getElem?_eq_getElem (by omega)] at q
        exact addr_plain q
      refine ⟨fun i => if hi : i < len then (each i hi).choose else dr, hl, hm, .inr ⟨x.block, x.off, congrArg some hx, fun i hi => ?_⟩⟩
      simp only [dif_pos hi]
      exact (each i hi).choose_spec
end
end Go.Proofs.YbulkcvxmGreatFmt
