/- The law (3): what was built is a net; small facts. -/
import Derived.Test.YbulkcvxmFmtRes
import Derived.Test.YbulkcvxmFmtBld0
import Derived.Test.YbulkcvxmFmtCyc
import Derived.LaidEql
set_option linter.unusedSimpArgs false
set_option linter.unusedVariables false
namespace Go.Proofs.YbulkcvxmFmt
open Go.RowKit

/-- The net that was built. -/
def netOf (I : Nat → Rin) (n mb : Nat) (rb : Nat → Nat) : Gph := ⟨n, rb, edgesOf I n, gOf I, fun k => (I k).rank, mb⟩
section
variable {w0 w : World} {I : Nat → Rin} {n lb mb : Nat} {rb : Nat → Nat} {F : Nat → Nat → Value}
theorem Bd.ok (h : Bd w0 I n n lb mb rb F w) {eb : Nat} {w1 : World} (hE : Ed w1 eb n (edgesOf I n)) (hg : ∀ i, i < n → (I i).gr.length ≤ 1024) : Gok (netOf I n mb rb) :=
  ⟨hE.n3, fun i j hi hj e => h.inj i j hi hj e, hE.lt, hE.len, fun i hi k hk => by
    simp only [netOf, gOf, List.mem_map] at hk
    obtain ⟨x, _, rfl⟩ := hk
    omega, fun i hi => by simp only [netOf, gOf, List.length_map]; exact hg i hi⟩
theorem Bd.net (h : Bd w0 I n n lb mb rb F w) : Net w (netOf I n mb rb) [] (fun _ => 0) (fun _ => 0) F :=
  ⟨fun i hi => h.cells i hi, fun i hi => h.role i hi, h.map, by simp⟩
/-- What resolve leaves alone, since before the roles were built. -/
theorem Bd.rf (h : Bd w0 I n n lb mb rb F w) {w' : World} (hr : Rf (netOf I n mb rb) none w w') : Since w0 w' :=
  ⟨hr.os.trans h.since.out.os, hr.tape.trans h.since.out.tape, hr.output.trans h.since.out.output, Nat.le_trans h.since.size hr.size, fun k hk => (hr.block k (Nat.lt_of_lt_of_le hk h.since.size) (by simp) (fun j hj e => by
    have h1 : w0.heap.size ≤ rb j := h.lr j hj
    have h2 : k = rb j := e
    omega)).trans (h.since.out.block k hk)⟩
theorem Bd.lst (h : Bd w0 I n n lb mb rb F w) {w' : World} (hr : Rf (netOf I n mb rb) none w w') : Cells w' lb 35 n (fun k => .pointer (some ⟨rb k, 0, none⟩)) := by
  have h1 := h.list.congr (G := fun k => .pointer (some ⟨rb k, 0, none⟩)) (fun x hx => by rw [if_pos hx])
  obtain ⟨cs, h2, h3⟩ := h1.ex
  refine ⟨cs, ?_, h3⟩
  rw [hr.block lb (sizeOf_block h2) (by simp) (fun j hj e => ?_)]
  · exact h2
  · obtain ⟨cs', h4⟩ := h.net.blocks j hj
    rw [← e, h2] at h4
    cases h4
end
/-- ErrConflict is ErrConflict. -/
theorem eqErr (ea : Addr) (w : World) : (binOp .eql 34 (.iface 94 (.pointer (some ea))) (.iface 94 (.pointer (some ea)))).run Ybaf.prog w = .ok (.bool true) w := by
  have h1 : (Ybaf.prog.info? 94).map (fun i => i.comparable) = some true := by kernel_rfl
  have h2 : (Ybaf.prog.info? 96).isSome = true := by kernel_rfl
  obtain ⟨i, hi, hc⟩ := Option.map_eq_some_iff.1 h1
  obtain ⟨j, hj⟩ := Option.isSome_iff_exists.1 h2
  obtain ⟨ms, hm⟩ : ∃ ms, Ybaf.prog.underlying 34 = some (.interface ms) := ⟨_, Ybaf.underlying34⟩
  exact run_eql_iface_ptr_same w ea hm (show Ybaf.prog.underlying 94 = some (.pointer 96) by kernel_rfl) hi hc hj
theorem as38 (v : Value) (w : World) : (Instr.typeAssert (.iface 38 v) 34 38 true).run Ybaf.prog w = .ok (.tuple #[v, .bool true]) w := by kernel_rfl
end Go.Proofs.YbulkcvxmFmt
