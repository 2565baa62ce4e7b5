/- Maps keyed by whole numbers, as functions. -/
import Derived.Test.YbulkcvzqFmtMem
set_option linter.unusedSimpArgs false
set_option linter.unusedVariables false
namespace Go.Proofs.YbulkcvzqFmt
open Go.RowKit Go.Maps

def heldE (v : Value) : Option (DataW Value × List MemPlace) := some (.held v, [])
/-- What lies at a key. -/
def seen (z : DataW Value) : Option Value → DataW Value
  | some v => .held v
  | none => z
/-- A number of 64 bits. -/
def W64 (x : Int) : Prop := (Lit.int .i64 x).wf = true
theorem w64 {x : Int} (h0 : -9223372036854775808 ≤ x) (h1 : x ≤ 9223372036854775807) : W64 x := WalkArith.wf_i64 (by omega)

/-- Block b is a map: 'f' says what lies at each key, 'sz' how many keys there are. -/
structure Mp (w : World) (K : TypeId) (b : Nat) (f : Int → Option Value) (sz : Nat) : Prop where
  key : Ybaf.prog.underlying K = some (.int .i64)
  ex : ∃ D n, w.ownsMap Ybaf.prog K heldE b n D ∧ n ≤ 1000000 ∧ Maps.size D = sz ∧ ∀ x, W64 x → ∀ z, D.atKey (.int .i64 x) z = seen z (f x)
def updI (f : Int → Option Value) (x : Int) (v : Option Value) : Int → Option Value := fun y => if y = x then v else f y
theorem updI_same (f : Int → Option Value) (x : Int) (v : Option Value) : updI f x v x = v := by simp [updI]
theorem updI_ne (f : Int → Option Value) {x y : Int} (v : Option Value) (h : y ≠ x) : updI f x v y = f y := by simp [updI, h]

section
variable {w w' : World} {K b sz : Nat} {f : Int → Option Value}
theorem Mp.made (w : World) (hk : Ybaf.prog.underlying K = some (.int .i64)) : Mp (w.alloc (.map #[] 0)) K w.heap.size (fun _ => none) 0 :=
  ⟨hk, _, 0, World.ownsMap_made w _ _ _, by omega, rfl, fun x _ z => by simp [DataW.atKey, seen]⟩
theorem Mp.lt (h : Mp w K b f sz) : b < w.heap.size := by obtain ⟨_, D, n, h1, _⟩ := h; exact h1.lt
theorem Mp.isMap (h : Mp w K b f sz) : ∃ es cl, w.heap[b]? = some (.map es cl) := by
  obtain ⟨_, D, n, ⟨es, cl, h1, _⟩, _⟩ := h
  exact ⟨es, cl, h1⟩
theorem Mp.keep (h : Mp w K b f sz) (he : w'.heap[b]? = w.heap[b]?) : Mp w' K b f sz := by
  obtain ⟨hk, D, n, ⟨es, cl, h1, h2⟩, h3⟩ := h
  exact ⟨hk, D, n, ⟨es, cl, he.trans h1, h2⟩, h3⟩
theorem Mp.since (h : Mp w K b f sz) (hs : Since w w') : Mp w' K b f sz := h.keep (hs.out.block b h.lt)
theorem Mp.congr {g : Int → Option Value} (h : Mp w K b f sz) (he : ∀ x, W64 x → g x = f x) : Mp w K b g sz := by
  obtain ⟨hk, D, n, h1, h2, h3, h4⟩ := h
  exact ⟨hk, D, n, h1, h2, h3, fun x hx z => by rw [he x hx]; exact h4 x hx z⟩

theorem Mp.look {t e : TypeId} {z : Value} (h : Mp w K b f sz) (ht : Ybaf.prog.underlying t = some (.map K e)) (hz : (zeroValue e).run Ybaf.prog w = .ok z w) {x : Int} (hx : W64 x) :
    (Instr.lookup t (.map (some b)) (.int .i64 x) false).run Ybaf.prog w = .ok ((f x).getD z) w := by
  obtain ⟨hk, D, n, h1, h2, h3, h4⟩ := h
  obtain ⟨v, ps, hr, hv⟩ := h1.lookup (int_keyed hk) ht hz (zd := .held z) (zp := []) rfl (keyOf_int_mk hk hx)
  rw [h4 x hx] at hv
  rw [hr]
  cases hf : f x with
  | none => rw [hf] at hv; simp [heldE, seen] at hv; rw [hv.1]; rfl
  | some u => rw [hf] at hv; simp [heldE, seen] at hv; rw [hv.1]; rfl
theorem Mp.has {D : DataW Value} (h4 : ∀ x, W64 x → ∀ z, D.atKey (.int .i64 x) z = seen z (f x)) {x : Int} (hx : W64 x) : Maps.has D (.int .i64 x) = (f x).isSome := by
  cases hf : f x with
  | none => exact has_false_of_atKey (fun z => by rw [h4 x hx, hf]; rfl)
  | some u => exact has_true_of_atKey (y := .held u) (fun z => by rw [h4 x hx, hf]; rfl)
theorem Mp.look_ok {t e : TypeId} {z : Value} (h : Mp w K b f sz) (ht : Ybaf.prog.underlying t = some (.map K e)) (hz : (zeroValue e).run Ybaf.prog w = .ok z w) {x : Int} (hx : W64 x) :
    (Instr.lookup t (.map (some b)) (.int .i64 x) true).run Ybaf.prog w = .ok (.tuple #[(f x).getD z, .bool (f x).isSome]) w := by
  obtain ⟨hk, D, n, h1, h2, h3, h4⟩ := h
  obtain ⟨v, ps, hr, hv⟩ := h1.look_ok (int_keyed hk) ht hz (zd := .held z) (zp := []) rfl (keyOf_int_mk hk hx)
  rw [h4 x hx] at hv
  rw [hr, Mp.has h4 hx]
  cases hf : f x with
  | none => rw [hf] at hv; simp [heldE, seen] at hv; rw [hv.1]; rfl
  | some u => rw [hf] at hv; simp [heldE, seen] at hv; rw [hv.1]; rfl
theorem Mp.len {t e : TypeId} (h : Mp w K b f sz) (ht : Ybaf.prog.underlying t = some (.map K e)) (ty : TypeId) : (Builtin.len_ #[t] ty #[.map (some b)]).run Ybaf.prog w = .ok (.int .i64 sz) w := by
  obtain ⟨hk, D, n, h1, h2, h3, h4⟩ := h
  rw [h1.len ht, h3]
/-- A map that holds nothing. -/
theorem Mp.size_le (h : Mp w K b f sz) : sz ≤ 1000000 := by
  obtain ⟨hk, D, n, h1, h2, h3, h4⟩ := h
  have := h1.size_le
  omega

theorem Mp.store {t e : TypeId} {x : Int} (h : Mp w K b f sz) (ht : Ybaf.prog.underlying t = some (.map K e)) (hx : W64 x) (v : Value) (hsz : sz < 10000) :
    ∃ w', (Instr.mapUpdate t (.map (some b)) (.int .i64 x) v).run Ybaf.prog w = .ok () w' ∧ Mp w' K b (updI f x (some v)) (if (f x).isSome then sz else sz + 1) ∧ w.mapTurned w' b := by
  obtain ⟨hk, D, n, h1, h2, h3, h4⟩ := h
  have hown : w.ownsMap Ybaf.prog K heldE b sz D := by
    obtain ⟨es, cl, g1, g2, g3, g4⟩ := h1
    refine ⟨es, cl, g1, g2, ?_, g4⟩
    rw [g4] at h3
    simp [Maps.size, length_sorted] at h3
    omega
  obtain ⟨w', hr, r1, r2⟩ := hown.store (int_keyed hk) ht (by unfold maxLen; omega) (keyOf_int_mk hk hx) (val := v) (d := .held v) (ps := []) rfl
  refine ⟨w', hr, ⟨hk, _, _, r1, by omega, ?_, fun y hy z => ?_⟩, r2⟩
  · rw [size_put (h1.tidy (int_keyed hk)), Mp.has h4 hx, h3]
  · by_cases e : y = x
    · subst e
      rw [updI_same, atKey_put_same (k := .int .i64 y) h1.isMap (show WideAt.IsKeyLit (.int .i64 y) from trivial)]
      rfl
    · rw [updI_ne _ _ e, atKey_put_other (by intro e'; cases e'; exact e rfl)]
      exact h4 y hy z
theorem Mp.drop {t e : TypeId} {x : Int} (h : Mp w K b f sz) (ht : Ybaf.prog.underlying t = some (.map K e)) (hx : W64 x) (ty : TypeId) :
    ∃ w', (Builtin.delete_ #[t, K] ty #[.map (some b), .int .i64 x]).run Ybaf.prog w = .ok (.tuple #[]) w' ∧ Mp w' K b (updI f x none) (if (f x).isSome then sz - 1 else sz) ∧ w.mapTurned w' b := by
  obtain ⟨hk, D, n, h1, h2, h3, h4⟩ := h
  obtain ⟨w', hr, r1, r2⟩ := h1.drop (int_keyed hk) ht (keyOf_int_mk hk hx) ty
  refine ⟨w', hr, ⟨hk, _, _, r1, h2, ?_, fun y hy z => ?_⟩, r2⟩
  · have := size_del (k := .int .i64 x) (h1.tidy (int_keyed hk))
    rw [Mp.has h4 hx, h3] at this
    split <;> simp_all <;> omega
  · by_cases e : y = x
    · subst e
      rw [updI_same, atKey_del_same]
      rfl
    · rw [updI_ne _ _ e, atKey_del_other (by intro e'; cases e'; exact e rfl)]
      exact h4 y hy z
end
theorem turned_block {w w' : World} {b i : Nat} (h : w.mapTurned w' b) (hi : i < w.heap.size) (hne : i ≠ b) : w'.heap[i]? = w.heap[i]? := h.grown.block i hi (by simpa using hne)
end Go.Proofs.YbulkcvzqFmt
