import Derived.Test.YbulkcvzcFmtDec6
set_option linter.unusedSimpArgs false
set_option linter.unusedVariables false
namespace Go.Proofs.YbulkcvzcFmt
open Go.RowKit

/-- What is asked of the code's octets. -/
structure Octs (w : World) (gb s e : Nat) (l : List Int) : Prop where
  len : l.length = e - s
  lt : s < e
  cells : ∀ j, j < l.length → w.cell? ⟨gb, s + j, none⟩ = some (.int .u8 (l.getD j 0))
  bytes : ∀ x ∈ l, 0 ≤ x ∧ x < 256
  head : l.getD 0 0 < 128
  short : (strip l).length ≤ 3
theorem Octs.keep {w w' : World} {gb s e : Nat} {l : List Int} (h : Octs w gb s e l) (hs : Since w w') : Octs w' gb s e l :=
  ⟨h.len, h.lt, fun j hj => hs.cell (h.cells j hj), h.bytes, h.head, h.short⟩

theorem elS {W : World} {b : Nat} {id o s e : Int} (h : W.heap[b]? = some (.cells #[.int .u8 id, .int .i64 o, .int .i64 s, .int .i64 e] 29)) :
    (∀ w', Since W w' → w'.cell? ⟨b, 0, none⟩ = some (.int .u8 id)) ∧ (∀ w', Since W w' → w'.cell? ⟨b, 1, none⟩ = some (.int .i64 o)) ∧ (∀ w', Since W w' → w'.cell? ⟨b, 2, none⟩ = some (.int .i64 s)) ∧ (∀ w', Since W w' → w'.cell? ⟨b, 3, none⟩ = some (.int .i64 e)) :=
  ⟨fun _ hb => cellOf (hb.keep h), fun _ hb => cellOf (hb.keep h), fun _ hb => cellOf (hb.keep h), fun _ hb => cellOf (hb.keep h)⟩

set_option maxRecDepth 100000 in
set_option maxHeartbeats 2000000 in
theorem uint_ok (db gb N cap s e : Nat) (o : Int) (l : List Int) (what : ByteArray) (w : World) (hD : w.heap[db]? = some (decO gb N cap none)) (heN : e ≤ N) (hN : N ≤ 1000) (hNc : N ≤ cap) (ho : Octs w gb s e l) (v0 : 0 ≤ val (strip l)) (v1 : val (strip l) ≤ 9999) :
    Calls Ybaf.prog 20 #[.pointer (some ⟨db, 0, none⟩), .agg #[.int .u8 128, .int .i64 o, .int .i64 s, .int .i64 e], .string what, .int .u64 9999] w fun r w' => r = .returned (.int .u64 (val (strip l))) ∧ Since w w' := by
  obtain ⟨v, HV⟩ : ∃ v, Hid (val (strip l) = v) := ⟨_, rfl⟩
  rw [HV.out] at v0 v1
  have d1 : w.cell? ⟨db, 1, none⟩ = some (.pointer none) := cellOf hD
  have hds := sizeOf_block hD
  go_enter Ybaf.func20, Ybaf.ntmps20
  go_wp2
  have hB := newBlock w (.cells #[.int .u8 128, .int .i64 o, .int .i64 s, .int .i64 e] 29)
  have hSw : Since w (w.alloc (.cells #[.int .u8 128, .int .i64 o, .int .i64 s, .int .i64 e] 29)) := Since.of (belowAlloc _ _)
  have hbb : w.heap.size = w.heap.size := rfl
  generalize hW : w.alloc _ = W at hB hSw ⊢
  clear hW hbb
  have hD1 := hSw.keep hD
  obtain ⟨e0, e1, e2, e3⟩ := elS hB
  go_region_held3 (fun w'' => Since W w'') (first | exact Since.dr | exact Since.then hb1 (by assumption) | exact Since.drew (by assumption)) (first | (go_at_call 38; refine (intOf_any db gb N cap s e o l _ (Since.keep (by assumption) hD1) ho.lt heN hN hNc ho.len (fun j hj => Since.cell (by assumption) (hSw.cell (ho.cells j hj))) ho.bytes ho.head ho.short).mono ?_; rintro r1 w1 ⟨rfl, hb1⟩; rw [HV.out]))
  have hSf : Since w w1 := by
    have h : Since W w1 := by assumption
    exact h.then hSw
  go_wp2
  go_ret
  exact ⟨by rw [HV.out]; rfl, hSf⟩
end Go.Proofs.YbulkcvzcFmt
