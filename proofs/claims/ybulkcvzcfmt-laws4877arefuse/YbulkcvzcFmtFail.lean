import Derived.Test.YbulkcvzcFmtSpr
set_option linter.unusedSimpArgs false
set_option linter.unusedVariables false
namespace Go.Proofs.YbulkcvzcFmt
open Go.RowKit Go.Extern.Stop Go.Stop Go.Extern

attribute [go_sem] prDesc

theorem cells2 {W : World} {v0 v1 : Value} {T : TypeId} : ∀ (j : Nat) (v : Value), [v0, v1][j]? = some v → (W.alloc (.cells #[v0, v1] T)).cell? ((⟨W.heap.size, 0, none⟩ : Addr).add j) = some v := by
  intro j v hj
  rcases j with _ | _ | j
  · simp at hj; subst hj; simp [Addr.add]
  · simp at hj; subst hj; simp [Addr.add]
  · simp at hj
theorem fine2 {v0 v1 : Value} (h0 : Fine v0) (h1 : Fine v1) : ∀ v ∈ [v0, v1], Fine v := by
  intro v hv
  simp at hv
  rcases hv with rfl | rfl
  · exact h0
  · exact h1

set_option maxRecDepth 100000 in
set_option maxHeartbeats 2000000 in
theorem describe_any (d : Value) (s e : Nat) (o : Int) (w : World) (hse : s ≤ e) (he : e ≤ 1000) :
    Calls Ybaf.prog 39 #[d, .agg #[.int .u8 128, .int .i64 o, .int .i64 s, .int .i64 e]] w fun r w' => (∃ t, r = .returned (.string t)) ∧ Since w w' := by
  have hbit : (bits .and .u8 128 32 != 0) = false := by decide
  go_enter Ybaf.func39, Ybaf.ntmps39
  go_wp2_with (go_at_call 33; refine (constructed_any _ _ _ _ _).mono ?_; rintro e1 w1 ⟨rfl, hb⟩; rw [hbit])
  have hS := Since.of hb
  have hB := hS.new
  have hSw := hS.then (Since.of (belowAlloc w (.cells #[.int .u8 128, .int .i64 o, .int .i64 s, .int .i64 e] 29)))
  obtain ⟨bx, hbx⟩ : ∃ bx, bx = w.heap.size := ⟨_, rfl⟩
  rw [← hbx] at hB ⊢
  obtain ⟨e0, e1, e2, e3⟩ := elS hB
  have hsub : IntKind.i64.wrap ((e : Int) - (s : Int)) = ((e - s : Nat) : Int) := by
    rw [show (e : Int) - (s : Int) = ((e - s : Nat) : Int) by omega]
    simp [IntKind.wrap, IntKind.signed, IntKind.bits]
    omega
  clear hbx hb hS
  go_region_held3 (fun w'' => Since w1 w'') (first | exact Since.dr | exact Since.then hb1 (by assumption) | exact Since.alloc (by assumption) | exact Since.drew (by assumption)) (first | (go_at_call 35; refine (tag_any _ _ _ _ (.inl rfl) _).mono ?_; rintro r2 w2 ⟨⟨t, rfl⟩, hb1⟩) | (refine sprintf_rows _ 2 2 _ _ _ _ prDesc rfl cells2 (fine2 (fine9 _) (fine3 _)) fun t2 => ?_))
  go_wp2
  go_ret
  exact ⟨⟨_, rfl⟩, Since.then (y := w1) (by assumption) hSw⟩

theorem prUint : FmtStop.printed? ⟨#[119, 97, 110, 116, 32, 37, 115, 44, 32, 48, 32, 116, 111, 32, 37, 100, 44, 32, 102, 111, 117, 110, 100, 32, 37, 115]⟩ 3 = some [(0, 115, false), (1, 100, false), (2, 115, false)] := by kernel_rfl
theorem prIa5 : FmtStop.printed? ⟨#[119, 97, 110, 116, 32, 37, 115, 44, 32, 102, 111, 117, 110, 100, 32, 97, 110, 32, 111, 99, 116, 101, 116, 32, 48, 120, 37, 48, 50, 120, 44, 32, 119, 104, 105, 99, 104, 32, 105, 115, 32, 110, 111, 32, 73, 65, 53, 32, 99, 104, 97, 114, 97, 99, 116, 101, 114]⟩ 2 = some [(0, 115, false), (1, 120, false)] := by kernel_rfl

theorem ops_uint (W : World) (a b : ByteArray) (n : Int) (c : Nat) : Ops (W.alloc (.cells #[.iface 9 (.string a), .iface 24 (.int .u64 n), .iface 9 (.string b)] 20)) ⟨#[119, 97, 110, 116, 32, 37, 115, 44, 32, 48, 32, 116, 111, 32, 37, 100, 44, 32, 102, 111, 117, 110, 100, 32, 37, 115]⟩ W.heap.size 3 c := by
  refine ⟨[.iface 9 (.string a), .iface 24 (.int .u64 n), .iface 9 (.string b)], _, prUint, rfl, ?_, ?_⟩
  · intro j v hj
    rcases j with _ | _ | _ | j
    · simp at hj; subst hj; simp
    · simp at hj; subst hj; simp
    · simp at hj; subst hj; simp
    · simp at hj
  · intro v hv
    simp at hv
    rcases hv with rfl | rfl | rfl
    · exact fine9 _
    · exact fine24 _
    · exact fine9 _
theorem ops_ia5 (W : World) (a : ByteArray) (n : Int) (c : Nat) : Ops (W.alloc (.cells #[.iface 9 (.string a), .iface 5 (.int .u8 n)] 20)) ⟨#[119, 97, 110, 116, 32, 37, 115, 44, 32, 102, 111, 117, 110, 100, 32, 97, 110, 32, 111, 99, 116, 101, 116, 32, 48, 120, 37, 48, 50, 120, 44, 32, 119, 104, 105, 99, 104, 32, 105, 115, 32, 110, 111, 32, 73, 65, 53, 32, 99, 104, 97, 114, 97, 99, 116, 101, 114]⟩ W.heap.size 2 c := by
  refine ⟨[.iface 9 (.string a), .iface 5 (.int .u8 n)], _, prIa5, rfl, ?_, ?_⟩
  · intro j v hj
    rcases j with _ | _ | j
    · simp at hj; subst hj; simp
    · simp at hj; subst hj; simp
    · simp at hj
  · exact fine2 (fine9 _) (fine5 _)

/-- The decoder has failed at offset o. -/
def Failed (w w' : World) (db gb N cap : Nat) (o : Int) : Prop := ∃ xb t, w'.heap[xb]? = some (.cells #[.int .i64 o, .string t] 48) ∧ w.heap.size ≤ xb ∧ w'.heap[db]? = some (decO gb N cap (some ⟨xb, 0, none⟩)) ∧ w.grownBy w' (some db)

theorem Failed.from {w v w' : World} {db gb N cap : Nat} {o : Int} (h : Failed v w' db gb N cap o) (hs : Since w v) : Failed w w' db gb N cap o := by
  obtain ⟨xb, t, h1, h2, h3, h4⟩ := h
  exact ⟨xb, t, h1, Nat.le_trans hs.size h2, h3, gTrans (gBelow _ hs.out) h4⟩
theorem Failed.grown {w w' : World} {db gb N cap : Nat} {o : Int} (h : Failed w w' db gb N cap o) : w.grownBy w' (some db) := by
  obtain ⟨xb, t, h1, h2, h3, h4⟩ := h
  exact h4

set_option maxRecDepth 100000 in
set_option maxHeartbeats 2000000 in
theorem uint_bad (db gb N cap s e : Nat) (o : Int) (l : List Int) (what : ByteArray) (w : World) (hD : w.heap[db]? = some (decO gb N cap none)) (heN : e ≤ N) (hN : N ≤ 1000) (hNc : N ≤ cap) (ho : Octs w gb s e l) (v0 : 9999 < val (strip l)) (v1 : val (strip l) ≤ 65535) :
    Calls Ybaf.prog 20 #[.pointer (some ⟨db, 0, none⟩), .agg #[.int .u8 128, .int .i64 o, .int .i64 s, .int .i64 e], .string what, .int .u64 9999] w fun r w' => r = .returned (.int .u64 0) ∧ Failed w w' db gb N cap o := by
  obtain ⟨v, HV⟩ : ∃ v, Hid (val (strip l) = v) := ⟨_, rfl⟩
  rw [HV.out] at v0 v1
  have d1 : w.cell? ⟨db, 1, none⟩ = some (.pointer none) := cellOf hD
  have hds := sizeOf_block hD
  have hse := ho.lt
  go_enter Ybaf.func20, Ybaf.ntmps20
  go_wp2
  have hB := newBlock w (.cells #[.int .u8 128, .int .i64 o, .int .i64 s, .int .i64 e] 29)
  have hSw : Since w (w.alloc (.cells #[.int .u8 128, .int .i64 o, .int .i64 s, .int .i64 e] 29)) := Since.of (belowAlloc _ _)
  generalize hW : w.alloc _ = W at hB hSw ⊢
  obtain ⟨bx, hbx⟩ : ∃ bx, bx = w.heap.size := ⟨_, rfl⟩
  rw [← hbx] at hB ⊢
  have hbd : bx ≠ db := by omega
  clear hW hbx
  have hD1 := hSw.keep hD
  obtain ⟨e0, e1, e2, e3⟩ := elS hB
  go_region_held3 (fun w'' => Since W w'') (first | exact Since.dr | exact Since.then hb1 (by assumption) | exact Since.drew (by assumption)) (first | (go_at_call 38; refine (intOf_any db gb N cap s e o l _ (Since.keep (by assumption) hD1) ho.lt heN hN hNc ho.len (fun j hj => Since.cell (by assumption) (hSw.cell (ho.cells j hj))) ho.bytes ho.head ho.short).mono ?_; rintro r1 w1 ⟨rfl, hb1⟩; rw [HV.out]))
  have hS1 : Since W w1 := by assumption
  have hB1 := hS1.keep hB
  have hD2 := hS1.keep hD1
  have hSf := hS1.then hSw
  clear e0 e1 e2 e3 hb1 hB hD1
  have cs : ∀ w', w1.grownBy w' (some db) → w'.cell? ⟨bx, 0, none⟩ = some (.int .u8 128) ∧ w'.cell? ⟨bx, 1, none⟩ = some (.int .i64 o) ∧ w'.cell? ⟨bx, 2, none⟩ = some (.int .i64 s) ∧ w'.cell? ⟨bx, 3, none⟩ = some (.int .i64 e) :=
    fun w' h => ⟨cellOf (gKeep h hB1 hbd), cellOf (gKeep h hB1 hbd), cellOf (gKeep h hB1 hbd), cellOf (gKeep h hB1 hbd)⟩
  have e0 := fun w' h => (cs w' h).1
  have e1 := fun w' h => (cs w' h).2.1
  have e2 := fun w' h => (cs w' h).2.2.1
  have e3 := fun w' h => (cs w' h).2.2.2
  clear cs
  go_wp2
  go_region_held3 (fun w'' => w1.grownBy w'' (some db)) (first | exact gBelow _ Since.dr.out | exact gBelow _ (Since.then hb2 Since.dr).out | exact gBelow _ (Since.alloc (Since.then hb2 Since.dr)).out | exact (hb3.from (Since.alloc (Since.then hb2 Since.dr))).grown) (first | (go_at_call 39; refine (describe_any _ s e o _ (Nat.le_of_lt hse) (by omega)).mono ?_; rintro r2 w2 ⟨⟨t, rfl⟩, hb2⟩) | (go_at_call 34; refine (failAt_any db gb N cap _ 3 3 128 o s e _ _ ((Since.alloc (Since.then hb2 Since.dr)).keep hD2) (ops_uint _ _ _ _ _)).mono ?_; rintro r3 w3 ⟨rfl, (hb3 : Failed _ _ db gb N cap o)⟩))
  have hF := (hb3.from (Since.alloc (Since.then hb2 Since.dr))).from hSf
  go_wp2
  go_ret
  exact ⟨rfl, hF⟩
end Go.Proofs.YbulkcvzcFmt
