import Derived.Test.YbulkcvzcFmtEd1
import Derived.Stop.CallBack
import Derived.Stop.NoCallOwed
import Derived.Stop.AnyFormat
set_option linter.unusedSimpArgs false
set_option linter.unusedVariables false
namespace Go.Proofs.YbulkcvzcFmt
open Go.RowKit Go.Extern.Stop Go.Stop Go.Extern

@[go_sem] theorem Ybaf.call46 (args : Array Value) (w : World) : (callFunc 46 args).run Ybaf.prog w = (FmtCalls.sprintf #[9, 115] #[9] args).run Ybaf.prog w :=
  run_callFunc_next Ybaf.func46 (by kernel_rfl) (by kernel_rfl) (by kernel_rfl) args w
@[go_sem] theorem Ybaf.guard (name : String) (w : World) : (FmtStop.guard name).run Ybaf.prog w = .ok () w := by kernel_rfl

/-- An operand that fmt reads without a call. -/
def Fine (v : Value) : Prop := ∀ (w : World) (verb : UInt8) (sharp : Bool), ∃ r, (FmtStop.operand "fmt.Sprintf" false verb sharp v).run Ybaf.prog w = .ok r w

theorem fine_int {t : TypeId} {k : IntKind} {info : TypeInfo} (n : Int) (hi : Ybaf.prog.info? t = some info) (hs : info.str ≠ "") (hm : info.methods = #[]) (hu : Ybaf.prog.underlying t = some (.int k)) : Fine (.iface t (.int k n)) :=
  fun _ _ _ => FmtStop.operand_any_int n hi hs hm hu _ _ _ _
theorem fine_str {t : TypeId} {info : TypeInfo} (s : ByteArray) (hi : Ybaf.prog.info? t = some info) (hs : info.str ≠ "") (hm : info.methods = #[]) (hu : Ybaf.prog.underlying t = some .string) : Fine (.iface t (.string s)) := by
  intro w verb sharp
  by_cases h84 : (verb == 84) = true
  · exact ⟨(21 :: FmtStop.pack info.str.toUTF8.data.toList, []), by simp [FmtStop.operand, typeStr, typeInfo, hi, hs, h84]⟩
  · refine ⟨(12 :: FmtStop.pack info.str.toUTF8.data.toList, FmtStop.pack s.data.toList), ?_⟩
    simp [FmtStop.operand, typeStr, typeInfo, hi, hs, h84, underlying, hu, FmtStop.shape, FmtStop.depth, FmtStop.bare, hm, FmtStop.value, Value.cells]

theorem parts {t : TypeId} {s : String} (h : (Ybaf.prog.info? t).map (fun i => (i.str == s, i.methods.isEmpty)) = some (true, true)) : ∃ i, Ybaf.prog.info? t = some i ∧ i.str = s ∧ i.methods = #[] := by
  cases hi : Ybaf.prog.info? t with
  | none => rw [hi] at h; cases h
  | some i =>
    rw [hi] at h
    simp at h
    exact ⟨i, rfl, h.1, h.2⟩
theorem fine5 (n : Int) : Fine (.iface 5 (.int .u8 n)) := by
  obtain ⟨i, h1, h2, h3⟩ := parts (t := 5) (s := "uint8") (by kernel_rfl)
  exact fine_int n h1 (by rw [h2]; decide) h3 Ybaf.underlying5
theorem fine3 (n : Int) : Fine (.iface 3 (.int .i64 n)) := by
  obtain ⟨i, h1, h2, h3⟩ := parts (t := 3) (s := "int") (by kernel_rfl)
  exact fine_int n h1 (by rw [h2]; decide) h3 Ybaf.underlying3
theorem fine24 (n : Int) : Fine (.iface 24 (.int .u64 n)) := by
  obtain ⟨i, h1, h2, h3⟩ := parts (t := 24) (s := "uint64") (by kernel_rfl)
  exact fine_int n h1 (by rw [h2]; decide) h3 Ybaf.underlying24
theorem fine9 (s : ByteArray) : Fine (.iface 9 (.string s)) := by
  obtain ⟨i, h1, h2, h3⟩ := parts (t := 9) (s := "string") (by kernel_rfl)
  exact fine_str s h1 (by rw [h2]; decide) h3 Ybaf.underlying9

/-- fmt.Sprintf at operands that owe no call: some string; one draw. -/
theorem sprintf_rows (b : Addr) (n cap : Nat) (f : ByteArray) (pl : List (Nat × UInt8 × Bool)) (vs : List Value) (w : World) (hp : FmtStop.printed? f n = some pl) (hlen : vs.length = n)
    (hc : ∀ j v, vs[j]? = some v → w.cell? (b.add j) = some v) (hv : ∀ v ∈ vs, Fine v) {R : Value → World → Prop} (h : ∀ s, R (.string s) w.drew) :
    Rows Ybaf.prog FmtCalls.turnsRow (FmtCalls.save 0 0 (.slice (some b) n cap) f [] pl) w R := by
  have hlt := FmtStop.printed_lt f n pl hp
  obtain ⟨ops, hops⟩ := FmtStop.run_readAll_ok (P := Ybaf.prog) (w := w) "fmt.Sprintf" false vs (fun v hvs verb sharp => hv v hvs w verb sharp) pl (fun x hx => by rw [hlen]; exact hlt x hx)
  have hload : ∀ j v, vs[j]? = some v → (load (b.add j)).run Ybaf.prog w = .ok v w := fun j v hj => by simp [hc j v hj]
  have ht := FmtCalls.turns_closed (P := Ybaf.prog) (w := w) 0 0 b n cap f vs hlen hload pl [] hlt (fun x hx v hxv => by
    obtain ⟨r, hr⟩ := hv v (List.mem_of_getElem? hxv) w x.2.1 x.2.2
    exact FmtCalls.act_closed_of_operand _ _ _ _ _ _ hr)
  have hops' : (FmtStop.readAll (FmtCalls.frontName 0) (0 == 3) vs pl).run Ybaf.prog w = .ok ops w := hops
  rw [hops', Result.andThen_ok, FmtCalls.run_finish_text 0 rfl] at ht
  let q : Question := .extern (word "fmt.Sprintf" ([f.data.toList] ++ ops.flatMap fun x => [x.1, x.2]) 0) 0
  refine rows_value (w' := w.drew) FmtCalls.next_turns (v := .string (FmtStop.textOf (q.cut (w.tape w.drawn q)))) ?_ (h _)
  rw [FmtCalls.run_begun_save, ht]
  simp [FmtStop.text, Question.forced, q]
  rfl

@[go_sem] theorem Ybaf.prTag : FmtStop.printed? ⟨#[91, 37, 100, 93]⟩ 1 = some [(0, 100, false)] := by kernel_rfl
theorem prDesc : FmtStop.printed? ⟨#[37, 115, 32, 111, 102, 32, 37, 100, 32, 111, 99, 116, 101, 116, 115]⟩ 2 = some [(0, 115, false), (1, 100, false)] := by kernel_rfl

theorem tag_any (id : Int) (o s e : Int) (hid : id = 128 ∨ id = 129) (w : World) :
    Calls Ybaf.prog 35 #[.agg #[.int .u8 id, .int .i64 o, .int .i64 s, .int .i64 e]] w fun r w' => (∃ t, r = .returned (.string t)) ∧ Since w w' := by
  have h1 : bits .and .u8 id 192 = 128 := by rcases hid with rfl | rfl <;> decide
  obtain ⟨n, HN⟩ : ∃ n, Hid (bits .and .u8 id 31 = n) := ⟨_, rfl⟩
  have hn := HN.out
  go_enter Ybaf.func35, Ybaf.ntmps35
  go_wp2_with fail
  refine sprintf_rows ⟨w.heap.size + 1, 0, none⟩ 1 1 _ _ [.iface 5 (.int .u8 n)] _ Ybaf.prTag rfl ?_ ?_ fun t => ?_
  · intro j v hj
    rcases j with _ | j
    · simp at hj; subst hj; simp [Addr.add]
    · simp at hj
  · intro v hv
    simp at hv; subst hv
    exact fine5 n
  · go_wp2_with fail
    go_ret
    exact ⟨⟨t, rfl⟩, Since.drew (Since.alloc (Since.of (belowAlloc _ _)))⟩

/-- What a call to Sprintf asks of its operands. -/
structure Ops (w : World) (f : ByteArray) (ab n c : Nat) : Prop where
  ok : ∃ (vs : List Value) (pl : List (Nat × UInt8 × Bool)), FmtStop.printed? f n = some pl ∧ vs.length = n ∧ (∀ (j : Nat) (v : Value), vs[j]? = some v → w.cell? ⟨ab, j, none⟩ = some v) ∧ ∀ v ∈ vs, Fine v

theorem Ops.since {w w' : World} {f : ByteArray} {ab n c : Nat} (h : Ops w f ab n c) (hs : Since w w') : Ops w' f ab n c := by
  obtain ⟨vs, pl, h1, h2, h3, h4⟩ := h.ok
  exact ⟨vs, pl, h1, h2, fun j v hj => hs.cell (h3 j v hj), h4⟩

theorem fail_any (db gb N cap ab n c : Nat) (o : Int) (f : ByteArray) (w : World) (hD : w.heap[db]? = some (decO gb N cap none)) (hO : Ops w f ab n c) :
    Calls Ybaf.prog 52 #[.pointer (some ⟨db, 0, none⟩), .int .i64 o, .string f, .slice (some ⟨ab, 0, none⟩) n c] w fun r w' => r = .returned (.tuple #[]) ∧ ∃ xb t, w'.heap[xb]? = some (.cells #[.int .i64 o, .string t] 48) ∧ w.heap.size ≤ xb ∧ w'.heap[db]? = some (decO gb N cap (some ⟨xb, 0, none⟩)) ∧ w.grownBy w' (some db) := by
  have d1 : w.cell? ⟨db, 1, none⟩ = some (.pointer none) := cellOf hD
  have hds := sizeOf_block hD
  obtain ⟨vs, pl, hp, hl, hc, hf⟩ := hO.ok
  go_enter Ybaf.func52, Ybaf.ntmps52
  go_wp2_with fail
  refine sprintf_rows ⟨ab, 0, none⟩ n c _ _ vs _ hp hl ?_ hf fun t => ?_
  · intro j v hj
    have := hc j v hj
    rcases j with _ | j
    · simpa [Addr.add] using this
    · simpa [Addr.add] using this
  have hz := frozenOf (b := db) (o := 1) hD
  go_wp2_with fail
  go_end0
  have hsz : (w.setCell ⟨db, 1, none⟩ (.pointer (some ⟨w.heap.size, 0, none⟩))).heap.size = w.heap.size := by simp [World.setCell]
  have h1 := newBlock (w.setCell ⟨db, 1, none⟩ (.pointer (some ⟨w.heap.size, 0, none⟩))) (.cells #[.int .i64 o, .string t] 48)
  rw [hsz] at h1
  have h2 := setOf (o := 1) (v := .pointer (some ⟨w.heap.size, 0, none⟩)) hD
  have h3 := keepB h2 (belowAlloc _ (.cells #[.int .i64 o, .string t] 48))
  exact ⟨rfl, w.heap.size, t, h1, Nat.le_refl _, h3, gDrew (gTrans (gSet _ _ _ _) (gBelow _ (belowAlloc _ _)))⟩

theorem failAt_any (db gb N cap ab n c : Nat) (id o s e : Int) (f : ByteArray) (w : World) (hD : w.heap[db]? = some (decO gb N cap none)) (hO : Ops w f ab n c) :
    Calls Ybaf.prog 34 #[.pointer (some ⟨db, 0, none⟩), .agg #[.int .u8 id, .int .i64 o, .int .i64 s, .int .i64 e], .string f, .slice (some ⟨ab, 0, none⟩) n c] w fun r w' => r = .returned (.tuple #[]) ∧ ∃ xb t, w'.heap[xb]? = some (.cells #[.int .i64 o, .string t] 48) ∧ w.heap.size ≤ xb ∧ w'.heap[db]? = some (decO gb N cap (some ⟨xb, 0, none⟩)) ∧ w.grownBy w' (some db) := by
  have d1 : w.cell? ⟨db, 1, none⟩ = some (.pointer none) := cellOf hD
  have hds := sizeOf_block hD
  go_enter Ybaf.func34, Ybaf.ntmps34
  go_wp2_with fail
  have hD1 := keepB hD (belowAlloc w (.cells #[.int .u8 id, .int .i64 o, .int .i64 s, .int .i64 e] 29))
  have hO1 := hO.since (Since.of (belowAlloc w (.cells #[.int .u8 id, .int .i64 o, .int .i64 s, .int .i64 e] 29)))
  have hB := newBlock w (.cells #[.int .u8 id, .int .i64 o, .int .i64 s, .int .i64 e] 29)
  have hSw := Since.of (belowAlloc w (.cells #[.int .u8 id, .int .i64 o, .int .i64 s, .int .i64 e] 29))
  generalize hW : w.alloc _ = W at hD1 hO1 hB hSw ⊢
  obtain ⟨bx, hbx⟩ : ∃ bx, bx = w.heap.size := ⟨_, rfl⟩
  have HBX : Hid (bx = w.heap.size) := hbx
  rw [← hbx] at hB ⊢
  have hbd : bx ≠ db := by omega
  clear hW hbx d1
  have elG : ∀ w', W.grownBy w' (some db) → w'.cell? ⟨bx, 1, none⟩ = some (.int .i64 o) := fun w' h => cellOf (gKeep h hB hbd)
  go_region_held3 (fun w'' => W.grownBy w'' (some db)) (first | exact gBelow _ Since.dr.out | exact gTrans (gBelow _ Since.dr.out) hb4) (first | (go_at_call 52; refine (fail_any db gb N cap ab n c o f _ (Since.dr.keep hD1) (hO1.since Since.dr)).mono ?_; rintro r1 w1 ⟨rfl, xb, t, hb1, hb2, hb3, hb4⟩))
  go_end0
  refine ⟨rfl, xb, t, hb1, ?_, hb3, ?_⟩
  · have := hSw.size
    have := hb2
    simp at this
    omega
  · exact gTrans (gBelow _ hSw.out) (gTrans (gBelow _ Since.dr.out) hb4)
end Go.Proofs.YbulkcvzcFmt
