/- The roles as they lie: codes, the map of roles, the net; frames. -/
import Derived.Test.YbulkcvxmFmtGrant
import Derived.Test.YbulkcvxmFmtSort
import Derived.Lib.ItoaLen
import Derived.Lib.ItoaMem
set_option linter.unusedSimpArgs false
set_option linter.unusedVariables false
namespace Go.Proofs.YbulkcvxmFmt
open Go.RowKit Go.Maps Go.WideMaps

/-! ### codes -/
def undec (l : List UInt8) : Nat := l.foldl (fun a d => a * 10 + (d.toNat - 48)) 0
theorem undec_dec (u : Nat) : undec (Lib.decDigits u) = u := by
  induction u using Nat.strongRecOn with
  | _ u ih =>
    rw [Lib.decDigits]
    split
    · rename_i h
      simp [undec, UInt8.toNat_ofNat']
      omega
    · rename_i h
      have h1 := ih (u / 10) (by omega)
      unfold undec at h1 ⊢
      rw [List.foldl_append, h1]
      simp [UInt8.toNat_ofNat']
      omega
/-- The code of the i-th role: 'r' and its number. -/
def codeS (i : Nat) : ByteArray := ⟨#[114]⟩ ++ ⟨(Lib.itoa (i : Int)).toArray⟩
theorem codeS_data (i : Nat) : (codeS i).data.toList = 114 :: Lib.itoa (i : Int) := by
  unfold codeS
  simp
theorem codeS_inj {i j : Nat} (h : codeS i = codeS j) : i = j := by
  have h1 := congrArg (fun b : ByteArray => b.data.toList) h
  simp only [codeS_data, List.cons.injEq, true_and, Lib.itoa_nonneg] at h1
  have := congrArg undec h1
  rwa [undec_dec, undec_dec] at this
theorem codeS_size (i : Nat) (hi : i ≤ 1000) : (codeS i).size ≤ 22 := by
  have := Lib.itoa_length_le (i : Int) (by omega) (by omega)
  have e : (codeS i).size = (codeS i).data.toList.length := (Array.length_toList).symm
  rw [e, codeS_data, List.length_cons]
  omega
theorem codeS_key (i : Nat) (hi : i ≤ 1000) : keyOf Ybaf.prog 9 (.string (codeS i)) = some (.string (codeS i).data.toList) := by
  refine keyOf_string_mk und9 ?_
  have := codeS_size i hi
  unfold maxLen
  omega
/-- All codes. -/
def allCodes (n : Nat) : List ByteArray := (List.range n).map codeS
theorem mem_allCodes {n : Nat} {s : ByteArray} : s ∈ allCodes n ↔ ∃ k, k < n ∧ s = codeS k := by
  unfold allCodes
  simp [List.mem_map, List.mem_range]
  constructor
  · rintro ⟨k, hk, rfl⟩; exact ⟨k, hk, rfl⟩
  · rintro ⟨k, hk, rfl⟩; exact ⟨k, hk, rfl⟩
theorem codesOf_len {n : Nat} (hn : n ≤ 300) {l : List ByteArray} (h : ∀ s ∈ l, s ∈ allCodes n) : (codesOf l).length ≤ 300 := by
  have h1 := nodup_length_le (codesOf_nodup l) (m := allCodes n) (fun x hx => h x (mem_codesOf.1 hx))
  have h2 : (allCodes n).length = n := by simp [allCodes]
  omega

/-! ### the map of roles -/
def ptr (b : Nat) : Value := .pointer (some ⟨b, 0, none⟩)
structure RM (w : World) (b k : Nat) (rb : Nat → Nat) : Prop where
  ex : ∃ D, w.ownsMap Ybaf.prog 9 heldE b k D ∧ ∀ i, i < k → ∀ z, D.atKey (.string (codeS i).data.toList) z = .held (ptr (rb i))
section
variable {w w' : World} {b k : Nat} {rb : Nat → Nat}
theorem RM.made (w : World) (rb : Nat → Nat) : RM (w.alloc (.map #[] 0)) w.heap.size 0 rb := ⟨.map [], World.ownsMap_made w _ _ _, fun i hi => absurd hi (Nat.not_lt_zero _)⟩
theorem RM.lt (h : RM w b k rb) : b < w.heap.size := by obtain ⟨D, h1, _⟩ := h.ex; exact h1.lt
theorem RM.isMap (h : RM w b k rb) : ∃ es cl, w.heap[b]? = some (.map es cl) := by
  obtain ⟨D, ⟨es, cl, h1, _⟩, _⟩ := h.ex
  exact ⟨es, cl, h1⟩
theorem RM.keep (h : RM w b k rb) (he : w'.heap[b]? = w.heap[b]?) : RM w' b k rb := by
  obtain ⟨D, ⟨es, cl, h1, h2⟩, h3⟩ := h.ex
  exact ⟨D, ⟨es, cl, he.trans h1, h2⟩, h3⟩
theorem RM.kx {Ts Ms : List Nat} (h : RM w b k rb) (hk : Kx Ts Ms w w') (hM : b ∉ Ms) : RM w' b k rb := by
  obtain ⟨es, cl, h1⟩ := h.isMap
  exact h.keep (by rw [h1]; exact hk.map b es cl h1 hM)
theorem PM.kx {Ts Ms : List Nat} (h : PM w b) (hk : Kx Ts Ms w w') (hM : b ∉ Ms) : PM w' b := by
  obtain ⟨es, cl, h1⟩ := h.isMap
  exact h.keep (by rw [h1]; exact hk.map b es cl h1 hM)
theorem zero35 (w : World) : (zeroValue 35).run Ybaf.prog w = .ok (.pointer none) w := by kernel_rfl
theorem RM.look (h : RM w b k rb) {i : Nat} (hi : i < k) (hk : k ≤ 1000) : (Instr.lookup 30 (.map (some b)) (.string (codeS i)) false).run Ybaf.prog w = .ok (.pointer (some ⟨rb i, 0, none⟩)) w := by
  obtain ⟨D, h1, h2⟩ := h.ex
  obtain ⟨v, ps, hr, hv⟩ := h1.lookup (string_keyed und9) Ybaf.underlying30 (zero35 w) (zd := .held (.pointer none)) (zp := []) rfl (codeS_key i (by omega))
  rw [hr]
  rw [h2 i hi] at hv
  simp [heldE] at hv
  rw [hv.1]
  rfl
theorem RM.store (h : RM w b k rb) (hk : k ≤ 300) (r : Nat) : ∃ w', (Instr.mapUpdate 30 (.map (some b)) (.string (codeS k)) (.pointer (some ⟨r, 0, none⟩))).run Ybaf.prog w = .ok () w' ∧ RM w' b (k + 1) (upd rb k r) ∧ w.mapTurned w' b := by
  obtain ⟨D, h1, h2⟩ := h.ex
  obtain ⟨w', hr, r1, r2⟩ := h1.store (string_keyed und9) Ybaf.underlying30 (by unfold maxLen; omega) (codeS_key k (by omega)) (val := ptr r) (d := .held (ptr r)) (ps := []) rfl
  refine ⟨w', hr, ⟨_, r1, fun i hi z => ?_⟩, r2⟩
  have hmap := h1.isMap
  by_cases e : i = k
  · subst e
    rw [upd_same]
    exact atKey_put_same hmap (show WideAt.IsKeyLit (.string (codeS i).data.toList) from trivial) _ _
  · rw [upd_ne _ _ e, atKey_put_other (fun e' => e (codeS_inj (by
      have : (codeS i).data.toList = (codeS k).data.toList := by simpa using e'
      have h3 : (codeS i).data = (codeS k).data := Array.toList_inj.1 this
      cases hA : codeS i; cases hB : codeS k
      rw [hA, hB] at h3
      simp only at h3
      rw [h3])))]
    exact h2 i (by omega) z
end

/-! ### the net -/
structure Gph where
  n : Nat
  rb : Nat → Nat
  E : Nat → List Nat
  G : Nat → List Nat
  own : Nat → Int
  mb : Nat
structure Gok (g : Gph) : Prop where
  n3 : g.n ≤ 300
  inj : ∀ i j, i < g.n → j < g.n → g.rb i = g.rb j → i = j
  elt : ∀ i, i < g.n → ∀ v ∈ g.E i, v < g.n
  elen : ∀ i, i < g.n → (g.E i).length ≤ 1024
  glt : ∀ i, i < g.n → ∀ k ∈ g.G i, k < 4
  glen : ∀ i, i < g.n → (g.G i).length ≤ 1024
def strC (s : ByteArray) : List Value := [.string s]
theorem strC_len (s : ByteArray) : (strC s).length = 1 := rfl
def grC (k : Nat) : List Value := [.string (codeB k), .pointer none]
theorem grC_len (k : Nat) : (grC k).length = 2 := rfl
def ptC (b : Nat) : List Value := [.pointer (some ⟨b, 0, none⟩)]
theorem ptC_len (b : Nat) : (ptC b).length = 1 := rfl
/-- One role's twelve cells. -/
structure Role (w : World) (n : Nat) (X : List Nat) (code : ByteArray) (es gs : List Nat) (own : Int) (c : Nat) (R : Int) (F : Nat → Value) : Prop where
  f0 : F 0 = .string code
  inh : RowL w 0 9 1 strC (F 2) (es.map codeS)
  gr : RowL w 0 60 2 grC (F 3) gs
  f4 : F 4 = .int .i64 own
  f10 : F 10 = .int .i64 c
  pm : c = 2 → ∃ e p, F 6 = .map (some e) ∧ F 7 = .map (some p) ∧ PM w e ∧ PM w p ∧ e ∉ X ∧ p ∉ X
  f9 : c = 2 → F 9 = .int .i64 R
  codes : c = 2 → ∃ L, CodesL w (F 8) L ∧ L ≠ [] ∧ L.length ≤ 300 ∧ ∀ s ∈ L, s ∈ allCodes n
structure Net (w : World) (g : Gph) (X : List Nat) (c : Nat → Nat) (R : Nat → Int) (F : Nat → Nat → Value) : Prop where
  cells : ∀ i, i < g.n → Cells w (g.rb i) 51 12 (F i)
  role : ∀ i, i < g.n → Role w g.n X (codeS i) (g.E i) (g.G i) (g.own i) (c i) (R i) (F i)
  map : RM w g.mb g.n g.rb
  mx : g.mb ∉ X
section
variable {w w' : World} {g : Gph} {X : List Nat} {c : Nat → Nat} {R : Nat → Int} {F : Nat → Nat → Value} {n : Nat} {code : ByteArray} {es gs : List Nat} {own r r' : Int} {k : Nat} {f : Nat → Value}
theorem Role.kx {Ts Ms : List Nat} (h : Role w n X code es gs own k r f) (hk : Kx Ts Ms w w') (h9 : 9 ∉ Ts) (h60 : 60 ∉ Ts) (h20 : 20 ∉ Ts) (hM : ∀ m ∈ Ms, m ∈ X) : Role w' n X code es gs own k r f := by
  refine ⟨h.f0, hk.row h.inh h9, hk.row h.gr h60, h.f4, h.f10, fun e => ?_, h.f9, fun e => ?_⟩
  · obtain ⟨a, b, h1, h2, h3, h4, h5, h6⟩ := h.pm e
    exact ⟨a, b, h1, h2, h3.kx hk (fun h => h5 (hM _ h)), h4.kx hk (fun h => h6 (hM _ h)), h5, h6⟩
  · obtain ⟨L, h1, h2⟩ := h.codes e
    exact ⟨L, h1.kx hk h20, h2⟩
theorem Role.put (h : Role w n X code es gs own k r f) (hk : k ≠ 2) {x : Nat} (hx : x = 6 ∨ x = 7 ∨ x = 8 ∨ x = 9) (v : Value) (r' : Int) : Role w n X code es gs own k r' (upd f x v) := by
  have e : ∀ y, y ≠ 6 → y ≠ 7 → y ≠ 8 → y ≠ 9 → upd f x v y = f y := fun y h1 h2 h3 h4 => upd_ne _ _ (by omega)
  refine ⟨by rw [e 0 (by omega) (by omega) (by omega) (by omega)]; exact h.f0, by rw [e 2 (by omega) (by omega) (by omega) (by omega)]; exact h.inh, by rw [e 3 (by omega) (by omega) (by omega) (by omega)]; exact h.gr, by rw [e 4 (by omega) (by omega) (by omega) (by omega)]; exact h.f4, by rw [e 10 (by omega) (by omega) (by omega) (by omega)]; exact h.f10, fun e => absurd e hk, fun e => absurd e hk, fun e => absurd e hk⟩
theorem Role.visit (h : Role w n X code es gs own k r f) {k' : Nat} (r' : Int) {v : Value} (hv : v = .int .i64 k')
    (pm : k' = 2 → ∃ e p, f 6 = .map (some e) ∧ f 7 = .map (some p) ∧ PM w e ∧ PM w p ∧ e ∉ X ∧ p ∉ X) (f9 : k' = 2 → f 9 = .int .i64 r') (codes : k' = 2 → ∃ L, CodesL w (f 8) L ∧ L ≠ [] ∧ L.length ≤ 300 ∧ ∀ s ∈ L, s ∈ allCodes n) :
    Role w n X code es gs own k' r' (YbulkcvxmFmt.upd f 10 v) := by
  have e : ∀ y, y ≠ 10 → YbulkcvxmFmt.upd f 10 v y = f y := fun y h => upd_ne _ _ h
  refine ⟨by rw [e 0 (by omega)]; exact h.f0, by rw [e 2 (by omega)]; exact h.inh, by rw [e 3 (by omega)]; exact h.gr, by rw [e 4 (by omega)]; exact h.f4, by rw [upd_same, hv], fun h2 => ?_, fun h2 => ?_, fun h2 => ?_⟩
  · rw [e 6 (by omega), e 7 (by omega)]; exact pm h2
  · rw [e 9 (by omega)]; exact f9 h2
  · rw [e 8 (by omega)]; exact codes h2
theorem Role.less (h : Role w n X code es gs own k r f) {X' : List Nat} (hX : ∀ x ∈ X', x ∈ X) : Role w n X' code es gs own k r f :=
  ⟨h.f0, h.inh, h.gr, h.f4, h.f10, fun e => by
    obtain ⟨a, b, h1, h2, h3, h4, h5, h6⟩ := h.pm e
    exact ⟨a, b, h1, h2, h3, h4, fun h => h5 (hX _ h), fun h => h6 (hX _ h)⟩, h.f9, h.codes⟩
theorem Net.less (h : Net w g X c R F) {X' : List Nat} (hX : ∀ x ∈ X', x ∈ X) : Net w g X' c R F :=
  ⟨h.cells, fun i hi => (h.role i hi).less hX, h.map, fun e => h.mx (hX _ e)⟩
/-- New maps are among none of the done roles'. -/
theorem Net.more (h : Net w g X c R F) {Y : List Nat} (hY : ∀ y ∈ Y, w.heap.size ≤ y) : Net w g (Y ++ X) c R F := by
  refine ⟨h.cells, fun i hi => ?_, h.map, fun e => ?_⟩
  · have q := h.role i hi
    refine ⟨q.f0, q.inh, q.gr, q.f4, q.f10, fun e => ?_, q.f9, q.codes⟩
    obtain ⟨a, b, h1, h2, h3, h4, h5, h6⟩ := q.pm e
    have l3 := h3.lt
    have l4 := h4.lt
    exact ⟨a, b, h1, h2, h3, h4, fun h => by
      rcases List.mem_append.1 h with h | h
      · have := hY _ h; omega
      · exact h5 h, fun h => by
      rcases List.mem_append.1 h with h | h
      · have := hY _ h; omega
      · exact h6 h⟩
  · rcases List.mem_append.1 e with h' | h'
    · have := hY _ h'
      have := h.map.lt
      omega
    · exact h.mx h'
theorem Net.kx {Ts Ms : List Nat} (h : Net w g X c R F) (hk : Kx Ts Ms w w') (hT : ∀ T ∈ Ts, T = 35) (hM : ∀ m ∈ Ms, m ∈ X) : Net w' g X c R F :=
  ⟨fun i hi => (h.cells i hi).kx hk (fun e => by cases hT _ e), fun i hi => (h.role i hi).kx hk (fun e => by cases hT _ e) (fun e => by cases hT _ e) (fun e => by cases hT _ e) hM, h.map.kx hk (fun e => h.mx (hM _ e)), h.mx⟩
theorem Net.since (h : Net w g X c R F) (hs : Since w w') : Net w' g X c R F := h.kx (Kx.since (Ts := []) (Ms := []) hs) (by simp) (by simp)
/-- A cell of one role is written. -/
theorem Net.set (h : Net w g X c R F) (ok : Gok g) {i x : Nat} (hi : i < g.n) (hx : x < 12) (v : Value) (c2 : Nat → Nat) (R2 : Nat → Int) (hc : ∀ j, j ≠ i → c2 j = c j ∧ R2 j = R j)
    (hr : Role w g.n X (codeS i) (g.E i) (g.G i) (g.own i) (c2 i) (R2 i) (upd (F i) x v)) : Net (w.setCell ⟨g.rb i, x, none⟩ v) g X c2 R2 (upd F i (upd (F i) x v)) := by
  have hk : Kx [51] [] w (w.setCell ⟨g.rb i, x, none⟩ v) := (h.cells i hi).kxset (by simp)
  refine ⟨fun j hj => ?_, fun j hj => ?_, h.map.kx hk (by simp), h.mx⟩
  · by_cases e : j = i
    · subst e; rw [upd_same]; exact (h.cells j hj).set hx v
    · rw [upd_ne _ _ e]
      obtain ⟨cs, h1, h2⟩ := (h.cells j hj).ex
      exact ⟨cs, by rw [setFar (fun e' => e (ok.inj j i hj hi e'))]; exact h1, h2⟩
  · by_cases e : j = i
    · subst e; rw [upd_same]; exact hr.kx hk (by simp) (by simp) (by simp) (by simp)
    · rw [upd_ne _ _ e, (hc j e).1, (hc j e).2]
      exact (h.role j hj).kx hk (by simp) (by simp) (by simp) (by simp)
end

/-! ### what resolve leaves alone -/
structure Rf (g : Gph) (pb : Option Nat) (w w' : World) : Prop where
  os : w'.os = w.os
  tape : w'.tape = w.tape
  output : w'.output = w.output
  size : w.heap.size ≤ w'.heap.size
  block : ∀ k, k < w.heap.size → some k ≠ pb → (∀ j, j < g.n → k ≠ g.rb j) → w'.heap[k]? = w.heap[k]?
section
variable {g : Gph} {pb pb1 : Option Nat} {w w1 w' : World} {X : List Nat} {c : Nat → Nat} {R : Nat → Int} {F : Nat → Nat → Value}
theorem Rf.refl (g : Gph) (pb : Option Nat) (w : World) : Rf g pb w w := ⟨rfl, rfl, rfl, Nat.le_refl _, fun _ _ _ _ => rfl⟩
theorem Rf.trans (h : Rf g pb w w1) (h' : Rf g pb1 w1 w') (hp : ∀ b, pb1 = some b → w.heap.size ≤ b ∨ some b = pb) : Rf g pb w w' :=
  ⟨h'.os.trans h.os, h'.tape.trans h.tape, h'.output.trans h.output, Nat.le_trans h.size h'.size, fun k hk hn hj =>
    (h'.block k (Nat.lt_of_lt_of_le hk h.size) (fun e => by
      rcases hp k e.symm with h1 | h1
      · omega
      · exact hn h1) hj).trans (h.block k hk hn hj)⟩
theorem Rf.since (h : Rf g pb w w1) (hs : Since w1 w') : Rf g pb w w' :=
  ⟨hs.out.os.trans h.os, hs.out.tape.trans h.tape, hs.out.output.trans h.output, Nat.le_trans h.size hs.size, fun k hk hn hj => (hs.out.block k (Nat.lt_of_lt_of_le hk h.size)).trans (h.block k hk hn hj)⟩
theorem Rf.set (h : Rf g pb w w1) {i x : Nat} (hi : i < g.n) (v : Value) : Rf g pb w (w1.setCell ⟨g.rb i, x, none⟩ v) :=
  ⟨h.os, h.tape, h.output, by simp only [World.setCell, Array.size_modify]; exact h.size, fun k hk hn hj => by rw [setFar (hj i hi)]; exact h.block k hk hn hj⟩
theorem Rf.grown (h : Rf g pb w w1) {row : Option Nat} (hg : w1.grownBy w' row) (hp : ∀ b, row = some b → w.heap.size ≤ b ∨ some b = pb) : Rf g pb w w' :=
  ⟨hg.os.trans h.os, hg.tape.trans h.tape, hg.output.trans h.output, Nat.le_trans h.size hg.size, fun k hk hn hj =>
    (hg.block k (Nat.lt_of_lt_of_le hk h.size) (fun e => by
      rcases hp k e.symm with h1 | h1
      · omega
      · exact hn h1)).trans (h.block k hk hn hj)⟩
theorem Rf.bt (h : Rf g pb w w1) {e p : Nat} (hb : Bt e p w1 w') (he : w.heap.size ≤ e) (hp : w.heap.size ≤ p) : Rf g pb w w' :=
  ⟨hb.os.trans h.os, hb.tape.trans h.tape, hb.output.trans h.output, Nat.le_trans h.size hb.size, fun k hk hn hj => (hb.block k (Nat.lt_of_lt_of_le hk h.size) (by omega) (by omega)).trans (h.block k hk hn hj)⟩
theorem Rf.kx (h : Rf g pb w w') (hc : ∀ j, j < g.n → ∃ cs, w.heap[g.rb j]? = some (.cells cs 51)) (hp : ∀ b, pb = some b → ∃ cs, w.heap[b]? = some (.cells cs 35)) : Kx [51, 35] [] w w' := by
  refine ⟨h.size, fun i cs T fz hi hT => ?_, fun i es cl hi _ => ?_⟩
  · rw [h.block i (sizeOf_block hi) (fun e => ?_) (fun j hj e => ?_)]
    · exact hi
    · obtain ⟨cs', h1⟩ := hp i e.symm
      rw [hi] at h1; cases h1; simp at hT
    · obtain ⟨cs', h1⟩ := hc j hj
      rw [← e, hi] at h1; cases h1; simp at hT
  · rw [h.block i (sizeOf_block hi) (fun e => ?_) (fun j hj e => ?_)]
    · exact hi
    · obtain ⟨cs', h1⟩ := hp i e.symm
      rw [hi] at h1; cases h1
    · obtain ⟨cs', h1⟩ := hc j hj
      rw [← e, hi] at h1; cases h1
theorem Net.blocks (h : Net w g X c R F) : ∀ j, j < g.n → ∃ cs, w.heap[g.rb j]? = some (.cells cs 51) := fun j hj => by
  obtain ⟨cs, h1, _⟩ := (h.cells j hj).ex
  exact ⟨cs, h1⟩
theorem RowL.blocks {α : Type} {base e sz : Nat} {C : α → List Value} {v : Value} {l : List α} (h : RowL w base e sz C v l) : ∀ b, v.ownBlock = some b → ∃ cs, w.heap[b]? = some (.cells cs e) := fun b hb => by
  rcases h.own.2 with ⟨rfl, _⟩ | ⟨g', cap', cur, rfl, _, hg', _⟩
  · cases hb
  · simp [Value.ownBlock] at hb
    subst hb
    exact ⟨cur, hg'⟩
/-- A row's front is a row. -/
theorem RowL.front {α : Type} {base e sz : Nat} {C : α → List Value} {b m cap : Nat} {l l' : List α} (hF : ∀ x, (C x).length = sz) (h : RowL w base e sz C (.slice (some ⟨b, 0, none⟩) m cap) (l ++ l')) : RowL w base e sz C (.slice (some ⟨b, 0, none⟩) l.length cap) l := by
  rcases h.own.2 with ⟨h0, _⟩ | ⟨g', cap', cur, hv, h1, h2, h3, h4, h5, h6⟩
  · cases h0
  · simp at hv
    obtain ⟨rfl, hm, rfl⟩ := hv
    have hle : l.length * sz ≤ (l ++ l').length * sz := Nat.mul_le_mul_right _ (by simp)
    refine ⟨⟨flat_len hF l, .inr ⟨b, cap, cur, rfl, h1, h2, by simp at h3; omega, h4, h5, ?_⟩⟩⟩
    have := congrArg (fun q => q.take (l.length * sz)) h6
    simp only [List.take_take, Nat.min_eq_left hle, List.flatMap_append] at this
    rw [this, List.take_append_of_le_length (by rw [flat_len hF]; exact Nat.le_refl _), List.take_of_length_le (by rw [flat_len hF]; exact Nat.le_refl _)]
theorem Bt.kx {e p : Nat} {Ms : List Nat} (h : Bt e p w w') (he : PM w e) (hp : PM w p) (h1 : e ∈ Ms) (h2 : p ∈ Ms) : Kx [] Ms w w' := by
  refine ⟨h.size, fun i cs T fz hi _ => ?_, fun i es cl hi hM => ?_⟩
  · rw [h.block i (sizeOf_block hi) (fun q => ?_) (fun q => ?_)]
    · exact hi
    · subst q; obtain ⟨es, cl, h3⟩ := he.isMap; rw [hi] at h3; cases h3
    · subst q; obtain ⟨es, cl, h3⟩ := hp.isMap; rw [hi] at h3; cases h3
  · rw [h.block i (sizeOf_block hi) (fun q => hM (q ▸ h1)) (fun q => hM (q ▸ h2))]
    exact hi
end
/-- An error of the class ErrConflict. -/
structure Conf (w : World) (ev v : Value) : Prop where
  ex : ∃ b x, v = .iface 38 (.pointer (some ⟨b, 0, none⟩)) ∧ w.heap[b]? = some (.cells #[x, ev] 41)
theorem Conf.kx {Ts Ms : List Nat} {w w' : World} {ev v : Value} (h : Conf w ev v) (hk : Kx Ts Ms w w') (hT : 41 ∉ Ts) : Conf w' ev v := by
  obtain ⟨b, x, h1, h2⟩ := h.ex
  exact ⟨b, x, h1, hk.cell b _ _ _ h2 hT⟩
end Go.Proofs.YbulkcvxmFmt
