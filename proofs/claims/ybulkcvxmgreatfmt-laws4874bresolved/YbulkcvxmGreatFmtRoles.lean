/- The roles as they lie: codes, the map of roles, the net. -/
import Derived.Test.YbulkcvxmGreatFmtAddAll
import Derived.Test.YbulkcvxmGreatFmtSort
import Derived.Lib.ItoaLen
import Derived.Lib.ItoaMem
set_option linter.unusedSimpArgs false
set_option linter.unusedVariables false
namespace Go.Proofs.YbulkcvxmGreatFmt
open Go.RowKit Go.Maps Go.WideMaps

/-! ### codes -/
def undec (l : List UInt8) : Nat := l.foldl (fun a d => a * 10 + (d.toNat - 48)) 0
theorem undec_dec (u : Nat) : undec (Lib.decDigits u) = u := by
  induction u using Nat.strongRecOn with
  | _ u ih =>
    rw [Lib.decDigits]
    split
    · rename_i h
      simp [undec, UInt8.toNat_ofNat']
      omega
    · rename_i h
      have h1 := ih (u / 10) (by omega)
      unfold undec at h1 ⊢
      rw [List.foldl_append, h1]
      simp [UInt8.toNat_ofNat']
      omega
/-- The code of the i-th role: 'r' and its number. -/
def codeS (i : Nat) : ByteArray := ⟨#[114]⟩ ++ ⟨(Lib.itoa (i : Int)).toArray⟩
theorem codeS_data (i : Nat) : (codeS i).data.toList = 114 :: Lib.itoa (i : Int) := by
  unfold codeS
  simp
theorem codeS_inj {i j : Nat} (h : codeS i = codeS j) : i = j := by
  have h1 := congrArg (fun b : ByteArray => b.data.toList) h
  simp only [codeS_data, List.cons.injEq, true_and, Lib.itoa_nonneg] at h1
  have := congrArg undec h1
  rwa [undec_dec, undec_dec] at this
theorem codeS_size (i : Nat) (hi : i ≤ 1000) : (codeS i).size ≤ 22 := by
  have := Lib.itoa_length_le (i : Int) (by omega) (by omega)
  have e : (codeS i).size = (codeS i).data.toList.length := (Array.length_toList).symm
  rw [e, codeS_data, List.length_cons]
  omega
theorem codeS_key (i : Nat) (hi : i ≤ 1000) : keyOf Ybaz.prog 9 (.string (codeS i)) = some (.string (codeS i).data.toList) := by
  refine keyOf_string_mk und9 ?_
  have := codeS_size i hi
  unfold maxLen
  omega
/-- All codes. -/
def allCodes (n : Nat) : List ByteArray := (List.range n).map codeS
theorem mem_allCodes {n : Nat} {s : ByteArray} : s ∈ allCodes n ↔ ∃ k, k < n ∧ s = codeS k := by
  unfold allCodes
  simp [List.mem_map, List.mem_range]
  constructor
  · rintro ⟨k, hk, rfl⟩; exact ⟨k, hk, rfl⟩
  · rintro ⟨k, hk, rfl⟩; exact ⟨k, hk, rfl⟩
theorem codesOf_len {n : Nat} (hn : n ≤ 300) {l : List ByteArray} (h : ∀ s ∈ l, s ∈ allCodes n) : (codesOf l).length ≤ 300 := by
  have h1 := nodup_length_le (codesOf_nodup l) (m := allCodes n) (fun x hx => h x (mem_codesOf.1 hx))
  have h2 : (allCodes n).length = n := by simp [allCodes]
  omega

/-! ### the map of roles -/
def ptr (b : Nat) : Value := .pointer (some ⟨b, 0, none⟩)
structure RM (w : World) (b k : Nat) (rb : Nat → Nat) : Prop where
  ex : ∃ D, w.ownsMap Ybaz.prog 9 heldE b k D ∧ ∀ i, i < k → ∀ z, D.atKey (.string (codeS i).data.toList) z = .held (ptr (rb i))
section
variable {w w' : World} {b k : Nat} {rb : Nat → Nat}
theorem RM.made (w : World) (rb : Nat → Nat) : RM (w.alloc (.map #[] 0)) w.heap.size 0 rb := ⟨.map [], World.ownsMap_made w _ _ _, fun i hi => absurd hi (Nat.not_lt_zero _)⟩
theorem RM.lt (h : RM w b k rb) : b < w.heap.size := by obtain ⟨D, h1, _⟩ := h.ex; exact h1.lt
theorem RM.isMap (h : RM w b k rb) : ∃ es cl, w.heap[b]? = some (.map es cl) := by
  obtain ⟨D, ⟨es, cl, h1, _⟩, _⟩ := h.ex
  exact ⟨es, cl, h1⟩
theorem RM.keep (h : RM w b k rb) (he : w'.heap[b]? = w.heap[b]?) : RM w' b k rb := by
  obtain ⟨D, ⟨es, cl, h1, h2⟩, h3⟩ := h.ex
  exact ⟨D, ⟨es, cl, he.trans h1, h2⟩, h3⟩
theorem RM.kx {Ts Ms : List Nat} (h : RM w b k rb) (hk : Kx Ts Ms w w') (hM : b ∉ Ms) : RM w' b k rb := by
  obtain ⟨es, cl, h1⟩ := h.isMap
  exact h.keep (by rw [h1]; exact hk.map b es cl h1 hM)
theorem zero44 (w : World) : (zeroValue 44).run Ybaz.prog w = .ok (.pointer none) w := by kernel_rfl
theorem RM.look (h : RM w b k rb) {i : Nat} (hi : i < k) (hk : k ≤ 1000) : (Instr.lookup 41 (.map (some b)) (.string (codeS i)) false).run Ybaz.prog w = .ok (.pointer (some ⟨rb i, 0, none⟩)) w := by
  obtain ⟨D, h1, h2⟩ := h.ex
  obtain ⟨v, ps, hr, hv⟩ := h1.lookup (string_keyed und9) Ybaz.underlying41 (zero44 w) (zd := .held (.pointer none)) (zp := []) rfl (codeS_key i (by omega))
  rw [hr]
  rw [h2 i hi] at hv
  simp [heldE] at hv
  rw [hv.1]
  rfl
theorem RM.store (h : RM w b k rb) (hk : k ≤ 300) (r : Nat) : ∃ w', (Instr.mapUpdate 41 (.map (some b)) (.string (codeS k)) (.pointer (some ⟨r, 0, none⟩))).run Ybaz.prog w = .ok () w' ∧ RM w' b (k + 1) (upd rb k r) ∧ w.mapTurned w' b := by
  obtain ⟨D, h1, h2⟩ := h.ex
  obtain ⟨w', hr, r1, r2⟩ := h1.store (string_keyed und9) Ybaz.underlying41 (by unfold maxLen; omega) (codeS_key k (by omega)) (val := ptr r) (d := .held (ptr r)) (ps := []) rfl
  refine ⟨w', hr, ⟨_, r1, fun i hi z => ?_⟩, r2⟩
  have hmap := h1.isMap
  by_cases e : i = k
  · subst e
    rw [upd_same]
    exact atKey_put_same hmap (show WideAt.IsKeyLit (.string (codeS i).data.toList) from trivial) _ _
  · rw [upd_ne _ _ e, atKey_put_other (fun e' => e (codeS_inj (by
      have : (codeS i).data.toList = (codeS k).data.toList := by simpa using e'
      have h3 : (codeS i).data = (codeS k).data := Array.toList_inj.1 this
      cases hA : codeS i; cases hB : codeS k
      rw [hA, hB] at h3
      simp only at h3
      rw [h3])))]
    exact h2 i (by omega) z
end

/-! ### the net -/
structure Gph where
  n : Nat
  rb : Nat → Nat
  E : Nat → List Nat
  G : Nat → List Nat
  own : Nat → Int
  mb : Nat
  gb : Nat
structure Gok (g : Gph) : Prop where
  n3 : g.n ≤ 300
  inj : ∀ i j, i < g.n → j < g.n → g.rb i = g.rb j → i = j
  elt : ∀ i, i < g.n → ∀ v ∈ g.E i, v < i
  elen : ∀ i, i < g.n → (g.E i).length ≤ 1024
  glt : ∀ i, i < g.n → ∀ k ∈ g.G i, k < 8
  glen : ∀ i, i < g.n → (g.G i).length ≤ 1024
def strC (s : ByteArray) : List Value := [.string s]
theorem strC_len (s : ByteArray) : (strC s).length = 1 := rfl
/-- What a grant's selector asks: 2 always, 1 on the guard. -/
def gt (k : Nat) : Nat := if k < 4 then 2 else 1
theorem gt_or (k : Nat) : gt k = 1 ∨ gt k = 2 := by unfold gt; split <;> simp
def grC (gb k : Nat) : List Value := [.string (codeB (k % 4)), gpv gb (gt k)]
theorem grC_len (gb k : Nat) : (grC gb k).length = 2 := rfl
structure Role (w : World) (n gb : Nat) (code : ByteArray) (es gs : List Nat) (own : Int) (c : Nat) (R : Int) (Z : Nat → Nat) (L : List ByteArray) (F : Nat → Value) : Prop where
  f0 : F 0 = .string code
  inh : RowL w 0 9 1 strC (F 2) (es.map codeS)
  gr : RowL w 0 71 2 (grC gb) (F 3) gs
  f4 : F 4 = .int .i64 own
  f10 : F 10 = .int .i64 c
  pm : c = 2 → ∃ e p, F 6 = .map (some e) ∧ F 7 = .map (some p) ∧ PS w e p gb Z
  f9 : c = 2 → F 9 = .int .i64 R
  codes : c = 2 → CodesL w (F 8) L ∧ L ≠ [] ∧ L.length ≤ 300 ∧ ∀ s ∈ L, s ∈ allCodes n
structure Net (w : World) (g : Gph) (c : Nat → Nat) (R : Nat → Int) (Z : Nat → Nat → Nat) (L : Nat → List ByteArray) (F : Nat → Nat → Value) : Prop where
  cells : ∀ i, i < g.n → Cells w (g.rb i) 56 12 (F i)
  role : ∀ i, i < g.n → Role w g.n g.gb (codeS i) (g.E i) (g.G i) (g.own i) (c i) (R i) (Z i) (L i) (F i)
  map : RM w g.mb g.n g.rb
section
variable {w w' : World} {g : Gph} {c : Nat → Nat} {R : Nat → Int} {Z : Nat → Nat → Nat} {L : Nat → List ByteArray} {F : Nat → Nat → Value}
theorem Role.kx {n gb : Nat} {code : ByteArray} {es gs : List Nat} {own r : Int} {k : Nat} {z : Nat → Nat} {l : List ByteArray} {f : Nat → Value} {Ts : List Nat} (h : Role w n gb code es gs own k r z l f) (hk : Kx Ts [] w w') (h9 : 9 ∉ Ts) (h71 : 71 ∉ Ts) (h20 : 20 ∉ Ts) (h27 : 27 ∉ Ts) : Role w' n gb code es gs own k r z l f := by
  refine ⟨h.f0, hk.row h.inh h9, hk.row h.gr h71, h.f4, h.f10, fun e => ?_, h.f9, fun e => ?_⟩
  · obtain ⟨a, b, h1, h2, h3⟩ := h.pm e
    exact ⟨a, b, h1, h2, h3.kx hk h27 (by simp) (by simp)⟩
  · exact ⟨(h.codes e).1.kx hk h20, (h.codes e).2⟩
theorem Net.since (h : Net w g c R Z L F) (hs : Since w w') : Net w' g c R Z L F :=
  ⟨fun i hi => (h.cells i hi).since hs, fun i hi => (h.role i hi).kx (Kx.since (Ts := []) hs) (by simp) (by simp) (by simp) (by simp), h.map.kx (Kx.since (Ts := []) (Ms := []) hs) (by simp)⟩
theorem Net.blocks (h : Net w g c R Z L F) : ∀ j, j < g.n → ∃ cs, w.heap[g.rb j]? = some (.cells cs 56) := fun j hj => by
  obtain ⟨cs, h1, _⟩ := (h.cells j hj).ex
  exact ⟨cs, h1⟩
end
section
variable {b : Nat} {w w' w'' : World}
theorem But.since (h : But b w w') (hs : Since w' w'') : But b w w'' := ⟨hs.out.os.trans h.os, hs.out.tape.trans h.tape, hs.out.output.trans h.output, Nat.le_trans h.size hs.size, fun i hi hn => (hs.out.block i (Nat.lt_of_lt_of_le hi h.size)).trans (h.block i hi hn)⟩
theorem But.grown (h : But b w w') {row : Option Nat} (hg : w'.grownBy w'' row) (hp : ∀ x, row = some x → w.heap.size ≤ x) : But b w w'' := ⟨hg.os.trans h.os, hg.tape.trans h.tape, hg.output.trans h.output, Nat.le_trans h.size hg.size, fun i hi hn => (hg.block i (Nat.lt_of_lt_of_le hi h.size) (fun e => by have := hp i e.symm; omega)).trans (h.block i hi hn)⟩
theorem But.bt (h : But b w w') {e p : Nat} (hb : Bt e p w' w'') (he : w.heap.size ≤ e) (hp : w.heap.size ≤ p) : But b w w'' := ⟨hb.os.trans h.os, hb.tape.trans h.tape, hb.output.trans h.output, Nat.le_trans h.size hb.size, fun i hi hn => (hb.block i (Nat.lt_of_lt_of_le hi h.size) (by omega) (by omega)).trans (h.block i hi hn)⟩
theorem But.kx (h : But b w w') {cs : Array Value} {T : TypeId} (hb : w.heap[b]? = some (.cells cs T)) : Kx [T] [] w w' := by
  refine ⟨h.size, fun i cs' T' fz hi hT => h.keep hi (fun e => ?_), fun i es cl hi _ => h.keep hi (fun e => ?_)⟩
  · subst e; rw [hb] at hi; cases hi; simp at hT
  · subst e; rw [hb] at hi; cases hi
theorem But.cells (h : But b w w') {x T n : Nat} {F : Nat → Value} (hc : Cells w x T n F) (hn : x ≠ b) : Cells w' x T n F := by
  obtain ⟨cs, h1, h2⟩ := hc.ex
  exact ⟨cs, h.keep h1 hn, h2⟩
end
end Go.Proofs.YbulkcvxmGreatFmt
