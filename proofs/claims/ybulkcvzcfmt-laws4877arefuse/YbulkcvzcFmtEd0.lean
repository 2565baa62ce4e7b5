import Derived.Test.YbulkcvzcFmtDec9
set_option linter.unusedSimpArgs false
set_option linter.unusedVariables false
namespace Go.Proofs.YbulkcvzcFmt
open Go.RowKit

/-- What errorDescriptor holds while it reads. -/
structure Ed (w W : World) (db gb N cap eb cb bx : Nat) (M : List Int) (what : ByteArray) (er : Option Addr) (code : Int) (text : ByteArray) (pos seen last : Int) : Prop where
  hD : W.heap[db]? = some (decO gb N cap er)
  hE : W.heap[eb]? = some (.cells #[.int .i64 code, .string text] 44)
  hC : W.heap[cb]? = some (cmpO db pos N what seen last)
  hB : W.heap[bx]? = some (.cells #[.int .u8 48, .int .i64 0, .int .i64 2, .int .i64 N] 29)
  hG : ∀ j, j < N → W.cell? ⟨gb, j, none⟩ = some (.int .u8 (M.getD j 0))
  hS : w.grownBy W (some db)
  e1 : w.heap.size ≤ eb
  e2 : w.heap.size ≤ cb
  e3 : w.heap.size ≤ bx
  e4 : eb ≠ cb
  e5 : eb ≠ bx
  e6 : cb ≠ bx
  e7 : db < w.heap.size
  e8 : gb < w.heap.size
  e9 : db ≠ gb

section
variable {w W W' : World} {db gb N cap eb cb bx : Nat} {M : List Int} {what : ByteArray} {er : Option Addr} {code : Int} {text : ByteArray} {pos seen last : Int}
theorem Ed.since (h : Ed w W db gb N cap eb cb bx M what er code text pos seen last) (hs : Since W W') : Ed w W' db gb N cap eb cb bx M what er code text pos seen last :=
  ⟨hs.keep h.hD, hs.keep h.hE, hs.keep h.hC, hs.keep h.hB, fun j hj => hs.cell (h.hG j hj), gTrans h.hS (gBelow _ hs), h.e1, h.e2, h.e3, h.e4, h.e5, h.e6, h.e7, h.e8, h.e9⟩
theorem cellG {a b : World} {k : Nat} {p : Addr} {v : Value} (h : a.grownBy b (some k)) (hc : a.cell? p = some v) (hk : p.block ≠ k) : b.cell? p = some v :=
  (World.cell?_of_block (h.block p.block (sizeOf_cell hc) (fun e => hk (Option.some.inj e)))).trans hc
theorem gTo {a b c : World} {d k : Nat} (h : a.grownBy b (some d)) (h' : b.grownBy c (some k)) (hk : a.heap.size ≤ k) : a.grownBy c (some d) :=
  ⟨h'.os.trans h.os, h'.tape.trans h.tape, h'.output.trans h.output, Nat.le_trans h.size h'.size, fun i hi hne => (h'.block i (Nat.lt_of_lt_of_le hi h.size) (fun e => by cases e; omega)).trans (h.block i hi hne)⟩
theorem Ed.next {pos' seen' last' : Int} (h : Ed w W db gb N cap eb cb bx M what er code text pos seen last) (hg : W.grownBy W' (some cb)) (hC : W'.heap[cb]? = some (cmpO db pos' N what seen' last')) : Ed w W' db gb N cap eb cb bx M what er code text pos' seen' last' :=
  ⟨gKeep hg h.hD (by have := h.e7; have := h.e2; omega), gKeep hg h.hE h.e4, hC, gKeep hg h.hB (Ne.symm h.e6), fun j hj => cellG hg (h.hG j hj) (by have := h.e8; have := h.e2; simp; omega), gTo h.hS hg h.e2, h.e1, h.e2, h.e3, h.e4, h.e5, h.e6, h.e7, h.e8, h.e9⟩
theorem Ed.setCode {v : Int} (h : Ed w W db gb N cap eb cb bx M what er code text pos seen last) : Ed w (W.setCell ⟨eb, 0, none⟩ (.int .i64 v)) db gb N cap eb cb bx M what er v text pos seen last :=
  ⟨gKeep (gSet _ _ _ _) h.hD (by have := h.e7; have := h.e1; omega), setOf h.hE, gKeep (gSet _ _ _ _) h.hC (Ne.symm h.e4), gKeep (gSet _ _ _ _) h.hB (Ne.symm h.e5), fun j hj => cellG (gSet _ _ _ _) (h.hG j hj) (by have := h.e8; have := h.e1; simp; omega), gTo h.hS (gSet _ _ _ _) h.e1, h.e1, h.e2, h.e3, h.e4, h.e5, h.e6, h.e7, h.e8, h.e9⟩
theorem Ed.setText {v : ByteArray} (h : Ed w W db gb N cap eb cb bx M what er code text pos seen last) : Ed w (W.setCell ⟨eb, 1, none⟩ (.string v)) db gb N cap eb cb bx M what er code v pos seen last :=
  ⟨gKeep (gSet _ _ _ _) h.hD (by have := h.e7; have := h.e1; omega), setOf h.hE, gKeep (gSet _ _ _ _) h.hC (Ne.symm h.e4), gKeep (gSet _ _ _ _) h.hB (Ne.symm h.e5), fun j hj => cellG (gSet _ _ _ _) (h.hG j hj) (by have := h.e8; have := h.e1; simp; omega), gTo h.hS (gSet _ _ _ _) h.e1, h.e1, h.e2, h.e3, h.e4, h.e5, h.e6, h.e7, h.e8, h.e9⟩
/-- a store into another block of the call's own. -/
theorem Ed.set {b o : Nat} {v : Value} (h : Ed w W db gb N cap eb cb bx M what er code text pos seen last) (h1 : w.heap.size ≤ b) (h2 : b ≠ eb) (h3 : b ≠ cb) (h4 : b ≠ bx) : Ed w (W.setCell ⟨b, o, none⟩ v) db gb N cap eb cb bx M what er code text pos seen last :=
  ⟨gKeep (gSet _ _ _ _) h.hD (by have := h.e7; omega), gKeep (gSet _ _ _ _) h.hE (Ne.symm h2), gKeep (gSet _ _ _ _) h.hC (Ne.symm h3), gKeep (gSet _ _ _ _) h.hB (Ne.symm h4), fun j hj => cellG (gSet _ _ _ _) (h.hG j hj) (by have := h.e8; simp; omega), gTo h.hS (gSet _ _ _ _) h1, h.e1, h.e2, h.e3, h.e4, h.e5, h.e6, h.e7, h.e8, h.e9⟩
end

/-- The message's places. -/
structure Lay (M : List Int) (N : Nat) (cb t : List Int) (wt : Bool) : Prop where
  len : M.length = N
  n1000 : N ≤ 1000
  fin : N = 4 + cb.length + if wt then 2 + t.length else 0
  m2 : M.getD 2 0 = 128
  m3 : M.getD 3 0 = cb.length
  mc : ∀ j, j < cb.length → M.getD (4 + j) 0 = cb.getD j 0
  m4 : wt = true → M.getD (4 + cb.length) 0 = 129
  m5 : wt = true → M.getD (5 + cb.length) 0 = t.length
  mt : wt = true → ∀ j, j < t.length → M.getD (6 + cb.length + j) 0 = t.getD j 0

theorem lay_msg (cb t : List Int) (wt : Bool) (h1 : cb.length ≤ 20) (h2 : t.length ≤ 100) : Lay (msg cb t wt) (msg cb t wt).length cb t wt where
  len := rfl
  n1000 := by simp [msg]; have := inner_len cb t wt h1 h2; omega
  fin := by cases wt <;> simp [msg, inner] <;> omega
  m2 := by simp [msg, inner]
  m3 := by simp [msg, inner]
  mc := by
    intro j hj
    simp only [msg, inner, List.getD_eq_getElem?_getD]
    rw [show 4 + j = j + 4 by omega]
    simp [List.getElem?_append_left hj]
  m4 := by
    rintro rfl
    simp only [msg, inner, List.getD_eq_getElem?_getD]
    rw [show 4 + cb.length = cb.length + 4 by omega]
    simp
  m5 := by
    rintro rfl
    simp only [msg, inner, List.getD_eq_getElem?_getD]
    rw [show 5 + cb.length = cb.length + 1 + 4 by omega]
    simp
  mt := by
    rintro rfl j hj
    simp only [msg, inner, List.getD_eq_getElem?_getD]
    rw [show 6 + cb.length + j = cb.length + (j + 2) + 4 by omega]
    simp only [List.cons_append, List.getElem?_cons_succ]
    rw [if_pos trivial, List.getElem?_append_right (by omega), show cb.length + (j + 2) - cb.length = j + 2 by omega]
    simp

end Go.Proofs.YbulkcvzcFmt
