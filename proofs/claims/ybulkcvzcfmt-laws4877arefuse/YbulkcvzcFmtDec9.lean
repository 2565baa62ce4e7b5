import Derived.Test.YbulkcvzcFmtDec8
import Derived.Laws.BytesString
set_option linter.unusedSimpArgs false
set_option linter.unusedVariables false
namespace Go.Proofs.YbulkcvzcFmt
open Go.RowKit

/-- The string of the bytes. -/
def mkStr (l : List Int) : ByteArray := l.foldl (fun r n => r.push (UInt8.ofNat n.toNat)) ByteArray.empty

theorem conv_row {w : World} {B : Nat} {x : Value} {l : List Int} (h : Row w B x l) : (convert 23 9 x).run Ybaf.prog w = .ok (.string (mkStr l)) w := by
  obtain ⟨h1, h2⟩ := h
  rcases h2 with ⟨rfl, h0⟩ | ⟨g, cap, cur, rfl, hg, hh, hn, hm, hs, ht⟩
  · have : l = [] := List.length_eq_zero_iff.1 h0
    subst this
    rw [run_convert_bytes_string w 23 9 5 none 0 0 Ybaf.underlying23 Ybaf.underlying5 Ybaf.underlying9]
    simp [Conv.bytesToString, mkStr]
  · rw [run_convert_bytes_string w 23 9 5 _ _ _ Ybaf.underlying23 Ybaf.underlying5 Ybaf.underlying9]
    refine run_bytesToString w _ _ _ l ?_
    have := run_loadCells_list (P := Ybaf.prog) (w := w) ⟨g, 0, none⟩ (l.map (Value.int .u8)) (by
      intro j v hj
      rw [Addr.add_lit, cellOf hh, Nat.zero_add, ← Array.getElem?_toList, ← hj, ← ht, List.getElem?_take]
      have : j < l.length * 1 := by
        have := (List.getElem?_eq_some_iff.1 hj).1
        simpa using this
      rw [if_pos this])
    simpa using this

set_option maxRecDepth 100000 in
set_option maxHeartbeats 2000000 in
theorem ia5_ok (db gb N cap s e : Nat) (o : Int) (l : List Int) (what : ByteArray) (w : World) (hD : w.heap[db]? = some (decO gb N cap none)) (hse : s ≤ e) (heN : e ≤ N) (hN : N ≤ 1000) (hNc : N ≤ cap) (hl : l.length = e - s)
    (hc : ∀ j, j < l.length → w.cell? ⟨gb, s + j, none⟩ = some (.int .u8 (l.getD j 0))) (hasc : ∀ x ∈ l, 0 ≤ x ∧ x < 128) :
    Calls Ybaf.prog 21 #[.pointer (some ⟨db, 0, none⟩), .agg #[.int .u8 129, .int .i64 o, .int .i64 s, .int .i64 e], .string what, .int .i64 0, .int .i64 9223372036854775807] w fun r w' => r = .returned (.string (mkStr l)) ∧ Since w w' := by
  go_enter Ybaf.func21, Ybaf.ntmps21
  go_wp2_with fail
  refine (octets_ok db gb N cap s e o l what _ (keepB hD (belowAlloc _ _)) hse heN hN hNc hl (fun j hj => cellAlloc' (hc j hj))).mono ?_
  rintro r w1 ⟨x, rfl, hr, hS⟩
  have hSw := hS.then (Since.of (belowAlloc w _))
  have hconv := conv_row hr
  have hn1 : l.length ≤ 1000 := by omega
  clear hl hc hS
  by_cases hnil : l = []
  · subst hnil
    have hform : ∃ a c, x = .slice a 0 c := by
      obtain ⟨_, h | ⟨g, cc, cur, hv, _⟩⟩ := hr
      · exact ⟨none, 0, h.1⟩
      · exact ⟨_, _, hv⟩
    obtain ⟨a, c, rfl⟩ := hform
    clear hr
    go_wp2
    refine wp_loop_rounds 1 ?_
    rw [rounds_succ]
    go_wp2
    go_ret
    exact ⟨rfl, hSw⟩
  · obtain ⟨g, c, hv, hBg, hgs, hlc, hcm, hcell, _⟩ := hr.form hnil
    obtain ⟨n, HN⟩ : ∃ n, Hid (n = l.length) := ⟨_, rfl⟩
    rw [← HN.out] at hv hn1 hcell
    subst hv
    clear hr
    go_wp2
    go_loop [22] (fun i => ∃ k : Nat, k ≤ n ∧ i = .int .i64 k) (fun i => n - (intOf i).toNat)
    case atStart => exact ⟨0, Nat.zero_le _, rfl⟩
    case round =>
      obtain ⟨k, hk, rfl⟩ := hrel
      by_cases hlt : k < n
      · have h0 := hcell k hlt
        have m0 := hasc (l.getD k 0) (by rw [List.getD_eq_getElem?_getD, List.getElem?_eq_getElem (by rw [← HN.out]; exact hlt)]; exact List.getElem_mem _)
        obtain ⟨x, hx⟩ : ∃ x, l.getD k 0 = x := ⟨_, rfl⟩
        rw [hx] at h0 m0
        clear hx hcell
        have m1 := m0.2
        go_wp2
        go_round
        case rel => exact ⟨k + 1, by omega, by go_num⟩
        case measure => simp [intOf]; omega
      · go_wp2
        go_ret
        exact ⟨rfl, hSw⟩

set_option maxRecDepth 100000 in
set_option maxHeartbeats 1000000 in
/-- need: reading has failed, or the place was read. -/
theorem need_ok (cb db gb N cap : Nat) (er : Option Addr) (pos fin : Int) (what name : ByteArray) (seen last id o s e : Int) (w : World) (hD : w.heap[db]? = some (decO gb N cap er)) (hC : w.heap[cb]? = some (cmpO db pos fin what seen last))
    (h : er ≠ none ∨ bits .and .u32 seen 1 ≠ 0) :
    Calls Ybaf.prog 23 #[.pointer (some ⟨cb, 0, none⟩), .agg #[.int .u8 id, .int .i64 o, .int .i64 s, .int .i64 e], .int .i64 0, .string name] w fun r w' => r = .returned (.tuple #[]) ∧ Since w w' := by
  have d1 : w.cell? ⟨db, 1, none⟩ = some (.pointer er) := cellOf hD
  have c3 : w.cell? ⟨cb, 3, none⟩ = some (.pointer (some ⟨db, 0, none⟩)) := cellOf hC
  have c5 : w.cell? ⟨cb, 5, none⟩ = some (.int .u32 seen) := cellOf hC
  have hds := sizeOf_block hD
  have hcs := sizeOf_block hC
  clear hD hC
  cases er with
  | some a =>
    go_enter Ybaf.func23, Ybaf.ntmps23
    go_wp2
    go_quiet (fail)
    go_wp2
    go_end0
    exact ⟨rfl, Since.drewN (Since.of (belowAlloc _ _)) _⟩
  | none =>
    have hb : (bits .and .u32 seen 1 == 0) = false := beq_eq_false_iff_ne.2 (by simpa using h)
    go_enter Ybaf.func23, Ybaf.ntmps23
    go_wp2
    go_quiet (fail)
    go_wp2
    go_end0
    exact ⟨rfl, Since.drewN (Since.of (belowAlloc _ _)) _⟩
end Go.Proofs.YbulkcvzcFmt
