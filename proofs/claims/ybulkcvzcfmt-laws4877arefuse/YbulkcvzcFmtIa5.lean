import Derived.Test.YbulkcvzcFmtFail
set_option linter.unusedSimpArgs false
set_option linter.unusedVariables false
namespace Go.Proofs.YbulkcvzcFmt
open Go.RowKit Go.Extern.Stop Go.Stop Go.Extern

set_option maxRecDepth 100000 in
set_option maxHeartbeats 2000000 in
theorem ia5_bad (db gb N cap s e : Nat) (o : Int) (l : List Int) (what : ByteArray) (w : World) (hD : w.heap[db]? = some (decO gb N cap none)) (hse : s ≤ e) (heN : e ≤ N) (hN : N ≤ 1000) (hNc : N ≤ cap) (hl : l.length = e - s)
    (hc : ∀ j, j < l.length → w.cell? ⟨gb, s + j, none⟩ = some (.int .u8 (l.getD j 0))) (hby : ∀ x ∈ l, 0 ≤ x ∧ x < 256) (hbad : ∃ j, j < l.length ∧ 128 ≤ l.getD j 0) :
    Calls Ybaf.prog 21 #[.pointer (some ⟨db, 0, none⟩), .agg #[.int .u8 129, .int .i64 o, .int .i64 s, .int .i64 e], .string what, .int .i64 0, .int .i64 9223372036854775807] w fun r w' => r = .returned (.string ⟨#[]⟩) ∧ Failed w w' db gb N cap o := by
  have hds := sizeOf_block hD
  go_enter Ybaf.func21, Ybaf.ntmps21
  go_wp2_with fail
  refine (octets_ok db gb N cap s e o l what _ (keepB hD (belowAlloc _ _)) hse heN hN hNc hl (fun j hj => cellAlloc' (hc j hj))).mono ?_
  rintro r w1 ⟨x, rfl, hr, hS⟩
  have hB := hS.new
  have hSw := hS.then (Since.of (belowAlloc w _))
  have hD1 := hSw.keep hD
  have hn1 : l.length ≤ 1000 := by omega
  clear hl hc hS
  have hnil : l ≠ [] := by
    rintro rfl
    obtain ⟨j, hj, _⟩ := hbad
    simp at hj
  obtain ⟨g, c, hv, hBg, hgs, hlc, hcm, hcell, _⟩ := hr.form hnil
  obtain ⟨n, HN⟩ : ∃ n, Hid (n = l.length) := ⟨_, rfl⟩
  rw [← HN.out] at hv hn1 hcell
  subst hv
  clear hr
  obtain ⟨bx, hbx⟩ : ∃ bx, bx = w.heap.size := ⟨_, rfl⟩
  rw [← hbx] at hB ⊢
  have hbs := sizeOf_block hB
  obtain ⟨⟨f0, f1, f2, f3⟩, q0, q1, q2, q3⟩ := cells4 hB
  clear hbx q0 q1 q2 q3
  go_wp2
  go_loop [22] (fun i => ∃ k : Nat, k ≤ n ∧ i = .int .i64 k ∧ ∀ j, j < k → l.getD j 0 < 128) (fun i => n - (intOf i).toNat)
  case atStart => exact ⟨0, Nat.zero_le _, rfl, fun j hj => by omega⟩
  case round =>
    obtain ⟨k, hk, rfl, hlow⟩ := hrel
    by_cases hlt : k < n
    · have h0 := hcell k hlt
      have m0 := hby (l.getD k 0) (by rw [List.getD_eq_getElem?_getD, List.getElem?_eq_getElem (by rw [← HN.out]; exact hlt)]; exact List.getElem_mem _)
      obtain ⟨x, HX⟩ : ∃ x, Hid (l.getD k 0 = x) := ⟨_, rfl⟩
      rw [HX.out] at h0 m0
      by_cases hx : x < 128
      · have HL : Hid (∀ j, j < k → l.getD j 0 < 128) := hlow
        clear hcell hlow
        go_wp2
        go_round
        case rel =>
          refine ⟨k + 1, by omega, by go_num, fun j hj => ?_⟩
          rcases Nat.lt_or_ge j k with h | h
          · exact HL.out j h
          · rw [show j = k by omega, HX.out]; exact hx
        case measure => simp [intOf]; omega
      · clear hcell hlow
        go_wp2_with fail
        refine (failAt_any db gb N cap _ 2 2 129 o s e _ _ (keepB hD1 (belowAlloc _ _)) (ops_ia5 _ _ _ _)).mono ?_
        rintro r3 w3 ⟨rfl, (hb3 : Failed _ _ db gb N cap o)⟩
        have hF := (hb3.from (Since.of (belowAlloc _ _))).from hSw
        go_wp2
        go_ret
        exact ⟨rfl, hF⟩
    · exfalso
      obtain ⟨j, hj, h128⟩ := hbad
      have := hlow j (by have := HN.out; omega)
      omega
end Go.Proofs.YbulkcvzcFmt
