import Derived.Test.YbulkcvzcFmtEd3
import Derived.Test.YbulkcvzcFmtValid
set_option linter.unusedSimpArgs false
set_option linter.unusedVariables false
namespace Go.Proofs.YbulkcvzcFmt
open Go.RowKit

theorem IsRow.since {w w' : World} {a : Option Addr} {len cap : Nat} {zs : List Int} (h : IsRow w a len cap zs) (hs : Since w w') : IsRow w' a len cap zs := by
  rcases h with h | ⟨x, h1, h2, h3, h4, h5, h6⟩
  · exact .inl h
  · exact .inr ⟨x, h1, h2, h3, h4, fun i hi => hs.cell (h5 i hi), h6⟩
theorem octs0 (v : Int) : octs 0 v = encI v := by simp [octs]

set_option maxRecDepth 100000 in
set_option maxHeartbeats 4000000 in
theorem refuse_even (a : Option Addr) (len cap : Nat) (zs : List Int) (code mode : Int) (w : World) (hl : len ≤ 1024) (ha : IsRow w a len cap zs) (c0 : 0 ≤ code) (c1 : code < 4294967296) (m0 : 0 ≤ mode) (m1 : mode < 256) (hm : mode % 2 = 0) :
    Calls Ybaf.prog 4 #[.int .u32 code, .slice a len cap, .int .u8 mode] w fun r w' => r = .returned (.bool true) ∧ Since w w' := by
  go_enter Ybaf.func4, Ybaf.ntmps4
  go_wp2_with fail
  refine (aint (10000 + code % 50000) _ (by omega) (by omega)).mono ?_
  rintro r w1 ⟨x, rfl, hr1, hb1⟩
  have hS1 := Since.of hb1
  obtain ⟨o1, o2, o3, o4, o5, o6, o7⟩ := octs_facts 0 (10000 + code % 50000) (by omega) (by omega) (by omega)
  rw [octs0] at o1 o2 o3 o4 o5 o6 o7
  obtain ⟨cb, HC⟩ : ∃ cb, Hid (encI (10000 + code % 50000) = cb) := ⟨_, rfl⟩
  rw [HC.out] at hr1 o1 o2 o3 o4 o5 o6 o7
  obtain ⟨g3, c3, hv, _⟩ := hr1.form (by intro h; rw [h] at o1; simp at o1)
  subst hv
  have ha1 := ha.since hS1
  have HO7 : Hid (val (strip cb) = 10000 + code % 50000) := o7
  clear hb1 ha o5 o7
  go_wp2_with fail
  refine (atext a len cap true zs _ hl ha1).mono ?_
  rintro r w3 ⟨gt, ct, rfl, hrt3, hb3⟩
  have hS3 := Since.of hb3
  obtain ⟨T, HT⟩ : ∃ T, Hid (txt true (zs.take len) = T) := ⟨_, rfl⟩
  have hT1 := txt_len true (zs.take len)
  rw [HT.out] at hrt3 hT1 ⊢
  have hr3 := hr1.keep hS3
  have hSw3 := hS3.then hS1
  clear hb3 hr1 hS1 hS3 ha1
  go_wp2_with fail
  refine (amsg g3 c3 gt ct _ _ cb T true _ hr3 hrt3 o2 hT1).mono ?_
  rintro r w4 ⟨g4, c4, rfl, hr4, hb4⟩
  have hS4 := Since.of hb4
  have hL := lay_msg cb T true o2 hT1
  obtain ⟨M, HM⟩ : ∃ M, Hid (msg cb T true = M) := ⟨_, rfl⟩
  rw [HM.out] at hr4 hL ⊢
  obtain ⟨N, HN⟩ : ∃ N, Hid (M.length = N) := ⟨_, rfl⟩
  obtain ⟨_, g4', hg4, hBg, hgs4, hlc4, hcm4, hcell4, _⟩ := hr4.formS
  cases hg4
  rw [HN.out] at hL hlc4 hcell4 hr4 ⊢
  have hrt4 := hrt3.keep hS4
  have hSw4 := hS4.then hSw3
  have hr4s : w3.heap.size ≤ g4 := hBg
  clear hb4 hrt3 hr3 hS4 hSw3 hBg hr4 hcm4
  go_wp2_with fail
  have hD5 : ((w4.alloc (.cells #[.int .u8 48, .int .i64 0, .int .i64 2, .int .i64 N] 29)).alloc (.cells #[.slice (some ⟨g4, 0, none⟩) N c4, .pointer none, .slice none 0 0, .slice none 0 0] 40)).heap[w4.heap.size + 1]? = some (decO g4 N c4 none) := by
    have := newBlock (w4.alloc (.cells #[.int .u8 48, .int .i64 0, .int .i64 2, .int .i64 N] 29)) (.cells #[.slice (some ⟨g4, 0, none⟩) N c4, .pointer none, .slice none 0 0, .slice none 0 0] 40)
    rw [show (w4.alloc (.cells #[.int .u8 48, .int .i64 0, .int .i64 2, .int .i64 N] 29)).heap.size = w4.heap.size + 1 by simp] at this
    exact this
  have hS5 : Since w4 ((w4.alloc (.cells #[.int .u8 48, .int .i64 0, .int .i64 2, .int .i64 N] 29)).alloc (.cells #[.slice (some ⟨g4, 0, none⟩) N c4, .pointer none, .slice none 0 0, .slice none 0 0] 40)) := Since.alloc (Since.of (belowAlloc _ _))
  generalize hW5 : World.alloc _ (.cells #[.slice (some ⟨g4, 0, none⟩) N c4, .pointer none, .slice none 0 0, .slice none 0 0] 40) = w5 at hD5 hS5 ⊢
  obtain ⟨db, hdb⟩ : ∃ db, db = w4.heap.size + 1 := ⟨_, rfl⟩
  rw [← hdb] at hD5 ⊢
  have hdb4 : w4.heap.size ≤ db := by omega
  clear hW5 hdb
  refine (ed_code db g4 N c4 M cb T true _ hD5 (fun j hj => hS5.cell (hcell4 j hj)) hlc4 (by omega) hL o1 o2 hT1 o3 o4 o6 (by rw [HO7.out]; omega) (by rw [HO7.out]; omega)).mono ?_
  rintro r w6 ⟨eb, xb, tx, rfl, hE6, hX6, hD6, hg6⟩
  have hS6 := gSince hS5 hg6 hdb4
  have hSf := hS6.then hSw4
  have e0 : w6.cell? ⟨eb, 0, none⟩ = some (.int .i64 0) := cellOf hE6
  have e1 : w6.cell? ⟨eb, 1, none⟩ = some (.string ⟨#[]⟩) := cellOf hE6
  have x0 : w6.cell? ⟨xb, 0, none⟩ = some (.int .i64 2) := cellOf hX6
  have d1 : w6.cell? ⟨db, 1, none⟩ = some (.pointer (some ⟨xb, 0, none⟩)) := cellOf hD6
  clear hE6 hD6 hX6 hg6 hS6 hD5 hS5 hcell4 hL hrt4 hSw4
  go_wp2
  go_ret
  exact ⟨rfl, hSf⟩
end Go.Proofs.YbulkcvzcFmt
