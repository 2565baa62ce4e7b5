import Derived.Test.YbulkcvzcFmtRef0
set_option linter.unusedSimpArgs false
set_option linter.unusedVariables false
namespace Go.Proofs.YbulkcvzcFmt
open Go.RowKit

theorem or128 (x : Int) (h0 : 0 ≤ x) (h1 : x < 256) : 128 ≤ bits .or .u8 x 128 ∧ bits .or .u8 x 128 < 256 := by
  have h : ∀ k : Fin 256, 128 ≤ bits .or .u8 (k.val : Int) 128 ∧ bits .or .u8 (k.val : Int) 128 < 256 := by decide +kernel
  have := h ⟨x.toNat, by omega⟩
  have e : ((x.toNat : Nat) : Int) = x := by omega
  simpa [e] using this

theorem Row.set {w : World} {B g n c : Nat} {l : List Int} (h : Row w B (.slice (some ⟨g, 0, none⟩) n c) l) (k : Nat) (x : Int) : Row (w.setCell ⟨g, k, none⟩ (.int .u8 x)) B (.slice (some ⟨g, 0, none⟩) n c) (l.set k x) := by
  obtain ⟨h1, h2⟩ := h
  refine ⟨by simp, ?_⟩
  rcases h2 with ⟨h2, _⟩ | ⟨g', cap, cur, hv, hg, hh, hn, hm, hs, ht⟩
  · cases h2
  · cases hv
    refine .inr ⟨g, c, cur.setIfInBounds k (.int .u8 x), by simp, hg, setOf hh, by simpa using hn, hm, by simpa using hs, ?_⟩
    rw [Array.toList_setIfInBounds, List.length_set, List.take_set, ht, List.map_set]

theorem txt_byte (l : List Int) (h : ∀ x ∈ l, 0 ≤ x ∧ x < 256) : ∀ x ∈ txt false l, 0 ≤ x ∧ x < 256 := by
  intro x hx
  simp only [txt, List.mem_map] at hx
  obtain ⟨y, hy, rfl⟩ := hx
  simpa using h y (List.mem_of_mem_take hy)
theorem IsRow.bytes {w : World} {a : Option Addr} {len cap : Nat} {zs : List Int} (h : IsRow w a len cap zs) : ∀ x ∈ zs, 0 ≤ x ∧ x < 256 := by
  rcases h with ⟨_, _, _, rfl⟩ | ⟨x, h1, h2, h3, h4, h5, h6⟩
  · intro x hx; cases hx
  · exact h6

set_option maxRecDepth 100000 in
set_option maxHeartbeats 4000000 in
theorem refuse_odd (a : Option Addr) (len cap : Nat) (zs : List Int) (code mode : Int) (w : World) (hl : len ≤ 1024) (ha : IsRow w a len cap zs) (c0 : 0 ≤ code) (c1 : code < 4294967296) (m0 : 0 ≤ mode) (m1 : mode < 256) (hm : mode % 2 = 1) :
    Calls Ybaf.prog 4 #[.int .u32 code, .slice a len cap, .int .u8 mode] w fun r w' => r = .returned (.bool true) ∧ Since w w' := by
  go_enter Ybaf.func4, Ybaf.ntmps4
  go_wp2_with fail
  refine (aint (code % 10000) _ (by omega) (by omega)).mono ?_
  rintro r w1 ⟨x, rfl, hr1, hb1⟩
  have hS1 := Since.of hb1
  obtain ⟨o1, o2, o3, o4, o5, o6, o7⟩ := octs_facts 0 (code % 10000) (by omega) (by omega) (by omega)
  rw [octs0] at o1 o2 o3 o4 o5 o6 o7
  obtain ⟨cb, HC⟩ : ∃ cb, Hid (encI (code % 10000) = cb) := ⟨_, rfl⟩
  rw [HC.out] at hr1 o1 o2 o3 o4 o5 o6 o7
  obtain ⟨g3, c3, hv, _⟩ := hr1.form (by intro h; rw [h] at o1; simp at o1)
  subst hv
  have ha1 := ha.since hS1
  have hzb := ha.bytes
  have HO7 : Hid (val (strip cb) = code % 10000) := o7
  clear hb1 ha o5 o7
  go_wp2_with fail
  refine (atext a len cap false zs _ hl ha1).mono ?_
  rintro r w2 ⟨gt2, ct2, rfl, hrt2, hb2⟩
  have hS2 := Since.of hb2
  obtain ⟨T0, HT⟩ : ∃ T0, Hid (txt false (zs.take len) = T0) := ⟨_, rfl⟩
  have hT01 := txt_len false (zs.take len)
  have hT02 := txt_byte (zs.take len) (fun x hx => hzb x (List.mem_of_mem_take hx))
  rw [HT.out] at hrt2 hT01 hT02 ⊢
  clear hb2 ha1
  by_cases hnil : T0 = []
  · subst hnil
    go_wp2_with (at_builtin; refine app _ rfl _ _ rfl w1.heap.size _ [] rfl (hrt2.keep (belowAlloc _ _)) ⟨w2.heap.size, 0, none⟩ 1 1 [128] rfl rfl ?c0a (by simp) ?c0b ?c0c)
    case c0a => exact cell1 _ _
    case c0b => have := hS2.size; simp; omega
    case c0c =>
      intro v3 w3 hrt3' hb3
      have hrt3 : Row w3 w1.heap.size v3 [128] := hrt3'
      obtain ⟨gt, ct, hv, _⟩ := hrt3.form (by simp)
      subst hv
      have hS13 : Since w1 w3 := Below.trans (Since.alloc hS2) hb3
      have hr3 := hr1.keep hS13
      have hSw3 := hS13.then hS1
      obtain ⟨T, HT3⟩ : ∃ T : List Int, Hid (T = [128]) := ⟨_, rfl⟩
      rw [← HT3.out] at hrt3 ⊢
      have hT1 : T.length ≤ 100 := by rw [HT3.out]; simp
      have hTb : ∀ x ∈ T, 0 ≤ x ∧ x < 256 := by rw [HT3.out]; simp
      have hTx : ∃ j, j < T.length ∧ 128 ≤ T.getD j 0 := ⟨0, by rw [HT3.out]; simp, by rw [HT3.out]; simp⟩
      clear hrt3' hb3 hS13 hr1 hS1 hS2 hrt2 hT01 hT02
      go_wp2_with fail
      refine (amsg g3 c3 gt ct _ _ cb T true _ hr3 hrt3 o2 hT1).mono ?_
      rintro r w4 ⟨g4, c4, rfl, hr4, hb4⟩
      have hS4 := Since.of hb4
      have hL := lay_msg cb T true o2 hT1
      obtain ⟨M, HM⟩ : ∃ M, Hid (msg cb T true = M) := ⟨_, rfl⟩
      rw [HM.out] at hr4 hL ⊢
      obtain ⟨N, HN⟩ : ∃ N, Hid (M.length = N) := ⟨_, rfl⟩
      obtain ⟨_, g4', hg4, hBg, hgs4, hlc4, hcm4, hcell4, _⟩ := hr4.formS
      cases hg4
      rw [HN.out] at hL hlc4 hcell4 hr4 ⊢
      have hrt4 := hrt3.keep hS4
      have hSw4 := hS4.then hSw3
      have hr4s : w3.heap.size ≤ g4 := hBg
      clear hb4 hrt3 hr3 hS4 hSw3 hBg hr4 hcm4
      go_wp2_with fail
      have hD5 : ((w4.alloc (.cells #[.int .u8 48, .int .i64 0, .int .i64 2, .int .i64 N] 29)).alloc (.cells #[.slice (some ⟨g4, 0, none⟩) N c4, .pointer none, .slice none 0 0, .slice none 0 0] 40)).heap[w4.heap.size + 1]? = some (decO g4 N c4 none) := by
        have := newBlock (w4.alloc (.cells #[.int .u8 48, .int .i64 0, .int .i64 2, .int .i64 N] 29)) (.cells #[.slice (some ⟨g4, 0, none⟩) N c4, .pointer none, .slice none 0 0, .slice none 0 0] 40)
        rw [show (w4.alloc (.cells #[.int .u8 48, .int .i64 0, .int .i64 2, .int .i64 N] 29)).heap.size = w4.heap.size + 1 by simp] at this
        exact this
      have hS5 : Since w4 ((w4.alloc (.cells #[.int .u8 48, .int .i64 0, .int .i64 2, .int .i64 N] 29)).alloc (.cells #[.slice (some ⟨g4, 0, none⟩) N c4, .pointer none, .slice none 0 0, .slice none 0 0] 40)) := Since.alloc (Since.of (belowAlloc _ _))
      generalize hW5 : World.alloc _ (.cells #[.slice (some ⟨g4, 0, none⟩) N c4, .pointer none, .slice none 0 0, .slice none 0 0] 40) = w5 at hD5 hS5 ⊢
      obtain ⟨db, hdb⟩ : ∃ db, db = w4.heap.size + 1 := ⟨_, rfl⟩
      rw [← hdb] at hD5 ⊢
      have hdb4 : w4.heap.size ≤ db := by omega
      clear hW5 hdb
      refine (ed_text db g4 N c4 M cb T _ hD5 (fun j hj => hS5.cell (hcell4 j hj)) hlc4 (by omega) hL o1 o2 hT1 o3 o4 o6 hTb hTx (by rw [HO7.out]; omega) (by rw [HO7.out]; omega)).mono ?_
      rintro r w6 ⟨eb, xb, tx, rfl, hE6, hX6, hD6, hg6⟩
      have hS6 := gSince hS5 hg6 hdb4
      have hSf := hS6.then hSw4
      rw [HO7.out] at hE6
      have e0 : w6.cell? ⟨eb, 0, none⟩ = some (.int .i64 (code % 10000)) := cellOf hE6
      have e1 : w6.cell? ⟨eb, 1, none⟩ = some (.string ⟨#[]⟩) := cellOf hE6
      have x0 : w6.cell? ⟨xb, 0, none⟩ = some (.int .i64 (4 + cb.length : Nat)) := cellOf hX6
      have d1 : w6.cell? ⟨db, 1, none⟩ = some (.pointer (some ⟨xb, 0, none⟩)) := cellOf hD6
      obtain ⟨E, HE⟩ : ∃ E : Nat, Hid (4 + cb.length = E) := ⟨_, rfl⟩
      rw [HE.out] at x0
      have hadd : IntKind.i64.wrap (4 + (cb.length : Int)) = (E : Int) := by
        have h := HE.out
        rw [show (4 : Int) + (cb.length : Int) = (E : Int) by omega]
        simp [IntKind.wrap, IntKind.signed, IntKind.bits]
        omega
      clear hE6 hD6 hX6 hg6 hS6 hD5 hS5 hcell4 hL hrt4 hSw4
      go_wp2
      go_ret
      exact ⟨rfl, hSf⟩
  · obtain ⟨_, g', hg, hBg, hgs, hlc, hcm, hcell, cur, hcur, _⟩ := hrt2.formS
    cases hg
    obtain ⟨n, HN0⟩ : ∃ n : Nat, Hid (T0.length = n) := ⟨_, rfl⟩
    have hn0 : 0 < n := by rw [← HN0.out]; exact List.length_pos_iff.2 hnil
    have hn1 : n ≤ 100 := by rw [← HN0.out]; exact hT01
    obtain ⟨k, hk⟩ : ∃ k : Nat, (k : Int) = code % 1024 % n := ⟨(code % 1024 % n).toNat, by have := Int.emod_nonneg (code % 1024) (b := n) (by omega); omega⟩
    have hkn : k < n := by have := Int.emod_lt_of_pos (code % 1024) (b := n) (by omega); omega
    have hck := hcell k (by rw [HN0.out]; exact hkn)
    have hfz := frozenOf (b := gt2) (o := k) hcur
    have hx0 := hT02 (T0.getD k 0) (by rw [List.getD_eq_getElem?_getD, List.getElem?_eq_getElem (by rw [HN0.out]; exact hkn)]; exact List.getElem_mem _)
    have hx1 := or128 _ hx0.1 hx0.2
    have hset := hrt2.set k (bits .or .u8 (T0.getD k 0) 128)
    obtain ⟨x, HX⟩ : ∃ x, Hid (T0.getD k 0 = x) := ⟨_, rfl⟩
    rw [HX.out] at hck hx0 hx1 hset
    obtain ⟨y, HY⟩ : ∃ y, Hid (bits .or .u8 x 128 = y) := ⟨_, rfl⟩
    have hy := HY.out
    rw [HN0.out] at hset hlc ⊢
    rw [hy] at hset hx1
    have hg1 : w1.heap.size ≤ gt2 := hBg
    have HK : Hid ((k : Int) = code % 1024 % n) := hk
    have hkr : code % 1024 % (n : Int) = (k : Int) := hk.symm
    clear hcell hcur hBg hk hnil
    go_wp2_with fail
    have hS13 : Since w1 (w2.setCell ⟨gt2, k, none⟩ (.int .u8 y)) := hS2.set hg1
    obtain ⟨T, HT3⟩ : ∃ T : List Int, Hid (T = T0.set k y) := ⟨_, rfl⟩
    have hTn : n = T.length := by rw [HT3.out, List.length_set, HN0.out]
    have hT1 : T.length ≤ 100 := by omega
    have hTb : ∀ x ∈ T, 0 ≤ x ∧ x < 256 := by
      rw [HT3.out]
      intro z hz
      rcases List.mem_or_eq_of_mem_set hz with h | h
      · exact hT02 z h
      · subst h; omega
    have hTx : ∃ j, j < T.length ∧ 128 ≤ T.getD j 0 := ⟨k, by omega, by rw [HT3.out, List.getD_eq_getElem?_getD, List.getElem?_set_self (by rw [HN0.out]; exact hkn)]; exact hx1.1⟩
    rw [← HT3.out, hTn] at hset
    rw [hTn]
    generalize hW3 : w2.setCell _ _ = w3 at hset hS13 ⊢
    have hrt3 := hset
    have hr3 := hr1.keep hS13
    have hSw3 := hS13.then hS1
    obtain ⟨gt, hgt⟩ : ∃ gt, gt = gt2 := ⟨_, rfl⟩
    obtain ⟨ct, hct⟩ : ∃ ct, ct = ct2 := ⟨_, rfl⟩
    rw [← hgt, ← hct] at hrt3 ⊢
    clear hgt hct hW3 hset hS13 hr1 hS1 hS2 hrt2 hT01 hT02 hck hfz hx0 hx1 hy hg1 hkr hgs hlc hcm hn0 hn1 hkn hTn
    refine (amsg g3 c3 gt ct _ _ cb T true _ hr3 hrt3 o2 hT1).mono ?_
    rintro r w4 ⟨g4, c4, rfl, hr4, hb4⟩
    have hS4 := Since.of hb4
    have hL := lay_msg cb T true o2 hT1
    obtain ⟨M, HM⟩ : ∃ M, Hid (msg cb T true = M) := ⟨_, rfl⟩
    rw [HM.out] at hr4 hL ⊢
    obtain ⟨N, HN⟩ : ∃ N, Hid (M.length = N) := ⟨_, rfl⟩
    obtain ⟨_, g4', hg4, hBg, hgs4, hlc4, hcm4, hcell4, _⟩ := hr4.formS
    cases hg4
    rw [HN.out] at hL hlc4 hcell4 hr4 ⊢
    have hrt4 := hrt3.keep hS4
    have hSw4 := hS4.then hSw3
    have hr4s : w3.heap.size ≤ g4 := hBg
    clear hb4 hrt3 hr3 hS4 hSw3 hBg hr4 hcm4
    go_wp2_with fail
    have hD5 : ((w4.alloc (.cells #[.int .u8 48, .int .i64 0, .int .i64 2, .int .i64 N] 29)).alloc (.cells #[.slice (some ⟨g4, 0, none⟩) N c4, .pointer none, .slice none 0 0, .slice none 0 0] 40)).heap[w4.heap.size + 1]? = some (decO g4 N c4 none) := by
      have := newBlock (w4.alloc (.cells #[.int .u8 48, .int .i64 0, .int .i64 2, .int .i64 N] 29)) (.cells #[.slice (some ⟨g4, 0, none⟩) N c4, .pointer none, .slice none 0 0, .slice none 0 0] 40)
      rw [show (w4.alloc (.cells #[.int .u8 48, .int .i64 0, .int .i64 2, .int .i64 N] 29)).heap.size = w4.heap.size + 1 by simp] at this
      exact this
    have hS5 : Since w4 ((w4.alloc (.cells #[.int .u8 48, .int .i64 0, .int .i64 2, .int .i64 N] 29)).alloc (.cells #[.slice (some ⟨g4, 0, none⟩) N c4, .pointer none, .slice none 0 0, .slice none 0 0] 40)) := Since.alloc (Since.of (belowAlloc _ _))
    generalize hW5 : World.alloc _ (.cells #[.slice (some ⟨g4, 0, none⟩) N c4, .pointer none, .slice none 0 0, .slice none 0 0] 40) = w5 at hD5 hS5 ⊢
    obtain ⟨db, hdb⟩ : ∃ db, db = w4.heap.size + 1 := ⟨_, rfl⟩
    rw [← hdb] at hD5 ⊢
    have hdb4 : w4.heap.size ≤ db := by omega
    clear hW5 hdb
    refine (ed_text db g4 N c4 M cb T _ hD5 (fun j hj => hS5.cell (hcell4 j hj)) hlc4 (by omega) hL o1 o2 hT1 o3 o4 o6 hTb hTx (by rw [HO7.out]; omega) (by rw [HO7.out]; omega)).mono ?_
    rintro r w6 ⟨eb, xb, tx, rfl, hE6, hX6, hD6, hg6⟩
    have hS6 := gSince hS5 hg6 hdb4
    have hSf := hS6.then hSw4
    rw [HO7.out] at hE6
    have e0 : w6.cell? ⟨eb, 0, none⟩ = some (.int .i64 (code % 10000)) := cellOf hE6
    have e1 : w6.cell? ⟨eb, 1, none⟩ = some (.string ⟨#[]⟩) := cellOf hE6
    have x0 : w6.cell? ⟨xb, 0, none⟩ = some (.int .i64 (4 + cb.length : Nat)) := cellOf hX6
    have d1 : w6.cell? ⟨db, 1, none⟩ = some (.pointer (some ⟨xb, 0, none⟩)) := cellOf hD6
    obtain ⟨E, HE⟩ : ∃ E : Nat, Hid (4 + cb.length = E) := ⟨_, rfl⟩
    rw [HE.out] at x0
    have hadd : IntKind.i64.wrap (4 + (cb.length : Int)) = (E : Int) := by
      have h := HE.out
      rw [show (4 : Int) + (cb.length : Int) = (E : Int) by omega]
      simp [IntKind.wrap, IntKind.signed, IntKind.bits]
      omega
    clear hE6 hD6 hX6 hg6 hS6 hD5 hS5 hcell4 hL hrt4 hSw4
    go_wp2
    go_ret
    exact ⟨rfl, hSf⟩

set_option maxRecDepth 100000 in
set_option maxHeartbeats 400000 in
theorem refuse_big (a : Option Addr) (len cap : Nat) (code mode : Int) (w : World) (hl : 1024 < len) (hm : len ≤ maxLen) :
    Calls Ybaf.prog 4 #[.int .u32 code, .slice a len cap, .int .u8 mode] w fun r w' => r = .returned (.bool true) ∧ Since w w' := by
  unfold maxLen at hm
  have h : (1024 : Int) < (len : Int) := by omega
  go_enter Ybaf.func4, Ybaf.ntmps4
  go_wp2
  go_ret
  exact ⟨rfl, Since.refl _⟩

theorem refuse (a : Option Addr) (len cap : Nat) (zs : List Int) (code mode : Int) (w : World) (ha : IsRow w a len cap zs) (c0 : 0 ≤ code) (c1 : code < 4294967296) (m0 : 0 ≤ mode) (m1 : mode < 256) :
    Calls Ybaf.prog 4 #[.int .u32 code, .slice a len cap, .int .u8 mode] w fun r w' => r = .returned (.bool true) ∧ Since w w' := by
  by_cases hl : len ≤ 1024
  · by_cases hm : mode % 2 = 0
    · exact refuse_even a len cap zs code mode w hl ha c0 c1 m0 m1 hm
    · exact refuse_odd a len cap zs code mode w hl ha c0 c1 m0 m1 (by omega)
  · refine refuse_big a len cap code mode w (by omega) ?_
    rcases ha with ⟨rfl, rfl, rfl, rfl⟩ | ⟨x, rfl, hlc, hcm, _⟩
    · exact Nat.zero_le _
    · omega
end Go.Proofs.YbulkcvzcFmt
