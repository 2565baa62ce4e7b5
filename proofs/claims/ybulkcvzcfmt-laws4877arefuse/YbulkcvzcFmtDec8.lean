import Derived.Test.YbulkcvzcFmtDec7
set_option linter.unusedSimpArgs false
set_option linter.unusedVariables false
namespace Go.Proofs.YbulkcvzcFmt
open Go.RowKit

/-- 'append(nil, x...)' at bytes, as a step of a region that draws. -/
theorem stepApp (w : World) {ops : Array Oper} {o : Oper} {a : Act} {K : Act → World → Prop} {Q : Exit → Act → World → Prop} {E : Prop} (hgd : o.guard = none) (s x : Operand)
    (ho : o.op = .call { callee := .builtin .append, args := #[s, x], argTypes := #[23, 23] })
    (hs : a.eval s = .slice none 0 0) (ad : Addr) (m c : Nat) (news : List Int) (hx : a.eval x = .slice (some ad) m c) (hl : news.length = m) (hnews : ∀ j, j < m → w.cell? (ad.add j) = some (.int .u8 (news.getD j 0)))
    (hlen : m ≤ 1000) (h : ∀ v' w', Row w' w.heap.size v' news → Since w w' → K (a.put o.dst v') w') :
    if Region.wanted o (yielded ops a.tmps) = true then Oper.wp Ybaf.prog o a w K Q else E := by
  have hw : Region.wanted o (yielded ops a.tmps) = true := by simp [Region.wanted, hgd]
  rw [if_pos hw]
  obtain ⟨i, hi, hz0, hz1, hz2⟩ := info_parts Ybaf.info5
  refine wp_append_own w s x 23 ho w.heap.size 5 i (.int .u8 0) 1 1 Ybaf.underlying23 hi hz0 hz1 hz2 rfl (by omega) (.slice none 0 0) 0 [] hs (World.ownsRow_nil _ _ _ _) ad m c (news.map (Value.int .u8)) hx (by simp [hl]) ?_ (oneU8 _) (by unfold maxLen; omega) (by omega) (Nat.le_refl _) ?_
  · intro j u hu
    have hj : j < news.length := by
      have := (List.getElem?_eq_some_iff.1 hu).1
      simpa using this
    rw [hnews j (by omega), ← hu]
    simp [hj]
  · intro v' w' h1 h2 _
    refine h v' w' ?_ ?_
    · unfold Row
      rw [hl]
      simpa using h1
    · exact Since.of ((Below.refl _ w).grown h2 (Nat.le_refl _) (by intro k hk; cases hk))

set_option maxRecDepth 100000 in
set_option maxHeartbeats 2000000 in
theorem segments_ok (db gb N cap s e : Nat) (o : Int) (l : List Int) (what : ByteArray) (w : World) (hD : w.heap[db]? = some (decO gb N cap none)) (hse : s ≤ e) (heN : e ≤ N) (hN : N ≤ 1000) (hNc : N ≤ cap) (hl : l.length = e - s)
    (hc : ∀ j, j < l.length → w.cell? ⟨gb, s + j, none⟩ = some (.int .u8 (l.getD j 0))) :
    Calls Ybaf.prog 55 #[.pointer (some ⟨db, 0, none⟩), .agg #[.int .u8 129, .int .i64 o, .int .i64 s, .int .i64 e], .slice none 0 0, .string what, .int .i64 0] w fun r w' => ∃ x, r = .returned x ∧ Row w' w.heap.size x l ∧ Since w w' := by
  have hbit : (bits .and .u8 129 32 != 0) = false := by decide
  go_enter Ybaf.func55, Ybaf.ntmps55
  go_wp2_with fail
  refine (constructed_any _ _ _ _ _).mono ?_
  rintro r w1 ⟨rfl, hb'⟩
  have hB := (Since.of hb').new
  have hSw := (Since.of hb').then (Since.of (belowAlloc _ _))
  clear hb'
  rw [hbit]
  have hD1 := hSw.keep hD
  obtain ⟨e0, e1, e2, e3⟩ := elS hB
  go_wp2
  have hcells : ∀ (W' : World) (a : Addr), Since w1 W' → (s < cap → a = ⟨gb, s, none⟩) → ∀ j, j < e - s → W'.cell? (a.add j) = some (.int .u8 (l.getD j 0)) := by
    intro W' a hs ha j hj
    rw [ha (by omega), Addr.add_lit]
    exact hs.cell (hSw.cell (hc j (by omega)))
  have HL : Hid (l.length = e - s) := hl
  clear hl hc
  go_region_held3 (fun w'' => Since w1 w'') (first | exact Since.dr | exact Since.then hb1 (by assumption) | exact Since.then hb2 (by assumption) | exact Since.drew (by assumption)) (first | (go_at_call 54; refine (contents_any db gb N cap s e none 129 o _ (Since.keep (by assumption) hD1) hse heN hN hNc).mono ?_; rintro r1 w2 ⟨⟨ad, rfl, had⟩, hb1⟩) | (refine stepApp _ (by rfl) _ _ (by rfl) (by rfl) ad (e - s) (cap - s) l (by rfl) HL.out (hcells _ _ (by assumption) had) (by omega) ?_; intro v3 w3 hr3 hb2))
  have hS3 : Since w1 w3 := by assumption
  have hle : w.heap.size ≤ w2.heap.size := by
    have h : Since w1 w2 := hb1.then Since.dr
    exact Nat.le_trans hSw.size h.size
  have hr4 := hr3.mono hle
  have hSf := hS3.then hSw
  clear hr3 hS3 hle hb1 hb2
  go_wp2
  go_ret
  exact ⟨_, rfl, hr4, hSf⟩

set_option maxRecDepth 100000 in
set_option maxHeartbeats 2000000 in
theorem octets_ok (db gb N cap s e : Nat) (o : Int) (l : List Int) (what : ByteArray) (w : World) (hD : w.heap[db]? = some (decO gb N cap none)) (hse : s ≤ e) (heN : e ≤ N) (hN : N ≤ 1000) (hNc : N ≤ cap) (hl : l.length = e - s)
    (hc : ∀ j, j < l.length → w.cell? ⟨gb, s + j, none⟩ = some (.int .u8 (l.getD j 0))) :
    Calls Ybaf.prog 40 #[.pointer (some ⟨db, 0, none⟩), .agg #[.int .u8 129, .int .i64 o, .int .i64 s, .int .i64 e], .string what, .int .i64 0, .int .i64 9223372036854775807] w fun r w' => ∃ x, r = .returned x ∧ Row w' w.heap.size x l ∧ Since w w' := by
  have d1 : w.cell? ⟨db, 1, none⟩ = some (.pointer none) := cellOf hD
  have hds := sizeOf_block hD
  have HL : Hid (l.length = e - s) := hl
  clear hl
  go_enter Ybaf.func40, Ybaf.ntmps40
  go_wp2_with fail
  refine (segments_ok db gb N cap s e o l what _ (keepB hD (belowAlloc _ _)) hse heN hN hNc HL.out (fun j hj => cellAlloc' (hc j hj))).mono ?_
  rintro r w1 ⟨x, rfl, hr, hS⟩
  have hSw := hS.then (Since.of (belowAlloc w _))
  have d1 : w1.cell? ⟨db, 1, none⟩ = some (.pointer none) := cellOf (hSw.keep hD)
  have hr' := hr.mono (B' := w.heap.size) (by simp)
  have hform : ∃ a c, x = .slice a l.length c := by
    obtain ⟨_, h | ⟨g, cc, cur, hv, _⟩⟩ := hr
    · exact ⟨none, 0, by rw [h.1, h.2]⟩
    · exact ⟨_, _, hv⟩
  obtain ⟨a, c, hx⟩ := hform
  obtain ⟨n, hn⟩ : ∃ n, n = l.length := ⟨_, rfl⟩
  have hn1 : n ≤ 1000 := by rw [hn, HL.out]; omega
  rw [← hn] at hx
  subst hx
  clear hn hr hS hc
  have t1 : ¬ ((n : Int) < 0) := by omega
  have t2 : ¬ ((9223372036854775807 : Int) < (n : Int)) := by omega
  go_wp2
  go_ret
  exact ⟨_, rfl, hr', hSw⟩
end Go.Proofs.YbulkcvzcFmt
