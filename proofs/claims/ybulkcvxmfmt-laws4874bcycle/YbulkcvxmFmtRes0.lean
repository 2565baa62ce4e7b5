/- resolve (6) at a role that is done, and at one that is open: the cycle. -/
import Derived.Test.YbulkcvxmFmtErr
import Derived.Deep.RegionHeld3
set_option linter.unusedSimpArgs false
set_option linter.unusedVariables false
namespace Go.Proofs.YbulkcvxmFmt
open Go.RowKit

theorem lens_le : ∀ (xs : List ByteArray), (∀ x ∈ xs, x.size ≤ 22) → Lib.lens (xs.map (·.data.toList)) ≤ xs.length * 22
  | [], _ => by simp [Lib.lens]
  | x :: xs, h => by
    have h1 := h x (by simp)
    have h2 := lens_le xs (fun y hy => h y (by simp [hy]))
    have e : x.size = x.data.toList.length := (Array.length_toList).symm
    simp [Lib.lens] at h2 ⊢
    have e2 : x.size = x.data.size := rfl
    omega
theorem join_le (xs : List ByteArray) (hx : xs ≠ []) (h : ∀ x ∈ xs, x.size ≤ 22) (hl : xs.length ≤ 1000) (sep : ByteArray) (hs : sep.data.toList.length = 4) : (Lib.join (xs.map (·.data.toList)) sep.data.toList).length ≤ 140737488355328 := by
  have h1 := lens_le xs h
  cases xs with
  | nil => exact absurd rfl hx
  | cons x r =>
    rw [List.map_cons, Lib.join_length, hs]
    rw [List.map_cons] at h1
    simp at h1 hl ⊢
    omega

set_option maxRecDepth 100000 in
set_option maxHeartbeats 2000000 in
theorem resolve_done (g : Gph) (ok : Gok g) (X : List Nat) (c : Nat → Nat) (R : Nat → Int) (F : Nat → Nat → Value) (pv mv : Value) (i : Nat) (w : World) (hN : Net w g X c R F) (hi : i < g.n) (hc : c i = 2) :
    Calls Ybaf.prog 6 #[.pointer (some ⟨g.rb i, 0, none⟩), mv, pv] w fun r w' => r = .returned .nilIface ∧ w = w' := by
  have r0 := (hN.cells i hi).cell (x := 10) (by omega)
  rw [(hN.role i hi).f10, hc] at r0
  have lr := (hN.cells i hi).lt
  clear hN hc hi ok
  go_enter Ybaf.func6, Ybaf.ntmps6
  go_wp2
  go_ret
  exact ⟨rfl, rfl⟩

theorem st_one (s : ByteArray) : ∀ v ∈ [Value.string s], v.oneCell' = true := by
  intro u hu
  simp at hu
  subst hu
  rfl
theorem info9 : (Ybaf.prog.info? 9).map (fun i => (i.zero, i.size, i.bytes)) = some (some (.string ⟨#[]⟩), 1, 16) := by kernel_rfl
set_option maxRecDepth 100000 in
set_option maxHeartbeats 4000000 in
theorem resolve_back (g : Gph) (ok : Gok g) (X : List Nat) (c : Nat → Nat) (R : Nat → Int) (F : Nat → Nat → Value) (P : List Nat) (pv mv : Value) (i : Nat) (u : TypeId) (ea : Addr) (w : World) (hN : Net w g X c R F) (hi : i < g.n) (hc : c i = 1)
    (hP : RowL w 0 35 1 ptC pv (P.map g.rb)) (hlt : ∀ k ∈ P, k < g.n) (hm : i ∈ P) (hl : P.length ≤ 1000) {T0 : TypeId} (hg : w.heap[0]? = some (.cells #[.iface u (.pointer (some ea))] T0)) :
    Calls Ybaf.prog 6 #[.pointer (some ⟨g.rb i, 0, none⟩), mv, pv] w fun r w' => ∃ v, r = .returned v ∧ Since w w' ∧ Conf w' (.iface u (.pointer (some ea))) v := by
  have r0 := (hN.cells i hi).cell (x := 10) (by omega)
  rw [(hN.role i hi).f10, hc] at r0
  have hRi : ∀ w', Since w w' → w'.cell? ⟨g.rb i, 0, none⟩ = some (.string (codeS i)) := fun w' hs => by
    have := ((hN.cells i hi).since hs).cell (x := 0) (by omega)
    rwa [(hN.role i hi).f0] at this
  have hRk : ∀ k, k < g.n → ∀ w', Since w w' → w'.cell? ⟨g.rb k, 0, none⟩ = some (.string (codeS k)) := fun k hk w' hs => by
    have := ((hN.cells k hk).since hs).cell (x := 0) (by omega)
    rwa [(hN.role k hk).f0] at this
  have lr := (hN.cells i hi).lt
  have hidx := index_any g ok P pv i w hN.blocks hP hlt hi hm hl
  obtain ⟨pa, pcap, rfl, -⟩ := hP.form
  rw [List.length_map] at *
  have hPpos : 0 < P.length := List.length_pos_of_mem hm
  obtain ⟨pb, rfl, -⟩ := hP.at (j := 0) (by simpa using hPpos)
  have hcap := hP.cap
  rw [List.length_map] at hcap
  unfold maxLen at hcap
  obtain ⟨hcap1, hcap2⟩ := hcap
  obtain ⟨i9, hi9, hz9, hs9, hy9⟩ := info_parts info9
  have HRk := Hid.mk hRk
  have HRi := Hid.mk hRi
  have HLT := Hid.mk hlt
  have HG := Hid.mk hg
  have HSZ : Hid (∀ k, k < g.n → (codeS k).size ≤ 22) := ⟨fun k hk => codeS_size k (by have := ok.n3; omega)⟩
  clear hRk hRi hlt hg hN hc hm hPpos ok
  go_enter Ybaf.func6, Ybaf.ntmps6
  go_wp2_with fail
  refine hidx.mono ?_
  rintro r1 w1 ⟨rfl, k, hk, rfl⟩
  clear hidx
  go_wp2_with fail
  go_loopw [7, 31] (fun cv iv wr => ∃ j : Nat, j ≤ P.length - k ∧ iv = .int .i64 j ∧ Since w wr ∧ RowL wr w.heap.size 9 1 strC cv (((P.drop k).take j).map codeS)) (fun _ iv _ => P.length - k - (intOf iv).toNat)
  case atStart => exact ⟨0, Nat.zero_le _, rfl, Since.refl _, RowL.nil _ _ _ _ _⟩
  case round =>
    obtain ⟨j, hj, rfl, hS, hR⟩ := hrel
    have hlen : (((P.drop k).take j).map codeS).length = j := by simp; omega
    by_cases hjl : j < P.length - k
    · obtain ⟨v, hv⟩ : ∃ v, P[k + j]? = some v := ⟨P[k + j]'(by omega), List.getElem?_eq_getElem (by omega)⟩
      have hvn : v < g.n := HLT.out v (List.mem_of_getElem? hv)
      have hq : (P.map g.rb)[k + j]? = some (g.rb v) := by rw [List.getElem?_map, hv]; rfl
      have y0 := ((hP.since hS).cell ptC_len (i := 0) (u := .pointer (some ⟨g.rb v, 0, none⟩)) hq (by omega) rfl (by rw [List.length_map])).1
      simp only [Nat.mul_one, Nat.add_zero] at y0
      have ly := sizeOf_cell y0
      simp only at ly
      have x0 := HRk.out v hvn wr hS
      have lx := sizeOf_cell x0
      simp only at lx
      have HTK : Hid (((P.drop k).take (j + 1)).map codeS = ((P.drop k).take j).map codeS ++ [codeS v]) := ⟨by
        rw [List.take_add_one, List.getElem?_drop, hv]
        simp⟩
      obtain ⟨T, hT⟩ : ∃ T, T = ((P.drop k).take j).map codeS := ⟨_, rfl⟩
      rw [← hT] at hR HTK hlen
      obtain ⟨xa, xcap, rfl, -⟩ := hR.form
      have HTL := Hid.mk hlen
      have hTle : T.length ≤ 1000 := by omega
      have lw1 := hS.size
      clear hv hq hT hlen
      go_wp2_with (first | (at_builtin; refine listApp rfl _ _ 42 rfl w.heap.size 9 i9 _ 1 16 Ybaf.underlying42 hi9 hz9 hs9 hy9 rfl (by decide) (.slice xa T.length xcap) T.length (T.flatMap strC) rfl (RowL.own (hR.since (Since.new _ _))) ⟨wr.heap.size, 0, none⟩ 1 1 [.string (codeS v)] rfl rfl (newsAt (newBlock _ _)) (st_one _) (by unfold maxLen; omega) (by omega) (Nat.le_trans lw1 (Since.new _ _).size) (by omega) ?_; intro g1 cap1 w8 hbg hown hgr hloc))
      have hR8 : RowL w8 w.heap.size 9 1 strC (.slice (some ⟨g1, 0, none⟩) (T.length + 1) cap1) (T ++ [codeS v]) := ⟨by
        rw [List.length_append, List.flatMap_append]
        simpa [strC] using hown⟩
      have hS8 : Since w w8 := ((Since.new _ _).then hS).grown hgr (fun b hb => (hR.base_ge b hb).1)
      clear hown hgr hloc hR hS y0 ly x0 lx lw1
      go_wp2
      go_roundw
      case rel => exact ⟨j + 1, by omega, by go_num, hS8, by rw [HTK.out]; exact hR8⟩
      case measure => simp [intOf]; omega
    · have hjk : j = P.length - k := by omega
      have hxs : (((P.drop k).take j).map codeS) ≠ [] := fun e => by rw [e] at hlen; simp at hlen; omega
      have hall : ∀ x ∈ ((P.drop k).take j).map codeS, x.size ≤ 22 := fun x hx => by
        obtain ⟨v, hv, rfl⟩ := List.mem_map.1 hx
        exact HSZ.out v (HLT.out v (List.mem_of_mem_drop (List.mem_of_mem_take hv)))
      obtain ⟨T, hT⟩ : ∃ T, T = ((P.drop k).take j).map codeS := ⟨_, rfl⟩
      rw [← hT] at hR hlen hxs hall
      obtain ⟨xa, xcap, rfl, -⟩ := hR.form
      obtain ⟨tb, rfl, -⟩ := hR.at (j := 0) (by omega)
      have htc := hR.cap.1
      have hTle : T.length ≤ 1000 := by omega
      have hjl2 := join_le T hxs hall hTle ⟨#[32, 45, 62, 32]⟩ rfl
      have hJ : ∀ w'', Since wr w'' → Calls Ybaf.prog 14 #[.slice (some ⟨tb, 0, none⟩) T.length xcap, .string ⟨#[32, 45, 62, 32]⟩] w'' fun e w' => (∃ s, e = .returned (.string s)) ∧ Since w'' w' := fun w'' hs => by
        have hr'' := hR.since hs
        refine (Ybaf.strings_Join tb 0 xcap T ⟨#[32, 45, 62, 32]⟩ w'' (fun q x hq => ?_) (sizeOf_block (hr''.blocks tb rfl).choose_spec) (by omega) htc hjl2).mono ?_
        · have := (hr''.cell strC_len (i := 0) (u := .string x) hq (by omega) rfl rfl).1
          simpa using this
        · rintro e w' ⟨rfl, hb⟩
          exact ⟨⟨_, rfl⟩, hb⟩
      have x0 : ∀ w'', Since wr w'' → w''.cell? ⟨g.rb i, 0, none⟩ = some (.string (codeS i)) := fun w'' hs => HRi.out w'' (hs.then hS)
      have hG : ∀ w'', Since wr w'' → w''.heap[0]? = some (.cells #[.iface u (.pointer (some ea))] T0) := fun w'' hs => (hs.then hS).keep HG.out
      have h0 := Since.refl wr
      have lx : g.rb i < wr.heap.size := Nat.lt_of_lt_of_le lr hS.size
      have HS := Hid.mk hS
      have HJL : Hid (j = P.length - k) := ⟨hjk⟩
      clear hT hR hS hxs hall hjl2 hlen
      go_wp2_with fail
      go_region_held3 (fun w'' => Since wr w'') (first | exact Since.drew h0 | exact Since.alloc (by assumption) | exact Since.then hc1 (by assumption) | exact Since.then hc2 (by assumption) | exact Since.then hc3 (by assumption) | assumption) (first | (go_at_call 14; refine (hJ _ (by assumption)).mono ?_; rintro r2 w2 ⟨⟨s2, rfl⟩, hc1⟩) | (go_at_call 13; refine (errorf_any s2 (codeS i) _ _ (by simp) (by simp)).mono ?_; rintro r3 w3 ⟨⟨b3, rfl⟩, hc2⟩) | (go_at_call 12; refine (conflict_any _ u _ ea _ (hG _ (by assumption))).mono ?_; rintro r4 w4 ⟨v4, rfl, hc3, hconf⟩))
      have hSf : Since w w4 := Since.then (by assumption) HS.out
      go_wp2
      go_ret
      exact ⟨_, rfl, hSf, hconf⟩
end Go.Proofs.YbulkcvxmFmt
