/- The edges (4). -/
import Derived.Test.YbulkcvxmGreatFmtReach
set_option linter.unusedSimpArgs false
set_option linter.unusedVariables false
namespace Go.Proofs.YbulkcvxmGreatFmt
open Go.RowKit

/-- A slice of whole numbers that came in. -/
structure SlIn (q : IntKind) (lo hi : Int) (w : World) (v : Value) (l : List Int) : Prop where
  ex : ∃ a cap, v = .slice a l.length cap ∧ l.length ≤ cap ∧ cap ≤ maxLen ∧ (l = [] ∨ ∃ b off, a = some ⟨b, off, none⟩ ∧ ∀ j x, l[j]? = some x → w.cell? ⟨b, off + j, none⟩ = some (.int q x) ∧ lo ≤ x ∧ x ≤ hi)
theorem SlIn.since {q : IntKind} {lo hi : Int} {w w' : World} {v : Value} {l : List Int} (h : SlIn q lo hi w v l) (hs : Since w w') : SlIn q lo hi w' v l := by
  obtain ⟨a, cap, h1, h2, h3, h4⟩ := h.ex
  refine ⟨a, cap, h1, h2, h3, ?_⟩
  rcases h4 with h4 | ⟨b, off, h5, h6⟩
  · exact .inl h4
  · exact .inr ⟨b, off, h5, fun j x hx => ⟨hs.cell (h6 j x hx).1, (h6 j x hx).2⟩⟩
/-- One role as it came in. -/
structure Rin where
  iv : Value
  gv : Value
  inh : List Int
  gr : List Int
  rank : Int
structure RoleIn (w : World) (b o : Nat) (r : Rin) : Prop where
  c0 : w.cell? ⟨b, o, none⟩ = some r.iv
  c1 : w.cell? ⟨b, o + 1, none⟩ = some r.gv
  c2 : w.cell? ⟨b, o + 2, none⟩ = some (.int .i64 r.rank)
  s0 : SlIn .u16 0 65535 w r.iv r.inh
  s1 : SlIn .u8 0 255 w r.gv r.gr
  r0 : -9223372036854775808 ≤ r.rank
  r1 : r.rank ≤ 9223372036854775807
theorem RoleIn.since {w w' : World} {b o : Nat} {r : Rin} (h : RoleIn w b o r) (hs : Since w w') : RoleIn w' b o r :=
  ⟨hs.cell h.c0, hs.cell h.c1, hs.cell h.c2, h.s0.since hs, h.s1.since hs, h.r0, h.r1⟩
/-- The roles as they came in. -/
structure Ins (w : World) (a : Option Addr) (n cap : Nat) (I : Nat → Rin) : Prop where
  nc : n ≤ cap
  cm : cap ≤ maxLen
  at' : n = 0 ∨ ∃ b off, a = some ⟨b, off, none⟩ ∧ ∀ i, i < n → RoleIn w b (off + i * 3) (I i)
theorem Ins.since {w w' : World} {a : Option Addr} {n cap : Nat} {I : Nat → Rin} (h : Ins w a n cap I) (hs : Since w w') : Ins w' a n cap I :=
  ⟨h.nc, h.cm, by
    rcases h.at' with h1 | ⟨b, off, h1, h2⟩
    · exact .inl h1
    · exact .inr ⟨b, off, h1, fun i hi => (h2 i hi).since hs⟩⟩
/-- The edges that the law draws. -/
def edgesOf (I : Nat → Rin) (i : Nat) : List Nat := if i = 0 then [] else (I i).inh.map fun x => (x % (i : Int)).toNat
theorem edges_lt {I : Nat → Rin} {i v : Nat} (h : v ∈ edgesOf I i) : v < i := by
  unfold edgesOf at h
  split at h
  · simp at h
  · simp only [List.mem_map] at h
    obtain ⟨x, _, rfl⟩ := h
    have := Int.emod_lt_of_pos x (b := (i : Int)) (by omega)
    have := Int.emod_nonneg x (b := (i : Int)) (by omega)
    omega

theorem Ybaz.info56 : (Ybaz.prog.info? 69).map (fun i => (i.zero, i.size, i.bytes)) = some (some (.slice none 0 0), 1, 24) := by kernel_rfl

/-- The rows of the nodes below i are laid. -/
structure Eb (w : World) (eb n i : Nat) (ES : Nat → Value) (E : Nat → List Nat) : Prop where
  row : Cells w eb 69 n (fun x => if x < i then ES x else .slice none 0 0)
  each : ∀ x, x < i → RowL w 0 3 1 orC (ES x) (E x)
set_option maxRecDepth 100000 in
set_option maxHeartbeats 4000000 in
theorem edges_any (I : Nat → Rin) (a : Option Addr) (n cap : Nat) (w : World) (hI : Ins w a n cap I) (hn : n ≤ 300) (hinh : ∀ i, i < n → (I i).inh.length ≤ 1024) :
    Calls Ybaz.prog 4 #[.slice a n cap, .bool true] w fun r w' => Since w w' ∧ ∃ eb, r = .returned (.slice (some ⟨eb, 0, none⟩) n n) ∧ w.heap.size ≤ eb ∧ Ed w' eb n (edgesOf I) := by
  obtain ⟨i56, hi56, hz56, hs56, hy56⟩ := info_parts Ybaz.info56
  obtain ⟨i3, hi3, hz3, hs3, hy3⟩ := info_parts Ybaz.info3
  go_enter Ybaz.func4, Ybaz.ntmps4
  go_wp2_with (first | (at_make; refine mkN _ rfl _ _ 38 rfl 69 i56 _ Ybaz.underlying38 hi56 hz56 n rfl rfl (by rw [hy56]; omega) (by omega) ?_; rw [hs56]))
  have hcc : (Value.slice none 0 0).cells = #[Value.slice none 0 0] := rfl
  have hC0 := Cells.made w 69 n (.slice none 0 0) rfl
  have hS0 := Since.new w (.cells (madeCells #[Value.slice none 0 0] n) 69)
  rw [hcc] at hC0
  obtain ⟨eb, heb⟩ : ∃ eb, eb = w.heap.size := ⟨_, rfl⟩
  have hel : w.heap.size ≤ eb := by omega
  rw [← heb] at hC0 ⊢
  generalize hW : w.alloc (.cells (madeCells #[Value.slice none 0 0] n) 69) = W at *
  clear hW heb
  go_loopw [7] (fun iv wr => ∃ (i : Nat) (ES : Nat → Value), i ≤ n ∧ iv = .int .i64 i ∧ Since w wr ∧ Eb wr eb n i ES (edgesOf I)) (fun iv _ => n - (intOf iv).toNat)
  case atStart => exact ⟨0, fun _ => .slice none 0 0, Nat.zero_le _, rfl, hS0, hC0.congr (fun x hx => by rw [if_neg (Nat.not_lt_zero _)]), fun x hx => absurd hx (Nat.not_lt_zero _)⟩
  case round =>
    clear hS0 hC0
    obtain ⟨i, ES, hi, rfl, hS, hEb⟩ := hrel
    by_cases hlt : i < n
    · by_cases hz : i = 0
      · subst hz
        go_wp2
        go_roundw
        case rel => exact ⟨1, upd ES 0 (.slice none 0 0), by omega, by go_num, hS, hEb.row.congr (fun x hx => by
          by_cases e : x = 0
          · subst e; rw [if_pos (by omega), upd_same, if_neg (by omega)]
          · rw [if_neg (by omega), if_neg (by omega)]), fun x hx => by
          obtain rfl : x = 0 := by omega
          rw [upd_same]
          exact RowL.nil _ _ _ _ _⟩
        case measure => simp [intOf]; omega
      rcases hI.at' with e | ⟨b, off, rfl, hroles⟩
      · omega
      · have hR := (hroles i hlt).since hS
        have x0 := hR.c0
        obtain ⟨va, vcap, hiv, hvc, hvm, hvx⟩ := (hroles i hlt).s0.ex
        rw [hiv] at x0
        have lx := sizeOf_cell x0
        simp only at lx
        have hil := hinh i hlt
        have hcm := hI.cm
        have hnc := hI.nc
        unfold maxLen at hcm hvm
        obtain ⟨L, hL⟩ : ∃ L, L = (I i).inh := ⟨_, rfl⟩
        have HL := Hid.mk hL
        rw [← hL] at x0 hvc hvx hil
        have hEw := hEb.row.cell hlt
        rw [if_neg (Nat.lt_irrefl i)] at hEw
        clear hiv hL hR
        go_wp2_with fail
        obtain ⟨W1, rfl⟩ : ∃ W1, W1 = wr := ⟨_, rfl⟩
        go_loopw [31] (fun iv w2 => ∃ (j : Nat) (v : Value), j ≤ L.length ∧ iv = .int .i64 j ∧ Since w w2 ∧ But eb W1 w2 ∧ Cells w2 eb 69 n (fun x => if x < i then ES x else if x = i then v else .slice none 0 0) ∧ RowL w2 W1.heap.size 3 1 orC v ((L.take j).map fun x => (x % (i : Int)).toNat)) (fun iv _ => L.length - (intOf iv).toNat)
        case atStart => exact ⟨0, .slice none 0 0, Nat.zero_le _, rfl, hS, But.refl _ _, hEb.row.congr (fun x hx => by
          by_cases e : x < i
          · rw [if_pos e, if_pos e]
          · rw [if_neg e, if_neg e]; split <;> rfl), RowL.nil _ _ _ _ _⟩
        case round =>
          clear hEw
          obtain ⟨j, v, hj, rfl, hS2, hB2, hC2, hR2⟩ := hrel
          have lc := hC2.lt
          have k0 := hC2.cell hlt
          rw [if_neg (Nat.lt_irrefl i), if_pos rfl] at k0
          have kz := hC2.frozen i
          by_cases hjl : j < L.length
          · rcases hvx with e | ⟨b2, off2, rfl, hcell⟩
            · rw [e] at hjl; simp at hjl
            · obtain ⟨x, hx⟩ : ∃ x, L[j]? = some x := ⟨L[j], List.getElem?_eq_getElem hjl⟩
              obtain ⟨y0, zl, zh⟩ := hcell j x hx
              have y1 := hS2.cell y0
              have ly := sizeOf_cell y1
              simp only at ly
              obtain ⟨u', hu'⟩ : ∃ u' : Nat, x % (n : Int) = (u' : Int) := ⟨(x % (n : Int)).toNat, by have := Int.emod_nonneg x (b := (n : Int)) (by omega); omega⟩
              obtain ⟨u, hu⟩ : ∃ u : Nat, x % (i : Int) = (u : Int) := ⟨(x % (i : Int)).toNat, by have := Int.emod_nonneg x (b := (i : Int)) (by omega); omega⟩
              have hun : u < i := by have := Int.emod_lt_of_pos x (b := (i : Int)) (by omega); omega
              have HTK : Hid ((L.take (j + 1)).map (fun x => (x % (i : Int)).toNat) = (L.take j).map (fun x => (x % (i : Int)).toNat) ++ [u]) := ⟨by
                obtain ⟨hjj, ev⟩ := List.getElem?_eq_some_iff.1 hx
                rw [List.take_succ_eq_append_getElem hjj, List.map_append, ev]
                simp [hu]⟩
              obtain ⟨T, hT⟩ : ∃ T, T = (L.take j).map (fun x => (x % (i : Int)).toNat) := ⟨_, rfl⟩
              have hTl : T.length = j := by rw [hT]; simp; omega
              have HTL := Hid.mk hTl
              rw [← hT] at hR2 HTK
              obtain ⟨xa, xcap, rfl, _⟩ := hR2.form
              have lw1 := hB2.size
              have hTle : T.length ≤ 1024 := by omega
              clear hx y0 hcell hT hTl
              go_wp2_with (first | (at_builtin; refine listApp rfl _ _ 69 rfl W1.heap.size 3 i3 _ 1 8 Ybaz.underlying69 hi3 hz3 hs3 hy3 rfl (by decide) (.slice xa T.length xcap) T.length (T.flatMap orC) rfl (RowL.own (hR2.since (Since.new _ _))) ⟨wr.heap.size, 0, none⟩ 1 1 [.int .i64 u] rfl rfl (newsAt (newBlock _ _)) (or_one _) (by unfold maxLen; omega) (by omega) (Nat.le_trans lw1 (Since.new _ _).size) (by omega) ?_; intro g1 cap1 w8 hbg hown hgr hloc; have hC8 := (hC2.since (Since.new _ _)).kx (Kx.app (Ts := [3]) (Ms := []) hgr (hR2.since (Since.new _ _)) (by simp)) (by simp); have c8 := hC8.cell hlt; have z8 := hC8.frozen i; have l8 := hC8.lt))
              have hR8 : RowL w8 W1.heap.size 3 1 orC (.slice (some ⟨g1, 0, none⟩) (T.length + 1) cap1) (T ++ [u]) := ⟨by
                rw [List.length_append, List.flatMap_append]
                simpa [orC] using hown⟩
              have hR9 := hR8.keep (w' := w8.setCell ⟨eb, i, none⟩ (.slice (some ⟨g1, 0, none⟩) (T.length + 1) cap1)) (fun gg cs _ hgg => by
                rw [setFar (fun e => ?_)]
                · exact hgg
                · obtain ⟨cs', e1, _⟩ := hC8.ex
                  rw [← e, hgg] at e1; simp at e1)
              have hS9 : Since w (w8.setCell ⟨eb, i, none⟩ (.slice (some ⟨g1, 0, none⟩) (T.length + 1) cap1)) := (((Since.new _ _).then hS2).grown hgr (fun b hb => Nat.le_trans hS.size (hR2.base_ge b hb).1)).set hel
              have hB9 : But eb W1 (w8.setCell ⟨eb, i, none⟩ (.slice (some ⟨g1, 0, none⟩) (T.length + 1) cap1)) := by
                refine But.trans (w' := w8) ⟨hgr.os.trans hB2.os, hgr.tape.trans hB2.tape, hgr.output.trans hB2.output, Nat.le_trans hB2.size (Nat.le_trans (Since.new wr _).size hgr.size), fun k hk hne => ?_⟩ (But.set _ _ _ _)
                have hk2 : k < wr.heap.size := Nat.lt_of_lt_of_le hk hB2.size
                rw [hgr.block k (Nat.lt_of_lt_of_le hk2 (Since.new wr _).size) (fun e => by have := (hR2.base_ge k e.symm).1; omega), (Since.new wr _).out.block k hk2]
                exact hB2.block k hk hne
              have hC9 := hC8.set hlt (.slice (some ⟨g1, 0, none⟩) (T.length + 1) cap1)
              clear hown hgr hloc hC2 hS2 hB2 hR2 hR8 hC8 c8 z8 l8 k0 kz lc y1 ly hbg
              go_wp2
              go_roundw
              case rel => exact ⟨_, _, _, ⟨j + 1, by omega, rfl, hS9, hB9, .slice (some ⟨g1, 0, none⟩) (T.length + 1) cap1, hC9.congr (fun x hx => by
                by_cases e : x = i
                · subst e; rw [upd_same, if_neg (Nat.lt_irrefl x), if_pos rfl]
                · rw [upd_ne _ _ e]
                  by_cases e2 : x < i
                  · rw [if_pos e2, if_pos e2]
                  · rw [if_neg e2, if_neg e2, if_neg e, if_neg e]), by rw [← List.map_take, HTK.out]; simpa using hR9⟩, rfl, rfl, by simp⟩
              case measure => simp [intOf]; omega
          · have hjl2 : j = L.length := by omega
            have hR3 := hR2
            rw [hjl2, List.take_length, HL.out] at hR3
            have hR3 : RowL wr W1.heap.size 3 1 orC v (edgesOf I i) := by unfold edgesOf; rw [if_neg hz]; exact hR3
            have HR3 := Hid.mk hR3
            clear hR3 hR2
            go_wp2
            go_roundw
            case rel => exact ⟨i + 1, upd ES i v, by omega, by go_num, hS2, hC2.congr (fun x hx => by
              by_cases e : x = i
              · subst e; rw [if_pos (by omega), upd_same, if_neg (Nat.lt_irrefl x), if_pos rfl]
              · by_cases e2 : x < i
                · rw [if_pos (by omega), upd_ne _ _ e, if_pos e2]
                · rw [if_neg (by omega), if_neg e2, if_neg e]), fun x hx => by
              by_cases e : x = i
              · subst e; rw [upd_same]; exact HR3.out.lower (Nat.zero_le _)
              · rw [upd_ne _ _ e]
                exact (hEb.each x (by omega)).keep (fun g cs _ hg => hB2.keep hg (fun e' => by
                  obtain ⟨cs', e1, _⟩ := hEb.row.ex
                  rw [e', e1] at hg; simp at hg))⟩
            case measure => simp [intOf]; omega
    · have hin : i = n := by omega
      subst hin
      go_wp2
      go_ret
      exact ⟨hS, eb, rfl, hel, ⟨⟨ES, hEb.row.congr (fun x hx => by rw [if_pos hx]), hEb.each⟩, fun k hk v hv => by have := edges_lt hv; omega, fun k hk => by
        unfold edgesOf
        split
        · simp
        · rw [List.length_map]; exact hinh k hk, hn⟩⟩
end Go.Proofs.YbulkcvxmGreatFmt
