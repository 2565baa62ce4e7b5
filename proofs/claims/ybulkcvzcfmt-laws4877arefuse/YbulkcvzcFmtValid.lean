import Derived.Test.YbulkcvzcFmtEd1

set_option linter.unusedSimpArgs false
set_option linter.unusedVariables false
namespace Go.Proofs.YbulkcvzcFmt
open Go.RowKit

/-- The code's octets: p redundant zeros, then the number. -/
def octs (p : Nat) (v : Int) : List Int := List.replicate p 0 ++ encI v

theorem octs_facts (p : Nat) (v : Int) (hp : p ≤ 2) (h0 : 0 ≤ v) (h1 : v < 65536) :
    1 ≤ (octs p v).length ∧ (octs p v).length ≤ 20 ∧ (∀ x ∈ octs p v, 0 ≤ x ∧ x < 256) ∧ (octs p v).getD 0 0 < 128 ∧ strip (octs p v) = encI v ∧ (strip (octs p v)).length ≤ 3 ∧ val (strip (octs p v)) = v := by
  obtain ⟨x, r, hx, x0, x1⟩ := enc_head v h0 h1
  obtain ⟨hs, hv⟩ := strip_enc v h0 h1
  have hl := encI_len v
  have hb := encI_byte v h0 h1
  have key : ∀ q : Nat, q ≤ 2 → strip (octs q v) = encI v ∧ ∃ y r', octs q v = y :: r' ∧ 0 ≤ y ∧ y < 128 := by
    intro q
    induction q with
    | zero => intro _; exact ⟨hs, x, r, by simpa [octs] using hx, x0, x1⟩
    | succ q ih =>
      intro hq
      obtain ⟨i1, y, r', i2, i3, i4⟩ := ih (by omega)
      have e : octs (q + 1) v = 0 :: octs q v := by simp [octs, List.replicate_succ]
      refine ⟨by rw [e, strip_zero _ y r' i2 i4, i1], 0, octs q v, e, by omega, by omega⟩
  obtain ⟨k1, y, r', k2, k3, k4⟩ := key p hp
  refine ⟨by simp [octs]; omega, by simp [octs]; omega, ?_, by rw [k2]; exact k4, k1, by rw [k1]; exact hl.2, by rw [k1]; exact hv⟩
  intro z hz
  simp only [octs, List.mem_append, List.mem_replicate] at hz
  rcases hz with ⟨_, rfl⟩ | hz
  · omega
  · exact hb z hz

theorem apad (g n cap B p : Nat) (v : Int) (w : World) (hp : p ≤ 2) (hr : Row w B (.slice (some ⟨g, 0, none⟩) n cap) (encI v)) :
    Calls Ybaf.prog 8 #[.slice (some ⟨g, 0, none⟩) n cap, .int .i64 p] w fun e w' => ∃ x, e = .returned x ∧ Row w' w.heap.size x (octs p v) ∧ Below w.heap.size w w' := by
  have hl := encI_len v
  match p, hp with
  | 0, _ => exact apad0 g n cap B (encI v) w hr (by omega)
  | 1, _ => exact apad1 g n cap B (encI v) w hr (by omega)
  | 2, _ => exact apad2 g n cap B (encI v) w hr (by omega)

theorem gSince {x y z : World} {k : Nat} (h : Since x y) (h' : y.grownBy z (some k)) (hk : x.heap.size ≤ k) : Since x z :=
  Below.grown h h' h.size (by intro j hj; cases hj; exact hk)
theorem txt_len (asc : Bool) (l : List Int) : (txt asc l).length ≤ 100 := by simp [txt]; omega
theorem txt_asc (l : List Int) : ∀ x ∈ txt true l, 0 ≤ x ∧ x < 128 := by
  intro x hx
  simp only [txt, List.mem_map] at hx
  obtain ⟨y, _, rfl⟩ := hx
  simp
  omega

set_option maxRecDepth 100000 in
set_option maxHeartbeats 4000000 in
theorem valid_small (a : Option Addr) (len cap : Nat) (zs : List Int) (code pad : Int) (wt : Bool) (w : World) (hl : len ≤ 1024) (ha : IsRow w a len cap zs) (c0 : 0 ≤ code) (c1 : code < 65536) (p0 : 0 ≤ pad) (p1 : pad < 256) :
    Calls Ybaf.prog 3 #[.int .u16 code, .int .u8 pad, .slice a len cap, .bool wt] w fun r w' => r = .returned (.bool true) ∧ Since w w' := by
  obtain ⟨p, hp⟩ : ∃ p : Nat, (p : Int) = pad % 3 := ⟨(pad % 3).toNat, by omega⟩
  have hp2 : p ≤ 2 := by omega
  go_enter Ybaf.func3, Ybaf.ntmps3
  go_wp2_with fail
  refine (atext a len cap true zs _ hl ha).mono ?_
  rintro r w1 ⟨gt, ct, rfl, hrt, hb1⟩
  have hS1 := Since.of hb1
  clear hb1 ha
  obtain ⟨T, HT⟩ : ∃ T, Hid (txt true (zs.take len) = T) := ⟨_, rfl⟩
  have hT1 := txt_len true (zs.take len)
  have hT2 := txt_asc (zs.take len)
  rw [HT.out] at hrt hT1 hT2 ⊢
  go_wp2_with fail
  refine (aint (code % 10000) _ (by omega) (by omega)).mono ?_
  rintro r w2 ⟨x, rfl, hr2, hb2⟩
  have hS2 := (Since.of hb2)
  obtain ⟨g2, c2, hv, _⟩ := hr2.form (by have := encI_len (code % 10000); intro h; rw [h] at this; simp at this)
  subst hv
  clear hb2
  go_wp2_with fail
  rw [← hp]
  refine (apad g2 _ c2 _ p (code % 10000) _ hp2 hr2).mono ?_
  rintro r w3 ⟨x, rfl, hr3, hb3⟩
  have hS3 := Since.of hb3
  obtain ⟨o1, o2, o3, o4, o5, o6, o7⟩ := octs_facts p (code % 10000) hp2 (by omega) (by omega)
  obtain ⟨cb, HC⟩ : ∃ cb, Hid (octs p (code % 10000) = cb) := ⟨_, rfl⟩
  rw [HC.out] at hr3 o1 o2 o3 o4 o5 o6 o7
  obtain ⟨g3, c3, hv, _⟩ := hr3.form (by intro h; rw [h] at o1; simp at o1)
  subst hv
  have hrt3 := (hrt.keep hS2).keep hS3
  have hSw3 := hS3.then (hS2.then hS1)
  clear hb3 hr2 hrt hS1 hS2 hS3 hp
  have HO7 : Hid (val (strip cb) = code % 10000) := o7
  clear o5 o7
  go_wp2_with fail
  refine (amsg g3 c3 gt ct _ _ cb T wt _ hr3 hrt3 o2 hT1).mono ?_
  rintro r w4 ⟨g4, c4, rfl, hr4, hb4⟩
  have hS4 := Since.of hb4
  have hL := lay_msg cb T wt o2 hT1
  obtain ⟨M, HM⟩ : ∃ M, Hid (msg cb T wt = M) := ⟨_, rfl⟩
  rw [HM.out] at hr4 hL ⊢
  obtain ⟨N, HN⟩ : ∃ N, Hid (M.length = N) := ⟨_, rfl⟩
  obtain ⟨_, g4', hg4, hBg, hgs4, hlc4, hcm4, hcell4, _⟩ := hr4.formS
  cases hg4
  rw [HN.out] at hL hlc4 hcell4 hr4 ⊢
  have hrt4 := hrt3.keep hS4
  have hSw4 := hS4.then hSw3
  have hr4s : w3.heap.size ≤ g4 := hBg
  clear hb4 hrt3 hr3 hS4 hSw3 hBg hr4 hcm4
  have hconv := fun W (h : Since w4 W) => conv_row (hrt4.keep h)
  go_wp2_with fail
  have hD5 : ((w4.alloc (.cells #[.int .u8 48, .int .i64 0, .int .i64 2, .int .i64 N] 29)).alloc (.cells #[.slice (some ⟨g4, 0, none⟩) N c4, .pointer none, .slice none 0 0, .slice none 0 0] 40)).heap[w4.heap.size + 1]? = some (decO g4 N c4 none) := by
    have := newBlock (w4.alloc (.cells #[.int .u8 48, .int .i64 0, .int .i64 2, .int .i64 N] 29)) (.cells #[.slice (some ⟨g4, 0, none⟩) N c4, .pointer none, .slice none 0 0, .slice none 0 0] 40)
    rw [show (w4.alloc (.cells #[.int .u8 48, .int .i64 0, .int .i64 2, .int .i64 N] 29)).heap.size = w4.heap.size + 1 by simp] at this
    exact this
  have hS5 : Since w4 ((w4.alloc (.cells #[.int .u8 48, .int .i64 0, .int .i64 2, .int .i64 N] 29)).alloc (.cells #[.slice (some ⟨g4, 0, none⟩) N c4, .pointer none, .slice none 0 0, .slice none 0 0] 40)) := Since.alloc (Since.of (belowAlloc _ _))
  generalize hW5 : World.alloc _ (.cells #[.slice (some ⟨g4, 0, none⟩) N c4, .pointer none, .slice none 0 0, .slice none 0 0] 40) = w5 at hD5 hS5 ⊢
  obtain ⟨db, hdb⟩ : ∃ db, db = w4.heap.size + 1 := ⟨_, rfl⟩
  rw [← hdb] at hD5 ⊢
  have hdb4 : w4.heap.size ≤ db := by omega
  clear hW5 hdb
  refine (ed_ok db g4 N c4 M cb T wt _ hD5 (fun j hj => hS5.cell (hcell4 j hj)) hlc4 (by omega) hL o1 o2 hT1 o3 o4 o6 (fun _ => hT2) (by rw [HO7.out]; omega) (by rw [HO7.out]; omega)).mono ?_
  rintro r w6 ⟨eb, rfl, hE6, hD6, hg6⟩
  have hS6 := gSince hS5 hg6 hdb4
  have hcv := hconv _ hS6
  have hSf := hS6.then hSw4
  rw [HO7.out] at hE6
  have e0 : w6.cell? ⟨eb, 0, none⟩ = some (.int .i64 (code % 10000)) := cellOf hE6
  have e1 : w6.cell? ⟨eb, 1, none⟩ = some (.string (if wt then mkStr T else ByteArray.empty)) := cellOf hE6
  have d1 : w6.cell? ⟨db, 1, none⟩ = some (.pointer none) := cellOf hD6
  clear hE6 hD6 hg6 hS6 hconv hD5 hS5 hcell4 hL hrt4 hSw4
  cases wt
  · go_wp2
    go_ret
    exact ⟨rfl, hSf⟩
  · obtain ⟨S, HSS⟩ : ∃ S, Hid (mkStr T = S) := ⟨_, rfl⟩
    rw [HSS.out] at hcv e1
    go_wp2
    go_ret
    exact ⟨rfl, hSf⟩

set_option maxRecDepth 100000 in
set_option maxHeartbeats 400000 in
theorem valid_big (a : Option Addr) (len cap : Nat) (code pad : Int) (wt : Bool) (w : World) (hl : 1024 < len) (hm : len ≤ maxLen) :
    Calls Ybaf.prog 3 #[.int .u16 code, .int .u8 pad, .slice a len cap, .bool wt] w fun r w' => r = .returned (.bool true) ∧ Since w w' := by
  unfold maxLen at hm
  have h : (1024 : Int) < (len : Int) := by omega
  go_enter Ybaf.func3, Ybaf.ntmps3
  go_wp2
  go_ret
  exact ⟨rfl, Since.refl _⟩

theorem valid (a : Option Addr) (len cap : Nat) (zs : List Int) (code pad : Int) (wt : Bool) (w : World) (ha : IsRow w a len cap zs) (c0 : 0 ≤ code) (c1 : code < 65536) (p0 : 0 ≤ pad) (p1 : pad < 256) :
    Calls Ybaf.prog 3 #[.int .u16 code, .int .u8 pad, .slice a len cap, .bool wt] w fun r w' => r = .returned (.bool true) ∧ Since w w' := by
  by_cases hl : len ≤ 1024
  · exact valid_small a len cap zs code pad wt w hl ha c0 c1 p0 p1
  · refine valid_big a len cap code pad wt w (by omega) ?_
    rcases ha with ⟨rfl, rfl, rfl, rfl⟩ | ⟨x, rfl, hlc, hcm, _⟩
    · exact Nat.zero_le _
    · omega
end Go.Proofs.YbulkcvzcFmt
