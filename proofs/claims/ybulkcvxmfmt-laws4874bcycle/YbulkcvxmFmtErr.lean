/- The error of a cycle: slices.Index (11), fmt.Errorf (13, its text left open), conflict (12). -/
import Derived.Test.YbulkcvxmFmtRoles
import Derived.LaidEqlPtr
import Derived.Stop.CallBack
import Derived.Stop.IfaceNil
set_option linter.unusedSimpArgs false
set_option linter.unusedVariables false
namespace Go.Proofs.YbulkcvxmFmt
open Go.RowKit Go.Extern.Stop Go.Stop Go.Extern

/-! ### fmt.Errorf -/
@[go_sem] theorem Ybaf.call21 (args : Array Value) (w : World) : (callFunc 21 args).run Ybaf.prog w = ((FmtStop.errorf #[9, 47] #[34] args).run Ybaf.prog w).andThen fun v w' => .ok (.value v) w' :=
  run_callFunc_extern Ybaf.func21 (by kernel_rfl) (by kernel_rfl) (by kernel_rfl) (by kernel_rfl) args w
@[go_sem] theorem Ybaf.guard (name : String) (w : World) : (FmtStop.guard name).run Ybaf.prog w = .ok () w := by kernel_rfl
@[go_sem] theorem Ybaf.fmt0 : FmtStop.printed? ⟨#[105, 110, 104, 101, 114, 105, 116, 97, 110, 99, 101, 32, 99, 121, 99, 108, 101, 58, 32, 37, 115, 32, 45, 62, 32, 37, 115]⟩ 2 = some [(0, 115, false), (1, 115, false)] := by kernel_rfl
@[go_sem] theorem Ybaf.fmt0r (w : World) : (FmtDoors.printed ⟨#[105, 110, 104, 101, 114, 105, 116, 97, 110, 99, 101, 32, 99, 121, 99, 108, 101, 58, 32, 37, 115, 32, 45, 62, 32, 37, 115]⟩ 2).run Ybaf.prog w = .ok [(0, 115, false), (1, 115, false)] w := by kernel_rfl
def shape9 : List UInt8 := 12 :: FmtStop.pack [115, 116, 114, 105, 110, 103]
@[go_sem] theorem Ybaf.op9_115w (name : String) (s : ByteArray) (w : World) : (FmtStop.operand name true 115 false (.iface 9 (.string s))).run Ybaf.prog w = .ok (shape9, FmtStop.pack s.data.toList) w := by kernel_rfl
@[go_sem] theorem Ybaf.ptr94 (w : World) : (FmtStop.ptrTo "errors.errorString").run Ybaf.prog w = .ok 94 w := by kernel_rfl
@[go_sem] theorem Ybaf.elem94 (w : World) : (elemOf 94).run Ybaf.prog w = .ok 96 w := by kernel_rfl

set_option maxRecDepth 100000 in
set_option maxHeartbeats 1000000 in
theorem errorf_any (s t : ByteArray) (blk : Nat) (w : World) (hc0 : w.cell? ⟨blk, 0, none⟩ = some (.iface 9 (.string s))) (hc1 : w.cell? ⟨blk, 1, none⟩ = some (.iface 9 (.string t))) :
    Calls Ybaf.prog 13 #[.string ⟨#[105, 110, 104, 101, 114, 105, 116, 97, 110, 99, 101, 32, 99, 121, 99, 108, 101, 58, 32, 37, 115, 32, 45, 62, 32, 37, 115]⟩, .slice (some ⟨blk, 0, none⟩) 2 2] w fun r w' =>
      (∃ b, r = .returned (.iface 94 (.pointer (some ⟨b, 0, none⟩)))) ∧ Since w w' := by
  go_enter Ybaf.func13, Ybaf.ntmps13
  go_wp2
  go_ret
  exact ⟨⟨_, rfl⟩, (Since.new w _).drew⟩

/-! ### conflict -/
set_option maxRecDepth 100000 in
set_option maxHeartbeats 1000000 in
theorem conflict_any (t u : TypeId) (a b : Addr) (w : World) {T : TypeId} (hg : w.heap[0]? = some (.cells #[.iface u (.pointer (some b))] T)) :
    Calls Ybaf.prog 12 #[.iface t (.pointer (some a))] w fun r w' => ∃ v, r = .returned v ∧ Since w w' ∧ Conf w' (.iface u (.pointer (some b))) v := by
  have h0 : w.cell? ⟨0, 0, none⟩ = some (.iface u (.pointer (some b))) := cellOf hg
  have l0 := sizeOf_block hg
  clear hg
  go_enter Ybaf.func12, Ybaf.ntmps12
  go_wp2
  go_ret
  exact ⟨_, rfl, Since.new w _, ⟨_, _, rfl, newBlock w _⟩⟩

/-! ### slices.Index -/
theorem info51 : ∃ j, Ybaf.prog.info? 51 = some j ∧ j.size ≠ 0 := by
  have h : (Ybaf.prog.info? 51).map (fun i => i.size == 0) = some false := by kernel_rfl
  cases hi : Ybaf.prog.info? 51 with
  | none => rw [hi] at h; cases h
  | some j =>
    rw [hi] at h
    simp at h
    exact ⟨j, rfl, h⟩
theorem eqPtr {w : World} {g : Gph} (hb : ∀ j, j < g.n → ∃ cs, w.heap[g.rb j]? = some (.cells cs 51)) (ok : Gok g) {i v : Nat} (hi : i < g.n) (hv : v < g.n) :
    (binOp .eql 35 (.pointer (some ⟨g.rb i, 0, none⟩)) (.pointer (some ⟨g.rb v, 0, none⟩))).run Ybaf.prog w = .ok (.bool (decide (i = v))) w := by
  obtain ⟨j, h1, h2⟩ := info51
  by_cases e : i = v
  · subst e
    rw [run_eql_ptr_same w _ Ybaf.underlying35 h1]
    simp
  · obtain ⟨cs, h3⟩ := hb i hi
    obtain ⟨cs', h4⟩ := hb v hv
    rw [run_eql_ptr_other w Ybaf.underlying35 h1 h2 (fun e' => e (ok.inj i v hi hv (by simpa using e'))) h3 h4]
    simp [e]

set_option maxRecDepth 100000 in
set_option maxHeartbeats 1000000 in
theorem index_any (g : Gph) (ok : Gok g) (P : List Nat) (pv : Value) (i : Nat) (w : World) (hb : ∀ j, j < g.n → ∃ cs, w.heap[g.rb j]? = some (.cells cs 51)) (hP : RowL w 0 35 1 ptC pv (P.map g.rb)) (hlt : ∀ k ∈ P, k < g.n) (hi : i < g.n) (hm : i ∈ P) (hl : P.length ≤ 1000) :
    Calls Ybaf.prog 11 #[pv, .pointer (some ⟨g.rb i, 0, none⟩)] w fun r w' => w = w' ∧ ∃ k : Nat, k < P.length ∧ r = .returned (.int .i64 k) := by
  have HM := Hid.mk hm
  have HB := Hid.mk hb
  have HLT := Hid.mk hlt
  clear hm hb hlt
  obtain ⟨pa, pcap, rfl, -⟩ := hP.form
  rw [List.length_map] at *
  go_enter Ybaf.func11, Ybaf.ntmps11
  go_wp2_with fail
  go_loop [8] (fun iv => ∃ j : Nat, j ≤ P.length ∧ iv = .int .i64 j ∧ i ∉ P.take j) (fun iv => P.length - (intOf iv).toNat)
  case atStart => exact ⟨0, Nat.zero_le _, rfl, by simp⟩
  case round =>
    obtain ⟨j, hj, rfl, hno⟩ := hrel
    have HNO := Hid.mk hno
    clear hno
    by_cases hjl : j < P.length
    · obtain ⟨b, rfl, -⟩ := hP.at (j := j) (by simpa using hjl)
      obtain ⟨v, hv⟩ : ∃ v, P[j]? = some v := ⟨P[j], List.getElem?_eq_getElem hjl⟩
      have hvm : v ∈ P := List.mem_of_getElem? hv
      have hq : (P.map g.rb)[j]? = some (g.rb v) := by rw [List.getElem?_map, hv]; rfl
      have r0 := (hP.cell ptC_len (i := 0) (u := .pointer (some ⟨g.rb v, 0, none⟩)) hq (by omega) rfl (by rw [List.length_map])).1
      simp only [Nat.mul_one, Nat.add_zero] at r0
      have lr := sizeOf_cell r0
      simp only at lr
      have heq := eqPtr HB.out ok hi (HLT.out v hvm)
      have HV := Hid.mk hv
      by_cases e : i = v
      · rw [decide_eq_true e] at heq
        clear hv hq hvm e
        go_wp2
        go_ret
        exact ⟨rfl, j, hjl, rfl⟩
      · have HE := Hid.mk e
        rw [decide_eq_false e] at heq
        clear hv hq hvm e
        go_wp2
        go_round
        case rel => exact ⟨j + 1, by omega, by go_num, by
          rw [List.take_add_one, HV.out]
          simp only [Option.toList_some, List.mem_append, List.mem_singleton, not_or]
          exact ⟨HNO.out, HE.out⟩⟩
        case measure => simp [intOf]; omega
    · exfalso
      have := HNO.out
      rw [List.take_of_length_le (by omega)] at this
      exact this HM.out
end Go.Proofs.YbulkcvxmFmt
