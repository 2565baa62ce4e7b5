import Derived.Test.YbulkcwasCpop
import Derived.Laws.OwnMore
set_option linter.unusedSimpArgs false
set_option linter.unusedVariables false
namespace Go.Proofs.Ybulkcwas
open Go.RowKit

/-- 'make([]T, n)', n small. -/
theorem mkN (w : World) {ops : Array Oper} {rest : List Oper} {o : Oper} {a : Act} {Q : Exit → Act → World → Prop} (hgd : o.guard = none) (l c : Operand) (t : TypeId) (ho : o.op = Op.makeSlice t l c)
    (e : TypeId) (i : TypeInfo) (z : Value) (ht : Yba.prog.underlying t = some (.slice e)) (hi : Yba.prog.info? e = some i) (hz : i.zero = some z) (n : Nat) (hl : a.eval l = .int .i64 n) (hc : a.eval c = .int .i64 n) (hb : i.bytes ≤ 100) (hn : n ≤ 16)
    (h : wpList Yba.prog ops Q rest (a.put o.dst (.slice (some ⟨w.heap.size, 0, none⟩) n n)) (w.alloc (.cells (madeCells z.cells (n * i.size)) e))) : wpList Yba.prog ops Q (o :: rest) a w := by
  refine wpList_plain hgd fun K hK' => ?_
  have hb' : (i.bytes : Int) * (n : Int) ≤ 281474976710656 := by
    have h1 : i.bytes * n ≤ 100 * 16 := Nat.mul_le_mul hb hn
    have h : ((i.bytes * n : Nat) : Int) ≤ 281474976710656 := by omega
    rwa [Int.natCast_mul] at h
  have hr := run_make (P := Yba.prog) w t e i z ht hi hz .i64 .i64 n n (by omega) (Int.le_refl _) hb' (by omega)
  simp only [Int.toNat_natCast] at hr
  unfold Oper.wp
  simp [execOp, ho, hl, hc, hr, Result.andThen]
  exact hK' _ _ h

theorem Yba.info21 : (Yba.prog.info? 21).map (fun i => (i.zero, i.size, i.bytes)) = some (some (.int .i32 0), 1, 4) := by kernel_rfl
theorem made_i32 (w : World) (n : Nat) : SlRow (w.alloc (.cells (madeCells #[Value.int .i32 0] n) 21)) w.heap.size n (fun _ => 0) := by
  refine ⟨⟨_, newBlock _ _, by simp [size_madeCells], fun v hv => ?_⟩⟩
  simp [madeCells, Value.cells, hv, Nat.mod_one]

set_option maxRecDepth 100000 in
set_option maxHeartbeats 4000000 in
theorem new_any (n : Nat) (w : World) (n1 : 1 ≤ n) (n16 : n ≤ 16) :
    Calls Yba.prog 4 #[.int .i64 n] w fun r w' => ∃ sb, r = .returned (.agg #[.slice none 0 0, .slice (some ⟨sb, 0, none⟩) n n]) ∧ w.heap.size ≤ sb ∧ SlRow w' sb n (fun _ => -1) ∧ Since w w' := by
  obtain ⟨i0, hi, hz0, hz1, hz2⟩ := info_parts Yba.info21
  go_enter Yba.func4, Yba.ntmps4
  go_wp2_with (at_make; refine mkN _ rfl _ _ 24 rfl 21 i0 _ Yba.underlying24 hi hz0 n rfl rfl (by rw [hz2]; omega) n16 ?_; rw [hz1])
  have hS1 : Since w ((w.alloc (.cells #[.slice none 0 0, .slice none 0 0] 26)).alloc (.cells (madeCells #[Value.int .i32 0] n) 21)) := Since.alloc (Since.of (belowAlloc _ _))
  have hR := keepB (newBlock w (.cells #[.slice none 0 0, .slice none 0 0] 26)) (belowAlloc _ (.cells (madeCells #[Value.int .i32 0] n) 21))
  have hL := made_i32 (w.alloc (.cells #[.slice none 0 0, .slice none 0 0] 26)) n
  have hsz : (w.alloc (.cells #[.slice none 0 0, .slice none 0 0] 26)).heap.size = w.heap.size + 1 := by simp
  rw [hsz] at hL
  generalize hW : World.alloc _ (.cells (madeCells #[Value.int .i32 0] n) 21) = W at hS1 hR hL ⊢
  obtain ⟨rb, hrb⟩ : ∃ rb, rb = w.heap.size := ⟨_, rfl⟩
  obtain ⟨sb, hsb⟩ : ∃ sb, sb = w.heap.size + 1 := ⟨_, rfl⟩
  try simp only [hsz]
  rw [← hsb] at hL ⊢
  rw [← hrb] at hR ⊢
  have HSB : Hid (w.heap.size ≤ sb) := ⟨by omega⟩
  have HRB : Hid (w.heap.size ≤ rb) := ⟨by omega⟩
  have hne : rb ≠ sb := by omega
  clear hW hsz hrb hsb
  go_loopw [9] (fun i wr => ∃ k : Nat, k ≤ n ∧ i = .int .i64 k ∧ SlRow wr sb n (fun v => if v < k then -1 else 0) ∧ Since w wr ∧ wr.heap[rb]? = some (.cells #[.slice none 0 0, .slice none 0 0] 26)) (fun i _ => n - (intOf i).toNat)
  case atStart => exact ⟨0, Nat.zero_le _, rfl, by simpa using hL, hS1, hR⟩
  case round =>
    obtain ⟨k, hk, rfl, hL, hSr, hR⟩ := hrel
    by_cases hlt : k < n
    · have c0 := hL.cell hlt
      simp only [Nat.lt_irrefl, if_false] at c0
      have z0 := hL.frozen k
      have hL2 := hL.set hlt (-1)
      have hR2 : (wr.setCell ⟨sb, k, none⟩ (.int .i32 (-1))).heap[rb]? = _ := (setFar hne).trans hR
      have hS2 : Since w (wr.setCell ⟨sb, k, none⟩ (.int .i32 (-1))) := Below.setCell hSr.out HSB.out _
      have hL3 : SlRow (wr.setCell ⟨sb, k, none⟩ (.int .i32 (-1))) sb n (fun v => if v < k + 1 then -1 else 0) := by
        have e : (fun v : Nat => if v < k + 1 then (-1 : Int) else 0) = upd (fun v => if v < k then -1 else 0) k (-1) := by
          funext v
          unfold upd
          by_cases e : v = k
          · simp [e]
          · rw [if_neg e]; congr 1; simp; omega
        rw [e]; exact hL2
      clear hL2
      go_wp2
      go_roundw
      case rel => exact ⟨k + 1, by omega, by go_num, hL3, hS2, hR2⟩
      case measure => simp [intOf]; omega
    · have hkn : k = n := by omega
      subst hkn
      have x0 : wr.cell? ⟨rb, 0, none⟩ = some (.slice none 0 0) := cellOf hR
      have x1 : wr.cell? ⟨rb, 1, none⟩ = some (.slice none 0 0) := cellOf hR
      have y0 := frozenOf (o := 0) hR
      have y1 := frozenOf (o := 1) hR
      have lr := sizeOf_block hR
      have hLf : SlRow wr sb k (fun _ => -1) := by
        obtain ⟨cur, h1, h2, h3⟩ := hL.ex
        exact ⟨⟨cur, h1, h2, fun v hv => by rw [h3 v hv, if_pos hv]⟩⟩
      clear hL
      go_wp2
      exact bodyPost_ret (v := .agg #[.slice none 0 0, .slice (some ⟨sb, 0, none⟩) k k]) (by simp [results, Yba.results4, go_sem, x0, x1, lr]) rfl ⟨sb, rfl, HSB.out, (hLf.keep (setFar (Ne.symm hne))).keep (setFar (Ne.symm hne)), Below.setCell (Below.setCell hSr.out HRB.out _) HRB.out _⟩
end Go.Proofs.Ybulkcwas
