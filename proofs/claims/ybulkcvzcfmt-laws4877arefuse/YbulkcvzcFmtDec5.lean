import Derived.Test.YbulkcvzcFmtDec4
import Derived.Laws.BitsAllLaws
set_option linter.unusedSimpArgs false
set_option linter.unusedVariables false
namespace Go.Proofs.YbulkcvzcFmt
open Go.RowKit

set_option maxRecDepth 100000 in
set_option maxHeartbeats 1000000 in
theorem contents_any (db gb N cap s e : Nat) (er : Option Addr) (id o : Int) (w : World) (hD : w.heap[db]? = some (decO gb N cap er)) (hse : s ≤ e) (heN : e ≤ N) (hN : N ≤ 1000) (hNc : N ≤ cap) :
    Calls Ybaf.prog 54 #[.pointer (some ⟨db, 0, none⟩), .agg #[.int .u8 id, .int .i64 o, .int .i64 s, .int .i64 e]] w fun r w' => (∃ a, r = .returned (.slice (some a) (e - s) (cap - s)) ∧ (s < cap → a = ⟨gb, s, none⟩)) ∧ Since w w' := by
  have d0 : w.cell? ⟨db, 0, none⟩ = some (.slice (some ⟨gb, 0, none⟩) N cap) := cellOf hD
  have hds := sizeOf_block hD
  have h1 : (0 : Int) ≤ (s : Int) := by omega
  have h2 : (s : Int) ≤ (e : Int) := by omega
  have h3 : (e : Int) ≤ (cap : Int) := by omega
  clear hD
  by_cases hsc : s < cap
  · have hne : ¬ cap = s := by omega
    go_enter Ybaf.func54, Ybaf.ntmps54
    go_wp2
    go_quiet (fail)
    go_wp2
    go_ret
    exact ⟨⟨_, rfl, fun _ => rfl⟩, Since.drewN (Since.of (belowAlloc _ _)) _⟩
  · obtain rfl : s = cap := by omega
    go_enter Ybaf.func54, Ybaf.ntmps54
    go_wp2
    go_quiet (fail)
    go_wp2
    go_ret
    exact ⟨⟨_, by rw [Nat.sub_self]; rfl, fun h => absurd h (Nat.lt_irrefl _)⟩, Since.drewN (Since.of (belowAlloc _ _)) _⟩

theorem or_i64n (a c : Nat) (ha : a < 16777216) (hc : c < 256) : bits .or .i64 ((a : Int) * 256) (c : Int) = (a : Int) * 256 + c := by
  have e1 : BitVec.ofInt 64 ((a : Int) * 256) = BitVec.ofNat 64 (a * 256) := by
    have : ((a : Int) * 256) = ((a * 256 : Nat) : Int) := by omega
    rw [this]; rfl
  have e2 : BitVec.ofInt 64 (c : Int) = BitVec.ofNat 64 c := rfl
  have e3 : (a * 256) ||| c = a * 256 + c := nat_join 8 (a * 256) c (by omega) hc
  show IntKind.i64.wrap ((BitVec.ofInt 64 ((a : Int) * 256) ||| BitVec.ofInt 64 (c : Int)).toNat : Int) = _
  rw [e1, e2, BitVec.toNat_or, BitVec.toNat_ofNat, BitVec.toNat_ofNat, Nat.mod_eq_of_lt (by omega), Nat.mod_eq_of_lt (by omega), e3, IntKind.wrap_i64]
  omega
theorem or_i64 (a c : Int) (h0 : 0 ≤ a) (h1 : a < 16777216) (h2 : 0 ≤ c) (h3 : c < 256) : bits .or .i64 (a * 256) c = a * 256 + c := by
  have := or_i64n a.toNat c.toNat (by omega) (by omega)
  rw [show ((a.toNat : Nat) : Int) = a by omega, show ((c.toNat : Nat) : Int) = c by omega] at this
  exact this

/-- Leading zero octets that say nothing are left aside. -/
def strip : List Int → List Int
  | a :: b :: r => if a = 0 ∧ b < 128 then strip (b :: r) else a :: b :: r
  | l => l
def val (l : List Int) : Int := l.foldl (fun v c => v * 256 + c) 0

theorem strip_enc (v : Int) (h0 : 0 ≤ v) (h1 : v < 65536) : strip (encI v) = encI v ∧ val (encI v) = v := by
  unfold encI
  split
  · exact ⟨rfl, by simp [val]⟩
  · split
    · refine ⟨?_, by simp [val]⟩
      simp [strip]; omega
    · split
      · refine ⟨?_, by simp [val]; omega⟩
        simp [strip]; omega
      · refine ⟨?_, by simp [val]; omega⟩
        simp [strip]; omega
theorem enc_head (v : Int) (h0 : 0 ≤ v) (h1 : v < 65536) : ∃ x r, encI v = x :: r ∧ 0 ≤ x ∧ x < 128 := by
  unfold encI
  split
  · exact ⟨v, [], rfl, h0, by omega⟩
  · split
    · exact ⟨0, _, rfl, by omega, by omega⟩
    · split
      · exact ⟨v / 256, _, rfl, by omega, by omega⟩
      · exact ⟨0, _, rfl, by omega, by omega⟩
theorem strip_zero (l : List Int) (x : Int) (r : List Int) (hl : l = x :: r) (hx : x < 128) : strip (0 :: l) = strip l := by
  subst hl
  simp [strip, hx]
end Go.Proofs.YbulkcvzcFmt
