/- The law at a slice of more than 1024 elements. -/
import Derived.Test.YbulkcvzqFmtMem
set_option linter.unusedSimpArgs false
set_option linter.unusedVariables false
namespace Go.Proofs.YbulkcvzqFmt
open Go.RowKit
set_option maxRecDepth 100000 in
set_option maxHeartbeats 2000000 in
theorem law_big (a0 a1 a2 : Option Addr) (n c0 k c1 t c2 : Nat) (idx : Int) (w : World) (hb : 1024 < n ∨ 1024 < k ∨ 1024 < t) :
    Calls Ybaf.prog 3 #[.slice a0 n c0, .slice a1 k c1, .slice a2 t c2, .int .i64 idx] w fun r w' => r = .returned (.bool true) ∧ Since w w' := by
  by_cases h1 : 1024 < n
  · go_enter Ybaf.func3, Ybaf.ntmps3
    go_wp2
    go_ret
    exact ⟨rfl, Since.refl _⟩
  · by_cases h2 : 1024 < k
    · go_enter Ybaf.func3, Ybaf.ntmps3
      go_wp2
      go_ret
      exact ⟨rfl, Since.refl _⟩
    · have h3 : 1024 < t := by omega
      go_enter Ybaf.func3, Ybaf.ntmps3
      go_wp2
      go_ret
      exact ⟨rfl, Since.refl _⟩
end Go.Proofs.YbulkcvzqFmt
