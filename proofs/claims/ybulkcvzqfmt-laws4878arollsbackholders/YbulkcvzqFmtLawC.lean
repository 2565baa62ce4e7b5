import Derived.Test.YbulkcvzqFmtLawB
set_option linter.unusedSimpArgs false
set_option linter.unusedVariables false
namespace Go.Proofs.YbulkcvzqFmt
open Go.RowKit
/-- What an append leaves, as a function: so that the walk can write it down ahead. -/
def outR (w : World) : Result Value → Value × World
  | .ok v w' => (v, w')
  | _ => (undef, w)
/-- The append itself, under a name that no walk lays open. -/
noncomputable def appS (ty : TypeId) (args : Array Value) : Sem Value := Builtin.append_ #[49, 49] ty args
noncomputable def appR (w : World) (x y : Value) : Value × World := outR w ((appS 49 #[x, y]).run Ybaf.prog w)
structure AppOk (w : World) (x y : Value) : Prop where
  ok : ∃ v w', (appS 49 #[x, y]).run Ybaf.prog w = .ok v w'
theorem appR_of {w w' : World} {x y v : Value} (h : (Builtin.append_ #[49, 49] 49 #[x, y]).run Ybaf.prog w = .ok v w') : AppOk w x y ∧ (appR w x y).1 = v ∧ (appR w x y).2 = w' := by
  have h' : (appS 49 #[x, y]).run Ybaf.prog w = .ok v w' := h
  have e : appR w x y = (v, w') := by unfold appR; rw [h']; rfl
  exact ⟨⟨v, w', h'⟩, by rw [e], by rw [e]⟩
@[go_sem ↓ high] theorem append49 (ty : TypeId) (args : Array Value) : Builtin.append_ #[49, 49] ty args = appS ty args := rfl
@[go_sem] theorem run_app49 {w : World} {x y : Value} (h : AppOk w x y) : (appS 49 #[x, y]).run Ybaf.prog w = .ok (appR w x y).1 (appR w x y).2 := by
  obtain ⟨v, w', h⟩ := h.ok
  have e : appR w x y = (v, w') := by unfold appR; rw [h]; rfl
  rw [e]; exact h
end Go.Proofs.YbulkcvzqFmt
