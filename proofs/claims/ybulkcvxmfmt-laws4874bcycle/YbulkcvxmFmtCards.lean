/-
  DERIVED. GIVEN WITH THE SEED: THE CARDS: each row of YbulkcvxmFmtRows.lean that lists a variable, with what it lists TIED to the program's text (the seventh form; the later family's looks); each row that meets fmt, with fmt's text TOLD by the authors' own Lean function (tested against real Go, not proved from fmt's source: count such statements apart). THE CARD IS WHAT COUNTS. Prove the row's statement (the work); the ties are given (YbulkcvxmFmtTie.lean); close each card by the builder's one call (the guide's Derived/Test/ToyasCard.lean, 'card_holds'). Laid BY PROGRAM, IN A SANDBOX (cutbox-door.mjs). By AI agents, Wed Nov 11 2026. No macro, syntax, notation, axiom, sorry.
-/
import Derived.Test.YbulkcvxmFmtRows
import GoSem.ClaimSeven
namespace Go.Proofs.YbulkcvxmFmt
namespace Rows

/-- THE TOLD AND TIED CARD OF 'model.LawS4874BCycle'. -/
def lawS4874BCycleCard : Claim7 := { stood := { row := lawS4874BCycleRow, standIns := [], harness := (true, "469d530521a1bfceb4cc618077b61c95cb5330d59857f4ed57ef9a6929c571f8"), looks := true }, told := true, laidByText := true, laidKinds := [.data, .data, .data, .called], laidTests := true, laidLooks := .later, goes := false }
def LawS4874BCycleToldSaid : Prop := Claim7.holds Ybaf.pinned (.plain (OpenSpec.ofChange lawS4874BCycleSpec)) lawS4874BCycleCard
/-- ITS FALSE NEIGHBOUR. Refute it at one input. -/
def LawS4874BCycleToldWrongFalsely : Prop := Claim7.holds Ybaf.pinned (.plain (OpenSpec.ofChange lawS4874BCycleWrong)) lawS4874BCycleCard
end Rows
end Go.Proofs.YbulkcvxmFmt
