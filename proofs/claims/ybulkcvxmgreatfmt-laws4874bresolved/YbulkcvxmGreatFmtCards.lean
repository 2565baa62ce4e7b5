/-
  DERIVED. GIVEN WITH THE SEED: THE CARDS: each row of YbulkcvxmGreatFmtRows.lean that lists a variable, with what it lists TIED to the program's text (the seventh form; the later family's looks); each row that meets fmt, with fmt's text TOLD by the authors' own Lean function (tested against real Go, not proved from fmt's source: count such statements apart). THE CARD IS WHAT COUNTS. Prove the row's statement (the work); the ties are given (YbulkcvxmGreatFmtTie.lean); close each card by the builder's one call (the guide's Derived/Test/ToyasCard.lean, 'card_holds'). Laid BY PROGRAM, IN A SANDBOX (cutbox-door.mjs). By AI agents, Wed Nov 11 2026. No macro, syntax, notation, axiom, sorry.
-/
import Derived.Test.YbulkcvxmGreatFmtRows
import GoSem.ClaimSeven
namespace Go.Proofs.YbulkcvxmGreatFmt
namespace Rows

/-- THE TOLD AND TIED CARD OF 'model.LawS4874BResolved'. -/
def lawS4874BResolvedCard : Claim7 := { stood := { row := lawS4874BResolvedRow, standIns := [], harness := (true, "b59a6e884585dc32fb3c5c7dac73e8ec7ac5d961d3ef7aed5c64760acbf72e67"), looks := true }, told := true, laidByText := true, laidKinds := [.data, .data, .data, .called], laidTests := true, laidLooks := .later, goes := false }
def LawS4874BResolvedToldSaid : Prop := Claim7.holds Ybaz.pinned (.plain (OpenSpec.ofChange lawS4874BResolvedSpec)) lawS4874BResolvedCard
/-- ITS FALSE NEIGHBOUR. Refute it at one input. -/
def LawS4874BResolvedToldWrongFalsely : Prop := Claim7.holds Ybaz.pinned (.plain (OpenSpec.ofChange lawS4874BResolvedWrong)) lawS4874BResolvedCard
end Rows
end Go.Proofs.YbulkcvxmGreatFmt
