/-
  DERIVED. GIVEN WITH THE SEED: THE CARDS: each row of YbulkcvzqFmtRows.lean that lists a variable, with what it lists TIED to the program's text (the seventh form; the later family's looks); each row that meets fmt, with fmt's text TOLD by the authors' own Lean function (tested against real Go, not proved from fmt's source: count such statements apart). THE CARD IS WHAT COUNTS. Prove the row's statement (the work); the ties are given (YbulkcvzqFmtTie.lean); close each card by the builder's one call (the guide's Derived/Test/ToyasCard.lean, 'card_holds'). Laid BY PROGRAM, IN A SANDBOX (cutbox-door.mjs). By AI agents, Wed Nov 11 2026. No macro, syntax, notation, axiom, sorry.
-/
import Derived.Test.YbulkcvzqFmtRows
import GoSem.ClaimSeven
namespace Go.Proofs.YbulkcvzqFmt
namespace Rows

/-- THE TOLD CARD OF 'protocol.LawS4878ARollsBackHolders'. -/
def lawS4878ARollsBackHoldersCard : Claim7 := { stood := { row := lawS4878ARollsBackHoldersRow, standIns := [], harness := (true, "c5f1fc4b63f80cb40b4f57784f62bae3955957d73e4532c938a30884f0078eca"), looks := false }, told := true, goes := false }
def LawS4878ARollsBackHoldersToldSaid : Prop := Claim7.holds Ybaf.pinned (.plain (OpenSpec.ofChange lawS4878ARollsBackHoldersSpec)) lawS4878ARollsBackHoldersCard
/-- ITS FALSE NEIGHBOUR. Refute it at one input. -/
def LawS4878ARollsBackHoldersToldWrongFalsely : Prop := Claim7.holds Ybaf.pinned (.plain (OpenSpec.ofChange lawS4878ARollsBackHoldersWrong)) lawS4878ARollsBackHoldersCard
end Rows
end Go.Proofs.YbulkcvzqFmt
