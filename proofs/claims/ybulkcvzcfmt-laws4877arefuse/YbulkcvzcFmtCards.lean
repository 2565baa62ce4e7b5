/-
  DERIVED. GIVEN WITH THE SEED: THE CARDS: each row of YbulkcvzcFmtRows.lean that lists a variable, with what it lists TIED to the program's text (the seventh form; the later family's looks); each row that meets fmt, with fmt's text TOLD by the authors' own Lean function (tested against real Go, not proved from fmt's source: count such statements apart). THE CARD IS WHAT COUNTS. Prove the row's statement (the work); the ties are given (YbulkcvzcFmtTie.lean); close each card by the builder's one call (the guide's Derived/Test/ToyasCard.lean, 'card_holds'). Laid BY PROGRAM, IN A SANDBOX (cutbox-door.mjs). By AI agents, Wed Nov 11 2026. No macro, syntax, notation, axiom, sorry.
-/
import Derived.Test.YbulkcvzcFmtRows
import GoSem.ClaimSeven
namespace Go.Proofs.YbulkcvzcFmt
namespace Rows

/-- THE TOLD AND TIED CARD OF 'h248.LawS4877AValid'. -/
def lawS4877AValidCard : Claim7 := { stood := { row := lawS4877AValidRow, standIns := [], harness := (true, "426edaeea69515192d73c2da2f916a0d5727e3f102affbef8a982d71885e42e4"), looks := true }, told := true, laidByText := true, laidKinds := [.data, .data, .data, .wider], laidTests := true, laidLooks := .later, goes := false }
def LawS4877AValidToldSaid : Prop := Claim7.holds Ybaf.pinned (.plain (OpenSpec.ofChange lawS4877AValidSpec)) lawS4877AValidCard
/-- ITS FALSE NEIGHBOUR. Refute it at one input. -/
def LawS4877AValidToldWrongFalsely : Prop := Claim7.holds Ybaf.pinned (.plain (OpenSpec.ofChange lawS4877AValidWrong)) lawS4877AValidCard

/-- THE TOLD AND TIED CARD OF 'h248.LawS4877ARefuse'. -/
def lawS4877ARefuseCard : Claim7 := { stood := { row := lawS4877ARefuseRow, standIns := [], harness := (true, "426edaeea69515192d73c2da2f916a0d5727e3f102affbef8a982d71885e42e4"), looks := true }, told := true, laidByText := true, laidKinds := [.data, .data, .data, .wider], laidTests := true, laidLooks := .later, goes := false }
def LawS4877ARefuseToldSaid : Prop := Claim7.holds Ybaf.pinned (.plain (OpenSpec.ofChange lawS4877ARefuseSpec)) lawS4877ARefuseCard
/-- ITS FALSE NEIGHBOUR. Refute it at one input. -/
def LawS4877ARefuseToldWrongFalsely : Prop := Claim7.holds Ybaf.pinned (.plain (OpenSpec.ofChange lawS4877ARefuseWrong)) lawS4877ARefuseCard

/-- THE TOLD AND TIED CARD OF 'h248.LawS4877CValid'. -/
def lawS4877CValidCard : Claim7 := { stood := { row := lawS4877CValidRow, standIns := [], harness := (true, "426edaeea69515192d73c2da2f916a0d5727e3f102affbef8a982d71885e42e4"), looks := true }, told := true, laidByText := true, laidKinds := [.data, .data, .data, .data, .data, .data, .wider, .widerDeep, .wider, .pinned, .pinned], laidTests := true, laidLooks := .later, goes := false }
def LawS4877CValidToldSaid : Prop := Claim7.holds Ybaf.pinned (.plain (OpenSpec.ofChange lawS4877CValidSpec)) lawS4877CValidCard
/-- ITS FALSE NEIGHBOUR. Refute it at one input. -/
def LawS4877CValidToldWrongFalsely : Prop := Claim7.holds Ybaf.pinned (.plain (OpenSpec.ofChange lawS4877CValidWrong)) lawS4877CValidCard

/-- THE TOLD AND TIED CARD OF 'h248.LawS4877CRefused'. -/
def lawS4877CRefusedCard : Claim7 := { stood := { row := lawS4877CRefusedRow, standIns := [], harness := (true, "426edaeea69515192d73c2da2f916a0d5727e3f102affbef8a982d71885e42e4"), looks := true }, told := true, laidByText := true, laidKinds := [.data, .data, .data, .data, .data, .data, .wider, .widerDeep, .wider, .pinned, .pinned], laidTests := true, laidLooks := .later, goes := false }
def LawS4877CRefusedToldSaid : Prop := Claim7.holds Ybaf.pinned (.plain (OpenSpec.ofChange lawS4877CRefusedSpec)) lawS4877CRefusedCard
/-- ITS FALSE NEIGHBOUR. Refute it at one input. -/
def LawS4877CRefusedToldWrongFalsely : Prop := Claim7.holds Ybaf.pinned (.plain (OpenSpec.ofChange lawS4877CRefusedWrong)) lawS4877CRefusedCard
end Rows
end Go.Proofs.YbulkcvzcFmt
