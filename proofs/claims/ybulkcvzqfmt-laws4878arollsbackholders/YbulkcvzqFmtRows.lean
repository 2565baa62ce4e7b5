/-
  No cell of these rows narrows 'for every input' (looked for: loops, veiled, ifaces, maps, wideKeys, modest, calm, conditions, laid).
  DERIVED. THE GIVEN ROWS OF THIS SEAT. 1 by the template 'for every input the law returns true; each argument reads behind the call as it read before'; 0 by the template 'total and deterministic' (their statements: YbulkcvzqFmtTotals.lean).
  GIVEN WITH THE SEED: the statements are not yours to turn. If you find one false, say at which input.
  Laid BY PROGRAM, IN A SANDBOX (cutbox-rows.mjs): the forced cells as the released guide's own fill.sh prints them over the translation 5d3108fc259f033b… (all of the seat's roots in one cut). By AI agents, Wed Nov 11 2026. No macro, syntax, notation, axiom, sorry.
-/
import Derived.Test.YbulkcvzqFmtChecked
import GoSem.Claim
import GoSem.ClaimJoined
import GoSem.ClaimMapViews
import Derived.JoinedTies
import Derived.KernelRfl
namespace Go.Proofs.YbulkcvzqFmt
/- THE CELL 'sum', in the pinned program and in every row, IS THE sha256 OF THE DUMP (.gsa) THAT YbulkcvzqFmtProg.lean LOADS. Nothing in Lean hashes anything: it is a label: what it is worth is what the hold of that sum in a sandbox is worth. -/
noncomputable def Ybaf.pinned : Pinned := { name := "ybulkcvzqfmt", sum := "5d3108fc259f033bf3cc973e0e3b0269eb1502675f050f843357e14c1beffac8", checked := Ybaf.checked }
namespace Rows
def none {H : Type} : Left H := { results := [], args := [] }

/-- 'protocol.LawS4878ARollsBackHolders': WHATEVER THE INPUT: true; the input reads as it did. -/
def lawS4878ARollsBackHoldersSpec : ChangeSpec := { name := "lawS4878ARollsBackHolders", fn := fun _ => fun
  | [d1, d2, d3, d4] => { results := [.lit (.bool true)], args := [d1, d2, d3, d4] }
  | _ => none }
def lawS4878ARollsBackHoldersRow : OpenClaim := { program := "ybulkcvzqfmt", sum := "5d3108fc259f033bf3cc973e0e3b0269eb1502675f050f843357e14c1beffac8", func := "example.com/laminar-shards/laminar-shards/pkg/protocol.LawS4878ARollsBackHolders", spec := "lawS4878ARollsBackHolders", stops := ["fmt.Sprintf"], inPlace := ["fmt.Sprintf"], unfollowed := true, recurses := true, apart := false }
/-- NO THEOREM (fmt's text is open here; it may be false): for the released tool's asking of the row's closed facts alone. THE STATEMENT IS 'LawS4878ARollsBackHoldersToldSaid' (YbulkcvzqFmtCards.lean). -/
def LawS4878ARollsBackHoldersFormAsk : Prop := lawS4878ARollsBackHoldersRow.holds Ybaf.pinned (OpenSpec.ofChange lawS4878ARollsBackHoldersSpec)

/-- ITS FALSE NEIGHBOUR: 'it returns false'. Refute it at one input. -/
def lawS4878ARollsBackHoldersWrong : ChangeSpec := { name := "lawS4878ARollsBackHolders", fn := fun _ => fun
  | [d1, d2, d3, d4] => { results := [.lit (.bool false)], args := [d1, d2, d3, d4] }
  | _ => none }
def LawS4878ARollsBackHoldersWrongFormAsk : Prop := lawS4878ARollsBackHoldersRow.holds Ybaf.pinned (OpenSpec.ofChange lawS4878ARollsBackHoldersWrong)

end Rows
end Go.Proofs.YbulkcvzqFmt
