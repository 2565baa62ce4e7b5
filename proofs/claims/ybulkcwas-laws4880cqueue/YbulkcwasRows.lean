/-
  No cell of these rows narrows 'for every input' (looked for: loops, veiled, ifaces, maps, wideKeys, modest, calm, conditions, laid).
  DERIVED. THE GIVEN ROWS OF THIS SEAT. 1 by the template 'for every input the law returns true; each argument reads behind the call as it read before'; 0 by the template 'total and deterministic' (their statements: YbulkcwasTotals.lean).
  GIVEN WITH THE SEED: the statements are not yours to turn. If you find one false, say at which input.
  Laid BY PROGRAM, IN A SANDBOX (cutbox-rows.mjs): the forced cells as the released guide's own fill.sh prints them over the translation 5489e6e8d0634969… (all of the seat's roots in one cut). By AI agents, Wed Nov 11 2026. No macro, syntax, notation, axiom, sorry.
-/
import Derived.Test.YbulkcwasChecked
import GoSem.Claim
import GoSem.ClaimJoined
import GoSem.ClaimMapViews
import Derived.JoinedTies
import Derived.KernelRfl
namespace Go.Proofs.Ybulkcwas
/- THE CELL 'sum', in the pinned program and in every row, IS THE sha256 OF THE DUMP (.gsa) THAT YbulkcwasProg.lean LOADS. Nothing in Lean hashes anything: it is a label: what it is worth is what the hold of that sum in a sandbox is worth. -/
noncomputable def Yba.pinned : Pinned := { name := "ybulkcwas", sum := "5489e6e8d0634969aff60a3ff5814506a726fc184a5df9fe7460aa8707afddd7", checked := Yba.checked }
namespace Rows
def none {H : Type} : Left H := { results := [], args := [] }

/-- 'gossip.LawS4880CQueue': WHATEVER THE INPUT: true; the input reads as it did. -/
def lawS4880CQueueSpec : ChangeSpec := { name := "lawS4880CQueue", fn := fun _ => fun
  | [d1, d2] => { results := [.lit (.bool true)], args := [d1, d2] }
  | _ => none }
def lawS4880CQueueRow : OpenClaim := { program := "ybulkcwas", sum := "5489e6e8d0634969aff60a3ff5814506a726fc184a5df9fe7460aa8707afddd7", func := "example.com/hedgerow/hedgerow/pkg/gossip.LawS4880CQueue", spec := "lawS4880CQueue", apart := false }
def LawS4880CQueueSaid : Prop := lawS4880CQueueRow.holds Yba.pinned (OpenSpec.ofChange lawS4880CQueueSpec)

/-- ITS FALSE NEIGHBOUR: 'it returns false'. Refute it at one input. -/
def lawS4880CQueueWrong : ChangeSpec := { name := "lawS4880CQueue", fn := fun _ => fun
  | [d1, d2] => { results := [.lit (.bool false)], args := [d1, d2] }
  | _ => none }
def LawS4880CQueueWrongFalsely : Prop := lawS4880CQueueRow.holds Yba.pinned (OpenSpec.ofChange lawS4880CQueueWrong)

end Rows
end Go.Proofs.Ybulkcwas
