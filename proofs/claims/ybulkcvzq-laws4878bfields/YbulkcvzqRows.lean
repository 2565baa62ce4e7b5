/-
  No cell of these rows narrows 'for every input' (looked for: loops, veiled, ifaces, maps, wideKeys, modest, calm, conditions, laid).
  DERIVED. THE GIVEN ROWS OF THIS SEAT. 1 by the template 'for every input the law returns true; each argument reads behind the call as it read before'; 0 by the template 'total and deterministic' (their statements: YbulkcvzqTotals.lean).
  GIVEN WITH THE SEED: the statements are not yours to turn. If you find one false, say at which input.
  Laid BY PROGRAM, IN A SANDBOX (cutbox-rows.mjs): the forced cells as the released guide's own fill.sh prints them over the translation 337ee758f24a836e… (all of the seat's roots in one cut). By AI agents, Wed Nov 11 2026. No macro, syntax, notation, axiom, sorry.
-/
import Derived.Test.YbulkcvzqChecked
import GoSem.Claim
import GoSem.ClaimJoined
import GoSem.ClaimMapViews
import Derived.JoinedTies
import Derived.KernelRfl
namespace Go.Proofs.Ybulkcvzq
/- THE CELL 'sum', in the pinned program and in every row, IS THE sha256 OF THE DUMP (.gsa) THAT YbulkcvzqProg.lean LOADS. Nothing in Lean hashes anything: it is a label: what it is worth is what the hold of that sum in a sandbox is worth. -/
noncomputable def Yba.pinned : Pinned := { name := "ybulkcvzq", sum := "337ee758f24a836e58f38c9fcfaffe312da8aa338225b13fc64c8a03d8d19fba", checked := Yba.checked }
namespace Rows
def none {H : Type} : Left H := { results := [], args := [] }

/-- 'peer.LawS4878BFields': WHATEVER THE INPUT: true; the input reads as it did. -/
def lawS4878BFieldsSpec : ChangeSpec := { name := "lawS4878BFields", fn := fun _ => fun
  | [d1, d2] => { results := [.lit (.bool true)], args := [d1, d2] }
  | _ => none }
def lawS4878BFieldsRow : OpenClaim := { program := "ybulkcvzq", sum := "337ee758f24a836e58f38c9fcfaffe312da8aa338225b13fc64c8a03d8d19fba", func := "example.com/laminar-shards/laminar-shards/pkg/peer.LawS4878BFields", spec := "lawS4878BFields", apart := false }
def LawS4878BFieldsSaid : Prop := lawS4878BFieldsRow.holds Yba.pinned (OpenSpec.ofChange lawS4878BFieldsSpec)

/-- ITS FALSE NEIGHBOUR: 'it returns false'. Refute it at one input. -/
def lawS4878BFieldsWrong : ChangeSpec := { name := "lawS4878BFields", fn := fun _ => fun
  | [d1, d2] => { results := [.lit (.bool false)], args := [d1, d2] }
  | _ => none }
def LawS4878BFieldsWrongFalsely : Prop := lawS4878BFieldsRow.holds Yba.pinned (OpenSpec.ofChange lawS4878BFieldsWrong)

end Rows
end Go.Proofs.Ybulkcvzq
