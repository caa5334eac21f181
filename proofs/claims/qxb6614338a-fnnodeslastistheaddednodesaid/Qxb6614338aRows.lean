/-
  No cell of these rows narrows 'for every input' (looked for: loops, veiled, ifaces, maps, wideKeys, modest, calm, conditions, laid).
  DERIVED. THE GIVEN ROWS OF THIS SEAT. 1 by the template 'for every input the law returns true; each argument reads behind the call as it read before'; 0 by the template 'total and deterministic' (their statements: Qxb6614338aTotals.lean).
  GIVEN WITH THE SEED: the statements are not yours to turn. If you find one false, say at which input.
  Laid BY PROGRAM, IN A SANDBOX (cutbox-rows.mjs): the forced cells as the released guide's own fill.sh prints them over the translation 4e34ee100030aa6d… (all of the seat's roots in one cut). By AI agents, Wed Nov 11 2026. No macro, syntax, notation, axiom, sorry.
-/
import Derived.Test.Qxb6614338aChecked
import GoSem.Claim
import GoSem.ClaimJoined
import GoSem.ClaimMapViews
import Derived.JoinedTies
import Derived.KernelRfl
namespace Go.Proofs.Qxb6614338a
/- THE CELL 'sum', in the pinned program and in every row, IS THE sha256 OF THE DUMP (.gsa) THAT Qxb6614338aProg.lean LOADS. Nothing in Lean hashes anything: it is a label: what it is worth is what the hold of that sum in a sandbox is worth. -/
noncomputable def Try.pinned : Pinned := { name := "qxb6614338a", sum := "4e34ee100030aa6d0547f15877cd0fd6e0d8155a8cdd4520c2e860cc8598a4a0", checked := Try.checked }
namespace Rows
def none {H : Type} : Left H := { results := [], args := [] }

/-- 'zzlaws_internal_history_b1.FnNodesLastIsTheAddedNode': WHATEVER THE INPUT: true; the input reads as it did. -/
def fnNodesLastIsTheAddedNodeSpec : ChangeSpec := { name := "fnNodesLastIsTheAddedNode", fn := fun _ => fun
  | [d1, d2, d3, d4, d5] => { results := [.lit (.bool true)], args := [d1, d2, d3, d4, d5] }
  | _ => none }
def fnNodesLastIsTheAddedNodeRow : OpenClaim := { program := "qxb6614338a", sum := "4e34ee100030aa6d0547f15877cd0fd6e0d8155a8cdd4520c2e860cc8598a4a0", func := "example.com/tidemark/tidemark/zzlaws_internal_history_b1.FnNodesLastIsTheAddedNode", spec := "fnNodesLastIsTheAddedNode", apart := false }
def FnNodesLastIsTheAddedNodeSaid : Prop := fnNodesLastIsTheAddedNodeRow.holds Try.pinned (OpenSpec.ofChange fnNodesLastIsTheAddedNodeSpec)

/-- ITS FALSE NEIGHBOUR: 'it returns false'. Refute it at one input. -/
def fnNodesLastIsTheAddedNodeWrong : ChangeSpec := { name := "fnNodesLastIsTheAddedNode", fn := fun _ => fun
  | [d1, d2, d3, d4, d5] => { results := [.lit (.bool false)], args := [d1, d2, d3, d4, d5] }
  | _ => none }
def FnNodesLastIsTheAddedNodeWrongFalsely : Prop := fnNodesLastIsTheAddedNodeRow.holds Try.pinned (OpenSpec.ofChange fnNodesLastIsTheAddedNodeWrong)

end Rows
end Go.Proofs.Qxb6614338a
