/-
  No cell of these rows narrows 'for every input' (looked for: loops, veiled, ifaces, maps, wideKeys, modest, calm, conditions, laid).
  DERIVED. THE GIVEN ROWS OF THIS SEAT. 3 by the template 'for every input the law returns true; each argument reads behind the call as it read before'; 0 by the template 'total and deterministic' (their statements: Qxb6614207aTotals.lean).
  GIVEN WITH THE SEED: the statements are not yours to turn. If you find one false, say at which input.
  Laid BY PROGRAM, IN A SANDBOX (cutbox-rows.mjs): the forced cells as the released guide's own fill.sh prints them over the translation 17225ae685a7ca38… (all of the seat's roots in one cut). By AI agents, Wed Nov 11 2026. No macro, syntax, notation, axiom, sorry.
-/
import Derived.Test.Qxb6614207aChecked
import GoSem.Claim
import GoSem.ClaimJoined
import GoSem.ClaimMapViews
import Derived.JoinedTies
import Derived.KernelRfl
namespace Go.Proofs.Qxb6614207a
/- THE CELL 'sum', in the pinned program and in every row, IS THE sha256 OF THE DUMP (.gsa) THAT Qxb6614207aProg.lean LOADS. Nothing in Lean hashes anything: it is a label: what it is worth is what the hold of that sum in a sandbox is worth. -/
noncomputable def Try.pinned : Pinned := { name := "qxb6614207a", sum := "17225ae685a7ca385e9f649d1e9a94328138b619d9489a94a98fde48a2019205", checked := Try.checked }
namespace Rows
def none {H : Type} : Left H := { results := [], args := [] }

/-- 'zzlaws_internal_sqlparse_b1.FnNamesColumnIffSomeLeafIsColumn': WHATEVER THE INPUT: true; the input reads as it did. -/
def fnNamesColumnIffSomeLeafIsColumnSpec : ChangeSpec := { name := "fnNamesColumnIffSomeLeafIsColumn", fn := fun _ => fun
  | [d] => { results := [.lit (.bool true)], args := [d] }
  | _ => none }
def fnNamesColumnIffSomeLeafIsColumnRow : OpenClaim := { program := "qxb6614207a", sum := "17225ae685a7ca385e9f649d1e9a94328138b619d9489a94a98fde48a2019205", func := "example.com/nextkey/nextkey/zzlaws_internal_sqlparse_b1.FnNamesColumnIffSomeLeafIsColumn", spec := "fnNamesColumnIffSomeLeafIsColumn", unfollowed := true, recurses := true, apart := false }
def FnNamesColumnIffSomeLeafIsColumnSaid : Prop := fnNamesColumnIffSomeLeafIsColumnRow.holds Try.pinned (OpenSpec.ofChange fnNamesColumnIffSomeLeafIsColumnSpec)

/-- ITS FALSE NEIGHBOUR: 'it returns false'. Refute it at one input. -/
def fnNamesColumnIffSomeLeafIsColumnWrong : ChangeSpec := { name := "fnNamesColumnIffSomeLeafIsColumn", fn := fun _ => fun
  | [d] => { results := [.lit (.bool false)], args := [d] }
  | _ => none }
def FnNamesColumnIffSomeLeafIsColumnWrongFalsely : Prop := fnNamesColumnIffSomeLeafIsColumnRow.holds Try.pinned (OpenSpec.ofChange fnNamesColumnIffSomeLeafIsColumnWrong)

/-- 'zzlaws_internal_sqlparse_b1.FnObjectSizeKthSizeClass': WHATEVER THE INPUT: true; the input reads as it did. -/
def fnObjectSizeKthSizeClassSpec : ChangeSpec := { name := "fnObjectSizeKthSizeClass", fn := fun _ => fun
  | [d] => { results := [.lit (.bool true)], args := [d] }
  | _ => none }
def fnObjectSizeKthSizeClassRow : OpenClaim := { program := "qxb6614207a", sum := "17225ae685a7ca385e9f649d1e9a94328138b619d9489a94a98fde48a2019205", func := "example.com/nextkey/nextkey/zzlaws_internal_sqlparse_b1.FnObjectSizeKthSizeClass", spec := "fnObjectSizeKthSizeClass", apart := false }
def FnObjectSizeKthSizeClassSaid : Prop := fnObjectSizeKthSizeClassRow.holds Try.pinned (OpenSpec.ofChange fnObjectSizeKthSizeClassSpec)

/-- ITS FALSE NEIGHBOUR: 'it returns false'. Refute it at one input. -/
def fnObjectSizeKthSizeClassWrong : ChangeSpec := { name := "fnObjectSizeKthSizeClass", fn := fun _ => fun
  | [d] => { results := [.lit (.bool false)], args := [d] }
  | _ => none }
def FnObjectSizeKthSizeClassWrongFalsely : Prop := fnObjectSizeKthSizeClassRow.holds Try.pinned (OpenSpec.ofChange fnObjectSizeKthSizeClassWrong)

/-- 'zzlaws_internal_sqlparse_b1.FnNamesColumnSplitsOverAnyCut': WHATEVER THE INPUT: true; the input reads as it did. -/
def fnNamesColumnSplitsOverAnyCutSpec : ChangeSpec := { name := "fnNamesColumnSplitsOverAnyCut", fn := fun _ => fun
  | [d1, d2] => { results := [.lit (.bool true)], args := [d1, d2] }
  | _ => none }
def fnNamesColumnSplitsOverAnyCutRow : OpenClaim := { program := "qxb6614207a", sum := "17225ae685a7ca385e9f649d1e9a94328138b619d9489a94a98fde48a2019205", func := "example.com/nextkey/nextkey/zzlaws_internal_sqlparse_b1.FnNamesColumnSplitsOverAnyCut", spec := "fnNamesColumnSplitsOverAnyCut", unfollowed := true, recurses := true, apart := false }
def FnNamesColumnSplitsOverAnyCutSaid : Prop := fnNamesColumnSplitsOverAnyCutRow.holds Try.pinned (OpenSpec.ofChange fnNamesColumnSplitsOverAnyCutSpec)

/-- ITS FALSE NEIGHBOUR: 'it returns false'. Refute it at one input. -/
def fnNamesColumnSplitsOverAnyCutWrong : ChangeSpec := { name := "fnNamesColumnSplitsOverAnyCut", fn := fun _ => fun
  | [d1, d2] => { results := [.lit (.bool false)], args := [d1, d2] }
  | _ => none }
def FnNamesColumnSplitsOverAnyCutWrongFalsely : Prop := fnNamesColumnSplitsOverAnyCutRow.holds Try.pinned (OpenSpec.ofChange fnNamesColumnSplitsOverAnyCutWrong)

end Rows
end Go.Proofs.Qxb6614207a
