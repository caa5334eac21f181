/-
  No cell of these rows narrows 'for every input' (looked for: loops, veiled, ifaces, maps, wideKeys, modest, calm, conditions, laid).
  DERIVED. THE GIVEN ROWS OF THIS SEAT. 1 by the template 'for every input the law returns true; each argument reads behind the call as it read before'; 0 by the template 'total and deterministic' (their statements: Qxb6614982aTotals.lean).
  GIVEN WITH THE SEED: the statements are not yours to turn. If you find one false, say at which input.
  Laid BY PROGRAM, IN A SANDBOX (cutbox-rows.mjs): the forced cells as the released guide's own fill.sh prints them over the translation 685d2dadf3aadb04… (all of the seat's roots in one cut). By AI agents, Wed Nov 11 2026. No macro, syntax, notation, axiom, sorry.
-/
import Derived.Test.Qxb6614982aChecked
import GoSem.Claim
import GoSem.ClaimJoined
import GoSem.ClaimMapViews
import Derived.JoinedTies
import Derived.KernelRfl
namespace Go.Proofs.Qxb6614982a
/- THE CELL 'sum', in the pinned program and in every row, IS THE sha256 OF THE DUMP (.gsa) THAT Qxb6614982aProg.lean LOADS. Nothing in Lean hashes anything: it is a label: what it is worth is what the hold of that sum in a sandbox is worth. -/
noncomputable def Try.pinned : Pinned := { name := "qxb6614982a", sum := "685d2dadf3aadb0438031d2d43eee3cb66b573850414995d0f3e4c507d703a10", checked := Try.checked }
namespace Rows
def none {H : Type} : Left H := { results := [], args := [] }

/-- 'zzlaws_locality_b1.FnMeasureTouchesOnlyTheProbeCount': WHATEVER THE INPUT: true; the input reads as it did. -/
def fnMeasureTouchesOnlyTheProbeCountSpec : ChangeSpec := { name := "fnMeasureTouchesOnlyTheProbeCount", fn := fun _ => fun
  | [d1, d2, d3, d4, d5, d6, d7, d8, d9, d10] => { results := [.lit (.bool true)], args := [d1, d2, d3, d4, d5, d6, d7, d8, d9, d10] }
  | _ => none }
def fnMeasureTouchesOnlyTheProbeCountRow : OpenClaim := { program := "qxb6614982a", sum := "685d2dadf3aadb0438031d2d43eee3cb66b573850414995d0f3e4c507d703a10", func := "example.com/nearfield/nearfield/zzlaws_locality_b1.FnMeasureTouchesOnlyTheProbeCount", spec := "fnMeasureTouchesOnlyTheProbeCount", unfollowed := true, recurses := true, apart := false }
def FnMeasureTouchesOnlyTheProbeCountSaid : Prop := fnMeasureTouchesOnlyTheProbeCountRow.holds Try.pinned (OpenSpec.ofChange fnMeasureTouchesOnlyTheProbeCountSpec)

/-- ITS FALSE NEIGHBOUR: 'it returns false'. Refute it at one input. -/
def fnMeasureTouchesOnlyTheProbeCountWrong : ChangeSpec := { name := "fnMeasureTouchesOnlyTheProbeCount", fn := fun _ => fun
  | [d1, d2, d3, d4, d5, d6, d7, d8, d9, d10] => { results := [.lit (.bool false)], args := [d1, d2, d3, d4, d5, d6, d7, d8, d9, d10] }
  | _ => none }
def FnMeasureTouchesOnlyTheProbeCountWrongFalsely : Prop := fnMeasureTouchesOnlyTheProbeCountRow.holds Try.pinned (OpenSpec.ofChange fnMeasureTouchesOnlyTheProbeCountWrong)

end Rows
end Go.Proofs.Qxb6614982a
