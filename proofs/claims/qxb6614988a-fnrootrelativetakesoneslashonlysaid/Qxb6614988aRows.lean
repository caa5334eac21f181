/-
  No cell of these rows narrows 'for every input' (looked for: loops, veiled, ifaces, maps, wideKeys, modest, calm, conditions, laid).
  DERIVED. THE GIVEN ROWS OF THIS SEAT. 2 by the template 'for every input the law returns true; each argument reads behind the call as it read before'; 0 by the template 'total and deterministic' (their statements: Qxb6614988aTotals.lean).
  GIVEN WITH THE SEED: the statements are not yours to turn. If you find one false, say at which input.
  Laid BY PROGRAM, IN A SANDBOX (cutbox-rows.mjs): the forced cells as the released guide's own fill.sh prints them over the translation 19e47fcb5c17666b… (all of the seat's roots in one cut). By AI agents, Wed Nov 11 2026. No macro, syntax, notation, axiom, sorry.
-/
import Derived.Test.Qxb6614988aChecked
import GoSem.Claim
import GoSem.ClaimJoined
import GoSem.ClaimMapViews
import Derived.JoinedTies
import Derived.KernelRfl
namespace Go.Proofs.Qxb6614988a
/- THE CELL 'sum', in the pinned program and in every row, IS THE sha256 OF THE DUMP (.gsa) THAT Qxb6614988aProg.lean LOADS. Nothing in Lean hashes anything: it is a label: what it is worth is what the hold of that sum in a sandbox is worth. -/
noncomputable def Try.pinned : Pinned := { name := "qxb6614988a", sum := "19e47fcb5c17666be1f19ca0b200465fd3bc36ee6ef1237223c09b3253cb63bf", checked := Try.checked }
namespace Rows
def none {H : Type} : Left H := { results := [], args := [] }

/-- 'zzlaws_dump_b1.FnRootRelativeLooksAtTheFirstByteAlone': WHATEVER THE INPUT: true; the input reads as it did. -/
def fnRootRelativeLooksAtTheFirstByteAloneSpec : ChangeSpec := { name := "fnRootRelativeLooksAtTheFirstByteAlone", fn := fun _ => fun
  | [d1, d2] => { results := [.lit (.bool true)], args := [d1, d2] }
  | _ => none }
def fnRootRelativeLooksAtTheFirstByteAloneRow : OpenClaim := { program := "qxb6614988a", sum := "19e47fcb5c17666be1f19ca0b200465fd3bc36ee6ef1237223c09b3253cb63bf", func := "example.com/revstream/revstream/zzlaws_dump_b1.FnRootRelativeLooksAtTheFirstByteAlone", spec := "fnRootRelativeLooksAtTheFirstByteAlone", apart := false }
def FnRootRelativeLooksAtTheFirstByteAloneSaid : Prop := fnRootRelativeLooksAtTheFirstByteAloneRow.holds Try.pinned (OpenSpec.ofChange fnRootRelativeLooksAtTheFirstByteAloneSpec)

/-- ITS FALSE NEIGHBOUR: 'it returns false'. Refute it at one input. -/
def fnRootRelativeLooksAtTheFirstByteAloneWrong : ChangeSpec := { name := "fnRootRelativeLooksAtTheFirstByteAlone", fn := fun _ => fun
  | [d1, d2] => { results := [.lit (.bool false)], args := [d1, d2] }
  | _ => none }
def FnRootRelativeLooksAtTheFirstByteAloneWrongFalsely : Prop := fnRootRelativeLooksAtTheFirstByteAloneRow.holds Try.pinned (OpenSpec.ofChange fnRootRelativeLooksAtTheFirstByteAloneWrong)

/-- 'zzlaws_dump_b1.FnRootRelativeTakesOneSlashOnly': WHATEVER THE INPUT: true; the input reads as it did. -/
def fnRootRelativeTakesOneSlashOnlySpec : ChangeSpec := { name := "fnRootRelativeTakesOneSlashOnly", fn := fun _ => fun
  | [d] => { results := [.lit (.bool true)], args := [d] }
  | _ => none }
def fnRootRelativeTakesOneSlashOnlyRow : OpenClaim := { program := "qxb6614988a", sum := "19e47fcb5c17666be1f19ca0b200465fd3bc36ee6ef1237223c09b3253cb63bf", func := "example.com/revstream/revstream/zzlaws_dump_b1.FnRootRelativeTakesOneSlashOnly", spec := "fnRootRelativeTakesOneSlashOnly", apart := false }
def FnRootRelativeTakesOneSlashOnlySaid : Prop := fnRootRelativeTakesOneSlashOnlyRow.holds Try.pinned (OpenSpec.ofChange fnRootRelativeTakesOneSlashOnlySpec)

/-- ITS FALSE NEIGHBOUR: 'it returns false'. Refute it at one input. -/
def fnRootRelativeTakesOneSlashOnlyWrong : ChangeSpec := { name := "fnRootRelativeTakesOneSlashOnly", fn := fun _ => fun
  | [d] => { results := [.lit (.bool false)], args := [d] }
  | _ => none }
def FnRootRelativeTakesOneSlashOnlyWrongFalsely : Prop := fnRootRelativeTakesOneSlashOnlyRow.holds Try.pinned (OpenSpec.ofChange fnRootRelativeTakesOneSlashOnlyWrong)

end Rows
end Go.Proofs.Qxb6614988a
