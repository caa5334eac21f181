/-
  DERIVED. GIVEN WITH THE SEED: THE CARDS: each row of Qxb6614338aDoorRows.lean that lists a variable, with what it lists TIED to the program's text (the seventh form; the later family's looks); each row that meets fmt, with fmt's text TOLD by the authors' own Lean function (tested against real Go, not proved from fmt's source: count such statements apart). THE CARD IS WHAT COUNTS. Prove the row's statement (the work); the ties are given (Qxb6614338aDoorTie.lean); close each card by the builder's one call (the guide's Derived/Test/ToyasCard.lean, 'card_holds'). Laid BY PROGRAM, IN A SANDBOX (cutbox-door.mjs). By AI agents, Wed Nov 11 2026. No macro, syntax, notation, axiom, sorry.
-/
import Derived.Test.Qxb6614338aDoorRows
import GoSem.ClaimSeven
namespace Go.Proofs.Qxb6614338aDoor
namespace Rows

/-- THE TIED CARD OF 'zzlaws_internal_history_b1.FnUnplaceTwiceRestoresLIFO'. -/
def fnUnplaceTwiceRestoresLIFOCard : Claim7 := { stood := { row := fnUnplaceTwiceRestoresLIFORow, standIns := [], harness := (true, "3b298b0533ac82790750186902cd2b0008c48060036f5700dd2edabef41e7865"), looks := false }, kinds := [], alts := [], laidByText := true, laidKinds := [.data], laidTests := true, laidLooks := .later }
def FnUnplaceTwiceRestoresLIFOCardSaid : Prop := Claim7.holds Tryd.pinned (.plain (OpenSpec.ofChange fnUnplaceTwiceRestoresLIFOSpec)) fnUnplaceTwiceRestoresLIFOCard

/-- THE TIED CARD OF 'zzlaws_internal_history_b1.FnUnplaceScriptRetracesTheList'. -/
def fnUnplaceScriptRetracesTheListCard : Claim7 := { stood := { row := fnUnplaceScriptRetracesTheListRow, standIns := [], harness := (true, "3b298b0533ac82790750186902cd2b0008c48060036f5700dd2edabef41e7865"), looks := false }, kinds := [], alts := [], laidByText := true, laidKinds := [.data], laidTests := true, laidLooks := .later }
def FnUnplaceScriptRetracesTheListCardSaid : Prop := Claim7.holds Tryd.pinned (.plain (OpenSpec.ofChange fnUnplaceScriptRetracesTheListSpec)) fnUnplaceScriptRetracesTheListCard
end Rows
end Go.Proofs.Qxb6614338aDoor
