import Derived.Test.Qxb6614338aDoorFnUnplaceTwiceRestoresLIFOProof
import Derived.Test.Qxb6614338aDoorTie
import Derived.Test.Qxb6614338aDoorCards
import Derived.SevenTiedAt
namespace Go.Proofs.Qxb6614338aDoor.fnUnplaceTwiceRestoresLIFO
open Go

/-- The tied card, by the builder's one call. -/
theorem card : Rows.FnUnplaceTwiceRestoresLIFOCardSaid :=
  Claim7.holds_tied_plain_at .later [] [.data] true (true, "3b298b0533ac82790750186902cd2b0008c48060036f5700dd2edabef41e7865") false
    proved (fun _ h => by cases h) (by kernel_rfl) (fun _ h => by cases h) fnUnplaceTwiceRestoresLIFO_row_tie rfl ⟨rfl, rfl⟩ (by kernel_rfl) rfl
    (fun f fn hf hfn => by
      obtain rfl : f = 3 := Option.some.inj ((show Tryd.prog.funcNamed "example.com/tidemark/tidemark/zzlaws_internal_history_b1.FnUnplaceTwiceRestoresLIFO" = some 3 by kernel_rfl).symm.trans hf) |>.symm
      obtain rfl : fn = Tryd.f3 := (Option.some.inj (Tryd.func3.symm.trans hfn)).symm
      exact ⟨by kernel_rfl, fun j t ht => by
        rw [Tryd.params3] at ht
        have hm : t ∈ [22, 22, 22, 3, 3, 3, 3, 3, 3, 4, 4] := by simpa using Array.mem_of_getElem? ht
        have hall : ([22, 22, 22, 3, 3, 3, 3, 3, 3, 4, 4].all fun u => !Tryd.prog.wantsStandIn u) = true := by kernel_rfl
        exact (show Tryd.prog.wantsStandIn t = false by simpa using List.all_eq_true.1 hall t hm)⟩)
    (by kernel_rfl)
end Go.Proofs.Qxb6614338aDoor.fnUnplaceTwiceRestoresLIFO
