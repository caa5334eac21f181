import Derived.Test.Qxb6614338aDoorRows
import Derived.Test.Qxb6614338aDoorSearch
import Derived.WalkKit
import Derived.ProofKit
import Derived.LaidMore
import Derived.OpenShut
import Derived.FnData
import Derived.Stop.Joined
namespace Go.Proofs.Qxb6614338aDoor
open Go.ChangeShapes Go.WideShapes Go.ChangeAt Go.RowKit

theorem own : ownKnob Tryd.prog.godebug = none := by kernel_rfl
theorem laidOut : laidOutB Tryd.prog = true := by kernel_rfl
theorem gTab : Tryd.prog.globalNamed "math/bits.deBruijn64tab" = some 0 := by kernel_rfl
theorem tTab : (Tryd.prog.globals[0]?).map (·.type) = some 81 := by kernel_rfl
theorem c5 : Tryd.prog.cellsOf 5 = 1 := by kernel_rfl

theorem door_met (os : Os) (args : Array Value) : laidMetH Tryd.prog Rows.fnUnplaceTwiceRestoresLIFORow.laid ((World.doorLaid Tryd.prog 400 os).forCall (fun _ _ => 0) ⟨#[], args, []⟩).memory :=
  laidMetH_of_parts3 (fuel := 8) (laidMet_of_run' 8 (by kernel_rfl) (by kernel_rfl)) (by kernel_rfl) (by kernel_rfl)

theorem of_laid {W : World} (h : laidMetH Tryd.prog Rows.fnUnplaceTwiceRestoresLIFORow.laid W) : Tab W := by
  rw [MakeChecks.laidMetH_plain _ _ _ (by kernel_rfl)] at h
  obtain ⟨ps, ⟨g0, t0, cs0, f0, p0, q0, hg0, ht0, hv0, hd0, _, _⟩, _⟩ := h
  obtain rfl := Option.some.inj (gTab.symm.trans hg0)
  obtain rfl := Option.some.inj (tTab.symm.trans ht0)
  obtain ⟨xs, m1, rfl, hx1, hlen, hn, hel⟩ := DataW.trod_array Tryd.underlying81 hd0
  have hcell : ∀ (i : Nat) (k : Int), i < 64 → (xs.map (·.1))[i]? = some (.lit (.int .u8 k)) → W.cell? ⟨0, i, none⟩ = some (.int .u8 k) := by
    intro i k hi hk
    have h0 := hel i hi
    rw [List.getElem?_map] at hk
    cases hx : xs[i]? with
    | none => rw [hx] at hk; cases hk
    | some x =>
      rw [hx] at h0 hk
      obtain ⟨k', e1, e2, _⟩ := DataW.trod_int Tryd.underlying5 h0
      rw [e2] at hk
      simp at hk
      subst hk
      rw [World.var?_cell hg0 hv0 i]
      rw [c5] at e1
      have e3 := congrArg (fun l => l[0]?) e1
      simp at e3
      simpa using e3
  simp only [Rows.laid_math_bits_deBruijn64tab, Prod.mk.injEq, DataW.agg.injEq] at hx1
  refine ⟨hcell 1 1 (by decide) ?_, hcell 3 2 (by decide) ?_⟩
  · rw [← hx1.1]; rfl
  · rw [← hx1.1]; rfl
end Go.Proofs.Qxb6614338aDoor
