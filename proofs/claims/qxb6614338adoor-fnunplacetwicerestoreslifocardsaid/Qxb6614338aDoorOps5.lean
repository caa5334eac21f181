import Derived.Test.Qxb6614338aDoorOps4
namespace Go.Proofs.Qxb6614338aDoor
open Go.RowKit
variable {C : SC} {b : Nat} {w : World} {N P : Nat → Nat} {S Wn wt tt : Nat → Int} {B : Nat → Nat} {first last value : Int} {st : Value} {k : Nat} {xs : List Value}

theorem results_tmp5 {fn : Func} {t1 t2 t3 t4 t5 : Tmp} (h : fn.results = #[.tmp t1, .tmp t2, .tmp t3, .tmp t4, .tmp t5]) (tmps : Array Value) (P : Program) (w : World) :
    (results fn tmps).run P w = .ok (.tuple #[tmps.getD t1 undef, tmps.getD t2 undef, tmps.getD t3 undef, tmps.getD t4 undef, tmps.getD t5 undef]) w := by
  simp [results, h]

theorem zunplace {R : World → Prop} (i v f d : Int) (p : Bool) (hR : ∀ w o q, R w → R ((World.alloc w o).drewN q)) (hc : Calls Tryd.prog 32 #[.pointer (some ⟨b, 0, none⟩)] w fun r w' => r = .returned (.agg (pl i v f d p).toArray) ∧ R w') :
    Calls Tryd.prog 18 #[.pointer (some ⟨b, 0, none⟩)] w fun r w' => r = .returned (.tuple (pl i v f d p).toArray) ∧ R w' := by
  have HC := hid hc
  clear hc
  go_enter Tryd.func18, Tryd.ntmps18
  go_wp2_with fail
  refine HC.out.mono ?_
  rintro e w1 ⟨rfl, hr⟩
  have HR := hid (fun o q => hR w1 o q hr)
  clear hr hR
  dsimp only [pl]
  go_wp2_with fail
  go_quiet (fail)
  go_wp2_with fail
  refine bodyPost_ret (results_tmp5 rfl _ _ _) rfl ⟨rfl, HR.out _ _⟩
end Go.Proofs.Qxb6614338aDoor
