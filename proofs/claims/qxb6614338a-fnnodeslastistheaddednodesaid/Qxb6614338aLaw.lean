import Derived.Test.Qxb6614338aEarly
import Derived.Test.Qxb6614338aWalk
namespace Go.Proofs.Qxb6614338a
open Go.RowKit

theorem law_any (a0 a1 a2 a3 a4 : Option Addr) (l0 l1 l2 l3 l4 c0 c1 c2 c3 c4 : Nat) (Z0 Z1 Z2 Z3 Z4 : Nat → Int) (w : World)
    (m0 : l0 ≤ maxLen) (m1 : l1 ≤ maxLen) (m2 : l2 ≤ maxLen) (m3 : l3 ≤ maxLen) (m4 : l4 ≤ maxLen)
    (r0 : RowI .i32 w a0 l0 Z0) (r1 : RowI .i32 w a1 l1 Z1) (r2 : RowI .u8 w a2 l2 Z2) (r3 : RowI .i32 w a3 l3 Z3) (r4 : RowI .u8 w a4 l4 Z4)
    (y0 : ∀ i, -2147483648 ≤ Z0 i ∧ Z0 i ≤ 2147483647) (y1 : ∀ i, -2147483648 ≤ Z1 i ∧ Z1 i ≤ 2147483647) (y3 : ∀ i, -2147483648 ≤ Z3 i ∧ Z3 i ≤ 2147483647) :
    Calls Try.prog 3 #[.slice a0 l0 c0, .slice a1 l1 c1, .slice a2 l2 c2, .slice a3 l3 c3, .slice a4 l4 c4] w fun e w' => e = .returned (.bool true) ∧ Below w.heap.size w w' := by
  by_cases h0 : 1048576 < l0 + l1 + l2 + l3 + l4
  · exact early0 a0 a1 a2 a3 a4 l0 l1 l2 l3 l4 c0 c1 c2 c3 c4 w h0 m0 m1 m2 m3 m4
  by_cases h1 : 262144 < l0 ∨ 262144 < l1 ∨ 262144 < l3
  · exact early1 a0 a1 a2 a3 a4 l0 l1 l2 l3 l4 c0 c1 c2 c3 c4 w (by omega) h1
  by_cases h2 : 1048576 < 4 * l0 + 4 * l1 + 4 * l3 + l2 + l4
  · exact early2 a0 a1 a2 a3 a4 l0 l1 l2 l3 l4 c0 c1 c2 c3 c4 w (by omega) (by omega) (by omega) (by omega) h2
  by_cases h3 : l3 < 1 ∨ l4 ≠ l3 ∨ l2 ≠ l1
  · exact early3 a0 a1 a2 a3 a4 l0 l1 l2 l3 l4 c0 c1 c2 c3 c4 w (by omega) (by omega) (by omega) (by omega) (by omega) h3
  obtain rfl : l4 = l3 := by omega
  obtain rfl : l2 = l1 := by omega
  by_cases h4 : l0 < 1 ∨ Z0 0 ≠ 0 ∨ Z0 (l0 - 1) ≠ l2
  · exact early4 a0 a1 a2 a3 a4 l0 l2 l4 c0 c1 c2 c3 c4 Z0 w (by omega) (by omega) (by omega) (by omega) (by omega) r0 y0 h4
  have e0 : Z0 0 = 0 := by omega
  have e1 : Z0 (l0 - 1) = l2 := by omega
  exact main_any w a0 a1 a2 a3 a4 l0 l2 l4 c0 c1 c2 c3 c4 (l0 - 1) Z0 Z1 Z2 Z3 Z4 (by omega) (by omega) (by omega) (by omega) r0 e1 r1 r2 r3 r4 (fun i _ => y1 i) (fun i _ => y3 i) (by omega) e0 (by omega)

theorem bounds_of {zs : List Int} (h : ∀ n ∈ zs, (Lit.int .i32 n).wf = true) (i : Nat) : -2147483648 ≤ zs.getD i 0 ∧ zs.getD i 0 ≤ 2147483647 := by
  rw [List.getD_eq_getElem?_getD]
  by_cases hi : i < zs.length
  · have hw := h zs[i] (List.getElem_mem hi)
    rw [List.getElem?_eq_getElem hi]
    simp only [Option.getD_some]
    generalize zs[i] = z at *
    simp only [Lit.wf, Bool.and_eq_true, decide_eq_true_eq] at hw
    exact ⟨hw.1, hw.2⟩
  · rw [List.getElem?_eq_none (by omega)]
    simp

end Go.Proofs.Qxb6614338a
