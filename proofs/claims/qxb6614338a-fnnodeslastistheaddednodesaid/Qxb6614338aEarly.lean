import Derived.Test.Qxb6614338aParts
import Derived.BigGuardPart
namespace Go.Proofs.Qxb6614338a
open Go.RowKit

set_option maxRecDepth 1000000 in
set_option maxHeartbeats 1000000 in
theorem early0 (a0 a1 a2 a3 a4 : Option Addr) (l0 l1 l2 l3 l4 c0 c1 c2 c3 c4 : Nat) (w : World) (h : 1048576 < l0 + l1 + l2 + l3 + l4)
    (m0 : l0 ≤ maxLen) (m1 : l1 ≤ maxLen) (m2 : l2 ≤ maxLen) (m3 : l3 ≤ maxLen) (m4 : l4 ≤ maxLen) :
    Calls Try.prog 3 #[.slice a0 l0 c0, .slice a1 l1 c1, .slice a2 l2 c2, .slice a3 l3 c3, .slice a4 l4 c4] w fun e w' => e = .returned (.bool true) ∧ Below w.heap.size w w' := by
  have hb := hid (bytes_no a0 a1 a2 a3 a4 l0 l1 l2 l3 l4 c0 c1 c2 c3 c4 w h m0 m1 m2 m3 m4)
  go_enter Try.func3, Try.ntmps3
  go_wp2_with fail
  refine hb.out.mono ?_
  rintro e w' ⟨rfl, rfl⟩
  go_wp2_with fail
  all_goals try go_big_false
  all_goals (go_ret; exact ⟨rfl, Below.refl _ _⟩)

set_option maxRecDepth 1000000 in
set_option maxHeartbeats 1000000 in
theorem early1 (a0 a1 a2 a3 a4 : Option Addr) (l0 l1 l2 l3 l4 c0 c1 c2 c3 c4 : Nat) (w : World) (h : l0 + l1 + l2 + l3 + l4 ≤ 1048576) (h1 : 262144 < l0 ∨ 262144 < l1 ∨ 262144 < l3) :
    Calls Try.prog 3 #[.slice a0 l0 c0, .slice a1 l1 c1, .slice a2 l2 c2, .slice a3 l3 c3, .slice a4 l4 c4] w fun e w' => e = .returned (.bool true) ∧ Below w.heap.size w w' := by
  have hb := hid (bytes_yes a0 a1 a2 a3 a4 l0 l1 l2 l3 l4 c0 c1 c2 c3 c4 w h)
  by_cases g0 : 262144 < l0
  · clear h1
    go_enter Try.func3, Try.ntmps3
    go_wp2_with fail
    refine hb.out.mono ?_
    rintro e w' ⟨rfl, rfl⟩
    go_wp2_with fail
    all_goals try go_big_false
    all_goals (go_ret; exact ⟨rfl, Below.refl _ _⟩)
  by_cases g1 : 262144 < l1
  · clear h1
    go_enter Try.func3, Try.ntmps3
    go_wp2_with fail
    refine hb.out.mono ?_
    rintro e w' ⟨rfl, rfl⟩
    go_wp2_with fail
    all_goals try go_big_false
    all_goals (go_ret; exact ⟨rfl, Below.refl _ _⟩)
  have g2 : 262144 < l3 := by omega
  clear h1
  go_enter Try.func3, Try.ntmps3
  go_wp2_with fail
  refine hb.out.mono ?_
  rintro e w' ⟨rfl, rfl⟩
  go_wp2_with fail
  all_goals try go_big_false
  all_goals (go_ret; exact ⟨rfl, Below.refl _ _⟩)

set_option maxRecDepth 1000000 in
set_option maxHeartbeats 1000000 in
theorem early2 (a0 a1 a2 a3 a4 : Option Addr) (l0 l1 l2 l3 l4 c0 c1 c2 c3 c4 : Nat) (w : World) (h : l0 + l1 + l2 + l3 + l4 ≤ 1048576) (g0 : l0 ≤ 262144) (g1 : l1 ≤ 262144) (g3 : l3 ≤ 262144)
    (h2 : 1048576 < 4 * l0 + 4 * l1 + 4 * l3 + l2 + l4) :
    Calls Try.prog 3 #[.slice a0 l0 c0, .slice a1 l1 c1, .slice a2 l2 c2, .slice a3 l3 c3, .slice a4 l4 c4] w fun e w' => e = .returned (.bool true) ∧ Below w.heap.size w w' := by
  have hb := hid (bytes_yes a0 a1 a2 a3 a4 l0 l1 l2 l3 l4 c0 c1 c2 c3 c4 w h)
  go_enter Try.func3, Try.ntmps3
  go_wp2_with fail
  refine hb.out.mono ?_
  rintro e w' ⟨rfl, rfl⟩
  go_wp2_with fail
  all_goals try go_big_false
  all_goals (go_ret; exact ⟨rfl, Below.refl _ _⟩)

set_option maxRecDepth 1000000 in
set_option maxHeartbeats 1000000 in
theorem early3 (a0 a1 a2 a3 a4 : Option Addr) (l0 l1 l2 l3 l4 c0 c1 c2 c3 c4 : Nat) (w : World) (h : l0 + l1 + l2 + l3 + l4 ≤ 1048576) (g0 : l0 ≤ 262144) (g1 : l1 ≤ 262144) (g3 : l3 ≤ 262144)
    (g4 : 4 * l0 + 4 * l1 + 4 * l3 + l2 + l4 ≤ 1048576) (h3 : l3 < 1 ∨ l4 ≠ l3 ∨ l2 ≠ l1) :
    Calls Try.prog 3 #[.slice a0 l0 c0, .slice a1 l1 c1, .slice a2 l2 c2, .slice a3 l3 c3, .slice a4 l4 c4] w fun e w' => e = .returned (.bool true) ∧ Below w.heap.size w w' := by
  have hb := hid (bytes_yes a0 a1 a2 a3 a4 l0 l1 l2 l3 l4 c0 c1 c2 c3 c4 w h)
  by_cases k0 : l3 < 1
  · clear h3
    go_enter Try.func3, Try.ntmps3
    go_wp2_with fail
    refine hb.out.mono ?_
    rintro e w' ⟨rfl, rfl⟩
    go_wp2_with fail
    all_goals try go_big_false
    all_goals (go_ret; exact ⟨rfl, Below.refl _ _⟩)
  by_cases k1 : l4 = l3
  · have k2 : ((l2 : Int) != (l1 : Int)) = true := by rw [bne_iff_ne]; omega
    have k3 : ((l4 : Int) != (l3 : Int)) = false := by rw [k1]; simp
    clear h3 k1
    go_enter Try.func3, Try.ntmps3
    go_wp2_with fail
    refine hb.out.mono ?_
    rintro e w' ⟨rfl, rfl⟩
    go_wp2_with fail
    all_goals try go_big_false
    all_goals (go_ret; exact ⟨rfl, Below.refl _ _⟩)
  · have k3 : ((l4 : Int) != (l3 : Int)) = true := by rw [bne_iff_ne]; omega
    clear h3 k1
    go_enter Try.func3, Try.ntmps3
    go_wp2_with fail
    refine hb.out.mono ?_
    rintro e w' ⟨rfl, rfl⟩
    go_wp2_with fail
    all_goals try go_big_false
    all_goals (go_ret; exact ⟨rfl, Below.refl _ _⟩)

set_option maxRecDepth 1000000 in
set_option maxHeartbeats 1000000 in
theorem early4 (a0 a1 a2 a3 a4 : Option Addr) (l0 l1 l3 c0 c1 c2 c3 c4 : Nat) (Z0 : Nat → Int) (w : World) (g0 : l0 ≤ 262144) (g1 : l1 ≤ 262144) (g3 : l3 ≤ 262144)
    (g4 : 4 * l0 + 4 * l1 + 4 * l3 + l1 + l3 ≤ 1048576) (k3 : 1 ≤ l3) (hr : RowI .i32 w a0 l0 Z0) (hz : ∀ i, -2147483648 ≤ Z0 i ∧ Z0 i ≤ 2147483647) (h4 : l0 < 1 ∨ Z0 0 ≠ 0 ∨ Z0 (l0 - 1) ≠ l1) :
    Calls Try.prog 3 #[.slice a0 l0 c0, .slice a1 l1 c1, .slice a2 l1 c2, .slice a3 l3 c3, .slice a4 l3 c4] w fun e w' => e = .returned (.bool true) ∧ Below w.heap.size w w' := by
  have hb := hid (bytes_yes a0 a1 a2 a3 a4 l0 l1 l1 l3 l3 c0 c1 c2 c3 c4 w (by omega))
  by_cases k0 : l0 < 1
  · clear h4 hr hz
    obtain rfl : l0 = 0 := by omega
    go_enter Try.func3, Try.ntmps3
    go_wp2_with fail
    refine hb.out.mono ?_
    rintro e w' ⟨rfl, rfl⟩
    go_wp2_with fail
    all_goals try go_big_false
    all_goals (go_ret; exact ⟨rfl, Below.refl _ _⟩)
  obtain ⟨p, hp⟩ : ∃ p : Nat, (l0 : Int) - 1 = (p : Int) := ⟨l0 - 1, by omega⟩
  obtain ⟨b, off, rfl, q0⟩ := hr 0 (by omega)
  obtain ⟨b', off', e', q1⟩ := hr p (by omega)
  cases e'
  rw [Nat.add_zero] at q0
  obtain ⟨hz0, hz0'⟩ := hz 0
  obtain ⟨hz1, hz1'⟩ := hz p
  rw [show l0 - 1 = p by omega] at h4
  clear hr hz
  generalize Z0 0 = x at *
  generalize Z0 p = y at *
  by_cases k1 : x = 0
  · subst k1
    have k4 : (y != (l1 : Int)) = true := by rw [bne_iff_ne]; omega
    clear h4
    go_enter Try.func3, Try.ntmps3
    go_wp2_with fail
    refine hb.out.mono ?_
    rintro e w' ⟨rfl, rfl⟩
    go_wp2_with fail
    all_goals try go_big_false
    all_goals (go_ret; exact ⟨rfl, Below.refl _ _⟩)
  · have k4 : (x != 0) = true := by rw [bne_iff_ne]; exact k1
    clear h4 k1
    go_enter Try.func3, Try.ntmps3
    go_wp2_with fail
    refine hb.out.mono ?_
    rintro e w' ⟨rfl, rfl⟩
    go_wp2_with fail
    all_goals try go_big_false
    all_goals (go_ret; exact ⟨rfl, Below.refl _ _⟩)

end Go.Proofs.Qxb6614338a
