import Derived.Laws.BitsAllLaws
import Derived.Laws.Bits64
import Derived.Test.Qxb6614338aDoorPlain
namespace Go.Proofs.Qxb6614338aDoor
open Go

theorem pow_lt {k : Nat} (hk : k < 64) : 2 ^ k < 18446744073709551616 := Nat.pow_lt_pow_right (by decide) hk

theorem wrap_pow {k : Nat} (hk : k < 64) : IntKind.u64.wrap ((2 : Int) ^ k) = ((2 ^ k : Nat) : Int) := by
  rw [IntKind.wrap_u64]
  have h := pow_lt hk
  have e : ((2 : Int) ^ k) = ((2 ^ k : Nat) : Int) := by simp
  rw [e]
  generalize 2 ^ k = p at *
  omega

theorem has_bit (x k : Nat) (hx : x < 18446744073709551616) (hk : k < 64) : (bits .and .u64 (x : Int) (IntKind.u64.wrap ((2 : Int) ^ k)) != 0) = x.testBit k := by
  rw [wrap_pow hk, u64_and_nat x _ hx (pow_lt hk), nat_bit, Nat.testBit_eq_decide_div_mod_eq]
  have hp : 0 < 2 ^ k := Nat.two_pow_pos k
  have h2 : x / 2 ^ k % 2 = 0 ∨ x / 2 ^ k % 2 = 1 := by omega
  rcases h2 with h2 | h2
  · rw [h2]; simp
  · rw [h2]
    generalize 2 ^ k = p at *
    simp
    omega

theorem or_bit (x k : Nat) (hx : x < 18446744073709551616) (hk : k < 64) : bits .or .u64 (x : Int) (IntKind.u64.wrap ((2 : Int) ^ k)) = ((x ||| 2 ^ k : Nat) : Int) := by
  rw [wrap_pow hk, u64_or_nat x _ hx (pow_lt hk)]

theorem or_lt (x k : Nat) (hx : x < 18446744073709551616) (hk : k < 64) : x ||| 2 ^ k < 18446744073709551616 := Nat.or_lt_two_pow (n := 64) hx (pow_lt hk)

theorem andNot_bit (x k : Nat) (hx : x < 18446744073709551616) (hk : k < 64) : bits .andNot .u64 (x : Int) (IntKind.u64.wrap ((2 : Int) ^ k)) = ((x &&& (18446744073709551615 - 2 ^ k) : Nat) : Int) := by
  rw [wrap_pow hk, u64_andNot_nat x _ hx (pow_lt hk)]

theorem andNot_lt (x y : Nat) (hx : x < 18446744073709551616) : x &&& y < 18446744073709551616 := Nat.lt_of_le_of_lt Nat.and_le_left hx

/-- Which numbers the words hold. -/
def InS (nb : Nat) (B : Nat → Nat) (s : Nat → Bool) : Prop := ∀ i, i < 64 * nb → (B (i / 64)).testBit (i % 64) = s i

theorem InS.add {nb : Nat} {B : Nat → Nat} {s : Nat → Bool} (h : InS nb B s) (i : Nat) : InS nb (upd B (i / 64) (B (i / 64) ||| 2 ^ (i % 64))) (fun j => s j || j == i) := by
  intro j hj
  by_cases e : j / 64 = i / 64
  · rw [e, upd_same, Nat.testBit_or, ← e, h j hj, Nat.testBit_two_pow]
    congr 1
    rw [Bool.eq_iff_iff]
    simp
    omega
  · rw [upd_other e, h j hj]
    have : (j == i) = false := beq_eq_false_iff_ne.2 (by intro q; exact e (by rw [q]))
    show s j = (s j || (j == i))
    rw [this, Bool.or_false]

theorem InS.remove {nb : Nat} {B : Nat → Nat} {s : Nat → Bool} (h : InS nb B s) (i : Nat) : InS nb (upd B (i / 64) (B (i / 64) &&& (18446744073709551615 - 2 ^ (i % 64)))) (fun j => s j && !(j == i)) := by
  intro j hj
  by_cases e : j / 64 = i / 64
  · rw [e, upd_same, Nat.testBit_and, ← e, h j hj]
    congr 1
    have hk : i % 64 < 64 := Nat.mod_lt _ (by decide)
    have h1 : 18446744073709551615 - 2 ^ (i % 64) = 2 ^ 64 - (2 ^ (i % 64) + 1) := by have := pow_lt hk; omega
    rw [h1, Nat.testBit_two_pow_sub_succ (pow_lt hk), Nat.testBit_two_pow]
    have hj64 : j % 64 < 64 := Nat.mod_lt _ (by decide)
    rw [decide_eq_true hj64, Bool.true_and]
    congr 1
    rw [Bool.eq_iff_iff]
    simp
    omega
  · rw [upd_other e, h j hj]
    have : (j == i) = false := beq_eq_false_iff_ne.2 (by intro q; exact e (by rw [q]))
    show s j = (s j && !(j == i))
    rw [this]
    simp

theorem InS.empty (nb : Nat) : InS nb (fun _ => 0) (fun _ => false) := fun i _ => by simp

theorem low_nat (v : Nat) (hv : v % 4 = 2) (hlt : v < 18446744073709551616) : v &&& (18446744073709551616 - v) = 2 := by
  obtain ⟨q, rfl⟩ : ∃ q, v = 4 * q + 2 := ⟨v / 4, by omega⟩
  apply Nat.eq_of_testBit_eq
  intro i
  have h1 : 18446744073709551616 - (4 * q + 2) = 2 ^ 64 - ((4 * q + 1) + 1) := rfl
  rw [Nat.testBit_and, h1, Nat.testBit_two_pow_sub_succ (x := 4 * q + 1) (by omega)]
  match i with
  | 0 => simp [Nat.testBit_zero]; omega
  | 1 =>
    have a1 : (4 * q + 2).testBit 1 = true := by rw [Nat.testBit_eq_decide_div_mod_eq]; simp; omega
    have a2 : (4 * q + 1).testBit 1 = false := by rw [Nat.testBit_eq_decide_div_mod_eq]; simp; omega
    rw [a1, a2]; rfl
  | j + 2 =>
    have a1 : (4 * q + 2).testBit (j + 2) = q.testBit j := by
      have := Nat.testBit_div_two_pow (n := 2) (4 * q + 2) j
      rw [show (4 * q + 2) / 2 ^ 2 = q by omega] at this
      exact this.symm
    have a2 : (4 * q + 1).testBit (j + 2) = q.testBit j := by
      have := Nat.testBit_div_two_pow (n := 2) (4 * q + 1) j
      rw [show (4 * q + 1) / 2 ^ 2 = q by omega] at this
      exact this.symm
    have a3 : (2 : Nat).testBit (j + 2) = false := by
      have := Nat.testBit_div_two_pow (n := 2) 2 j
      rw [show 2 / 2 ^ 2 = 0 by omega] at this
      rw [← this]
      simp
    rw [a1, a2, a3]
    cases q.testBit j <;> simp

theorem low_two (v : Nat) (hv : v % 4 = 2) (hlt : v < 18446744073709551616) : bits .and .u64 (v : Int) (IntKind.u64.wrap (-(v : Int))) = 2 := by
  have e : IntKind.u64.wrap (-(v : Int)) = ((18446744073709551616 - v : Nat) : Int) := by rw [IntKind.wrap_u64]; omega
  rw [e, u64_and_nat v _ hlt (by omega), low_nat v hv hlt]
  rfl

theorem xor_all (x : Nat) (hx : x < 18446744073709551616) : bits .xor .u64 (if IntKind.u64.signed = true then -1 else IntKind.u64.max) (x : Int) = ((18446744073709551615 - x : Nat) : Int) := by
  have e : (if IntKind.u64.signed = true then (-1 : Int) else IntKind.u64.max) = ((18446744073709551615 : Nat) : Int) := by decide
  rw [e, u64_xor_nat _ x (by decide) hx]
  congr 1
  apply Nat.eq_of_testBit_eq
  intro i
  have h1 : 18446744073709551615 - x = 2 ^ 64 - (x + 1) := by omega
  have h2 : 18446744073709551615 = 2 ^ 64 - 1 := rfl
  rw [Nat.testBit_xor, h1, Nat.testBit_two_pow_sub_succ hx, h2, Nat.testBit_two_pow_sub_one]
  by_cases hi : i < 64
  · simp [hi]
  · have : x.testBit i = false := Nat.testBit_lt_two_pow (Nat.lt_of_lt_of_le hx (Nat.pow_le_pow_right (n := 2) (i := 64) (by decide) (by omega)))
    simp [hi, this]

theorem low_four : bits .and .u64 18446744073709551612 (IntKind.u64.wrap (-18446744073709551612)) = 4 := by decide +kernel

end Go.Proofs.Qxb6614338aDoor
